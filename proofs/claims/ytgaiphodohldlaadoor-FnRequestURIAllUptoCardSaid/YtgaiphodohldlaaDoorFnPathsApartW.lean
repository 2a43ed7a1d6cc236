/- What FnPathsApart, FnPathAgain and FnPathsTogether return, for all paths of at most 1048576 bytes, where memory holds the table. -/
import Derived.Test.YtgaiphodohldlaaDoorImplEP
namespace Go.Proofs.YtgaiphodohldlaaDoor
open Go.RowKit

theorem one_more (c : UInt8) (a : ByteArray) : (⟨#[c]⟩ ++ a : ByteArray).size = a.size + 1 := by rw [ByteArray.size_append]; show 1 + _ = _; omega
theorem made_ne (c : UInt8) (a r : ByteArray) : (epB (⟨#[c]⟩ ++ a) r).toList.isEmpty = false := epB_ne (by rw [data_app]; simp)
theorem none_size : (⟨#[]⟩ : ByteArray).size < 140737488355328 := by decide

set_option maxHeartbeats 1000000 in
theorem fnPathsApart_walk (a b : ByteArray) (ha : a.size ≤ 1048576) (hb : b.size ≤ 1048576) (w : World) (hT : Tab w) :
    Calls Tryd.prog 9 #[.string a, .string b] w fun e w' => e = .returned (.bool true) ∧ Below w.heap.size w w' := by
  have HT := Lib.hid hT
  clear hT
  have z1 : (⟨#[47]⟩ ++ a : ByteArray).size ≤ 4194304 := by rw [one_more]; omega
  have hne := made_ne 47 a ⟨#[]⟩
  by_cases hab : a = b
  · subst hab
    go_enter Tryd.func9, Tryd.ntmps9
    go_wp2_with fail
    refine (implEP_any _ _ _ (by omega) none_size HT.out).mono ?_
    rintro e w1 ⟨rfl, hb1⟩
    have HT1 := Lib.hid (HT.out.below hb1)
    go_wp2_with fail
    refine (implEP_any _ _ _ (by omega) none_size HT1.out).mono ?_
    rintro e w2 ⟨rfl, hb2⟩
    have HT2 := Lib.hid (HT1.out.below hb2)
    go_wp2_with fail
    refine (implEP_any _ _ _ z1 none_size HT2.out).mono ?_
    rintro e w3 ⟨rfl, hb3⟩
    go_wp2_with fail
    go_ret
    exact ⟨rfl, hb1.trans ((hb2.mono hb1.size).trans (hb3.mono (Nat.le_trans hb1.size hb2.size)))⟩
  · have hf := str_ne hab
    have hg : ((epB a ⟨#[]⟩).toList == (epB b ⟨#[]⟩).toList) = false :=
      str_ne (fun e => hab (S_ext (epL_inj (S_inj e))))
    clear hab
    go_enter Tryd.func9, Tryd.ntmps9
    go_wp2_with fail
    refine (implEP_any _ _ _ (by omega) none_size HT.out).mono ?_
    rintro e w1 ⟨rfl, hb1⟩
    have HT1 := Lib.hid (HT.out.below hb1)
    go_wp2_with fail
    refine (implEP_any _ _ _ (by omega) none_size HT1.out).mono ?_
    rintro e w2 ⟨rfl, hb2⟩
    have HT2 := Lib.hid (HT1.out.below hb2)
    go_wp2_with fail
    refine (implEP_any _ _ _ z1 none_size HT2.out).mono ?_
    rintro e w3 ⟨rfl, hb3⟩
    go_wp2_with fail
    go_ret
    exact ⟨rfl, hb1.trans ((hb2.mono hb1.size).trans (hb3.mono (Nat.le_trans hb1.size hb2.size)))⟩

theorem epB_again (p r : ByteArray) : epB p (epB p r) = epB p r := by rw [epB, epB, data_S, epL_again]

set_option maxHeartbeats 1000000 in
theorem fnPathAgain_walk (p r : ByteArray) (hp : p.size ≤ 1048576) (hr : r.size ≤ 1048576) (w : World) (hT : Tab w) :
    Calls Tryd.prog 4 #[.string p, .string r] w fun e w' => e = .returned (.bool true) ∧ Below w.heap.size w w' := by
  have HT := Lib.hid hT
  clear hT
  have hz := epB_size p r
  have z1 : (epB p r).size < 140737488355328 := by omega
  have HA := Lib.hid (epB_again p r)
  cases he : p.toList.isEmpty
  · have hne : (epB p r).toList.isEmpty = false := epB_ne (ne_nil he)
    go_enter Tryd.func4, Tryd.ntmps4
    go_wp2_with fail
    refine (implEP_any _ _ _ (by omega) (by omega) HT.out).mono ?_
    rintro e w1 ⟨rfl, hb1⟩
    have HT1 := Lib.hid (HT.out.below hb1)
    go_wp2_with fail
    refine (implEP_any _ _ _ (by omega) z1 HT1.out).mono ?_
    rintro e w2 ⟨rfl, hb2⟩
    rw [HA.out]
    go_wp2_with fail
    go_ret
    exact ⟨rfl, hb1.trans (hb2.mono hb1.size)⟩
  · go_enter Tryd.func4, Tryd.ntmps4
    go_wp2_with fail
    refine (implEP_any _ _ _ (by omega) (by omega) HT.out).mono ?_
    rintro e w1 ⟨rfl, hb1⟩
    have HT1 := Lib.hid (HT.out.below hb1)
    go_wp2_with fail
    refine (implEP_any _ _ _ (by omega) z1 HT1.out).mono ?_
    rintro e w2 ⟨rfl, hb2⟩
    rw [HA.out]
    go_wp2_with fail
    go_ret
    exact ⟨rfl, hb1.trans (hb2.mono hb1.size)⟩

theorem epB_app {a b : ByteArray} (ha : ¬ a = ⟨#[42]⟩) (hb : ¬ b = ⟨#[42]⟩) (hc : ¬ a ++ b = ⟨#[42]⟩) : epB (a ++ b) ⟨#[]⟩ = epB a ⟨#[]⟩ ++ epB b ⟨#[]⟩ := by
  rw [epB, epB, epB, S_app, data_app]
  exact congrArg S (epL_app (fun e => ha (S_ext e)) (fun e => hb (S_ext e)) (fun e => hc (S_ext (by rw [data_app]; exact e))))

theorem star_ne {a : ByteArray} (h : ¬ a = ⟨#[42]⟩) : (a.toList == [42]) = false := list_ne' (fun e => h (S_ext e))

set_option maxHeartbeats 2000000 in
theorem fnPathsTogether_walk (a b : ByteArray) (ha : a.size ≤ 1048576) (hb : b.size ≤ 1048576) (w : World) (hT : Tab w) :
    Calls Tryd.prog 10 #[.string a, .string b] w fun e w' => e = .returned (.bool true) ∧ Below w.heap.size w w' := by
  have HT := Lib.hid hT
  clear hT
  have z1 : (⟨#[47]⟩ ++ a : ByteArray).size ≤ 4194304 := by rw [one_more]; omega
  have z2 : (a ++ b : ByteArray).size ≤ 4194304 := by rw [ByteArray.size_append]; omega
  have s1 := epB_size a ⟨#[]⟩
  have s2 := epB_size b ⟨#[]⟩
  have s0 : (⟨#[]⟩ : ByteArray).size = 0 := rfl
  have s3 : (epB a ⟨#[]⟩).size ≤ 4194304 := by omega
  have s4 : (epB b ⟨#[]⟩).size ≤ 4194304 := by omega
  clear s1 s2 s0
  have hne := made_ne 47 a ⟨#[]⟩
  by_cases h1 : a = ⟨#[42]⟩
  · subst h1
    go_enter Tryd.func10, Tryd.ntmps10
    go_wp2_with fail
    go_ret
    exact ⟨rfl, Below.refl _ _⟩
  · have n1 := star_ne h1
    by_cases h2 : b = ⟨#[42]⟩
    · subst h2
      clear h1
      go_enter Tryd.func10, Tryd.ntmps10
      go_wp2_with fail
      go_ret
      exact ⟨rfl, Below.refl _ _⟩
    · have n2 := star_ne h2
      by_cases h3 : a ++ b = ⟨#[42]⟩
      · have n3 : ((a ++ b).toList == [42]) = true := by rw [h3, Lib.toList_data]; rfl
        clear h1 h2 h3
        go_enter Tryd.func10, Tryd.ntmps10
        go_wp2_with fail
        go_ret
        exact ⟨rfl, Below.refl _ _⟩
      · have n3 := star_ne h3
        have HA := Lib.hid (epB_app h1 h2 h3)
        clear h1 h2 h3
        go_enter Tryd.func10, Tryd.ntmps10
        go_wp2_with fail
        refine (implEP_any _ _ _ z2 none_size HT.out).mono ?_
        rintro e w1 ⟨rfl, hb1⟩
        rw [HA.out]
        have HT1 := Lib.hid (HT.out.below hb1)
        go_wp2_with fail
        refine (implEP_any _ _ _ (by omega) none_size HT1.out).mono ?_
        rintro e w2 ⟨rfl, hb2⟩
        have HT2 := Lib.hid (HT1.out.below hb2)
        go_wp2_with fail
        refine (implEP_any _ _ _ (by omega) none_size HT2.out).mono ?_
        rintro e w3 ⟨rfl, hb3⟩
        have HT3 := Lib.hid (HT2.out.below hb3)
        go_wp2_with fail
        refine (implEP_any _ _ _ z1 none_size HT3.out).mono ?_
        rintro e w4 ⟨rfl, hb4⟩
        go_wp2_with fail
        go_ret
        exact ⟨rfl, hb1.trans ((hb2.mono hb1.size).trans ((hb3.mono (Nat.le_trans hb1.size hb2.size)).trans (hb4.mono (Nat.le_trans hb1.size (Nat.le_trans hb2.size hb3.size)))))⟩
end Go.Proofs.YtgaiphodohldlaaDoor
