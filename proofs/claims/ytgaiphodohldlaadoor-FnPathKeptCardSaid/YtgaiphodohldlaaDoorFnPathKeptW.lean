/- What FnPathKept returns, for every raw path, where memory holds the table. -/
import Derived.Test.YtgaiphodohldlaaDoorFnPathDecodesW
namespace Go.Proofs.YtgaiphodohldlaaDoor
open Go.RowKit

theorem decode_len : ∀ (n : Nat) (l p : List UInt8), l.length ≤ n → plain.decode l = some p → p.length ≤ l.length
  | n, l, p, hn, h => by
    rcases plain.decode_cases h with ⟨rfl, rfl⟩ | ⟨c, r, q, hc, rfl, hq, rfl⟩ | ⟨a, b, r, q, ha, hb, rfl, hq, rfl⟩
    · exact Nat.le_refl _
    · match n, hn with
      | n + 1, hn =>
        have ih := decode_len n r q (by simpa using hn) hq
        simp; exact ih
    · match n, hn with
      | n + 1, hn =>
        have ih := decode_len n r q (by simp at hn; omega) hq
        simp; omega

theorem implEP_kept (p r : ByteArray) (w : World) (hr : r.size < 140737488355328) (hT : Tab w) (hk : keptPath p.data.toList r.data.toList) :
    Calls Tryd.prog 15 #[.string p, .string r] w fun e w' => e = .returned (.string r) ∧ Below w.heap.size w w' := by
  have HT := Lib.hid hT
  have HK := Lib.hid hk
  clear hT hk
  go_enter Tryd.func15, Tryd.ntmps15
  go_wp2_with fail
  refine (escPath_kept _ p r _ ?_ ?_ ?_ hr ?_ HK.out).mono ?_
  · simp
  · go_simp
  · go_simp
  · exact HT.out.below ((Below.refl _ _).alloc (Nat.le_refl _) _)
  rintro e w1 ⟨rfl, hb⟩
  go_wp2_with fail
  go_ret
  exact ⟨rfl, ((Below.refl _ _).alloc (Nat.le_refl _) _).trans (hb.mono (by simp))⟩

theorem ep_kept (q r : ByteArray) (w : World) (hr : r.size < 140737488355328) (hT : Tab w) (hd : plain.decode r.data.toList = some q.data.toList) (hv : validL 1 r.data.toList = true) :
    Calls Tryd.prog 15 #[.string q, .string r] w fun e w' => e = .returned (.string r) ∧ Below w.heap.size w w' := by
  by_cases h0 : r.data.toList = []
  · have hq : q = ⟨#[]⟩ := S_ext (by rw [h0] at hd; exact (Option.some.inj hd).symm)
    have hr0 : r = ⟨#[]⟩ := S_ext h0
    subst hq hr0
    have h := implEP_any ⟨#[]⟩ ⟨#[]⟩ w (by decide) none_size hT
    have e : epB ⟨#[]⟩ ⟨#[]⟩ = ⟨#[]⟩ := by
      rw [epB]
      exact congrArg S epL_nil
    rw [e] at h
    exact h
  · exact implEP_kept q r w hr hT ⟨h0, hv, hd⟩

theorem valid_snoc {l : List UInt8} (h : validL 1 l = true) : validL 1 (l ++ [97]) = true := by
  rw [validL, List.all_append, show l.all (okB 1) = true from h]; decide +kernel

set_option maxHeartbeats 1000000 in
theorem fnPathKept_walk (r : ByteArray) (hr : r.size < 140737488355327) (w : World) (hT : Tab w) :
    Calls Tryd.prog 8 #[.string r] w fun e w' => e = .returned (.bool true) ∧ Below w.heap.size w w' := by
  have HT := Lib.hid hT
  clear hT
  cases hd : plain.decode r.data.toList with
  | none =>
    have CD := Lib.hid (fun wx => dec_none r wx (by omega) hd)
    clear hd
    go_enter Tryd.func8, Tryd.ntmps8
    go_wp2_with fail
    refine (CD.out _).mono ?_
    rintro e w1 ⟨rfl, hb1⟩
    go_wp2_with fail
    go_ret
    exact ⟨rfl, hb1⟩
  | some p =>
    have CD := Lib.hid (fun wx => dec_some r p wx (by omega) hd)
    have hlen := decode_len _ _ p (Nat.le_refl _) hd
    rw [size_data, ← S_size p] at hlen
    have CI := Lib.hid (fun wx => isPath_any r wx (by omega))
    cases hi : plain.isOf (stands pathO) r.data.toList
    · rw [hi] at CI
      generalize S p = q at *
      clear hd hi
      go_enter Tryd.func8, Tryd.ntmps8
      go_wp2_with fail
      refine (CD.out _).mono ?_
      rintro e w1 ⟨rfl, hb1⟩
      go_wp2_with fail
      refine (CI.out _).mono ?_
      rintro e w' ⟨rfl, rfl⟩
      go_wp2_with fail
      go_ret
      exact ⟨rfl, hb1⟩
    · rw [hi] at CI
      have hv := valid_pathO hd hi
      have C1 : Hid (∀ wx, Tab wx → Calls Tryd.prog 15 #[.string (S p), .string r] wx fun e w' => e = .returned (.string r) ∧ Below wx.heap.size wx w') := fun wx h => ep_kept (S p) r wx (by omega) h (by rw [data_S]; exact hd) hv
      have C2 : Hid (∀ wx, Tab wx → Calls Tryd.prog 15 #[.string (S p ++ ⟨#[97]⟩), .string (r ++ ⟨#[97]⟩)] wx fun e w' => e = .returned (.string (r ++ ⟨#[97]⟩)) ∧ Below wx.heap.size wx w') := fun wx h => ep_kept _ _ wx (by rw [more_one]; omega) h (by rw [data_app, data_app, data_S]; exact plain.decode_snoc (by decide) _ _ _ (Nat.le_refl _) hd) (by rw [data_app]; exact valid_snoc hv)
      generalize S p = q at *
      clear hd hi hv
      go_enter Tryd.func8, Tryd.ntmps8
      go_wp2_with fail
      refine (CD.out _).mono ?_
      rintro e w1 ⟨rfl, hb1⟩
      have HT1 := Lib.hid (HT.out.below hb1)
      go_wp2_with fail
      refine (CI.out _).mono ?_
      rintro e w' ⟨rfl, rfl⟩
      go_wp2_with fail
      refine (C1.out _ HT1.out).mono ?_
      rintro e w2 ⟨rfl, hb2⟩
      have hc2 := hb1.trans (hb2.mono hb1.size)
      have HT2 := Lib.hid (HT.out.below hc2)
      go_wp2_with fail
      refine (C2.out _ HT2.out).mono ?_
      rintro e w3 ⟨rfl, hb3⟩
      go_wp2_with fail
      go_ret
      exact ⟨rfl, hc2.trans (hb3.mono hc2.size)⟩
end Go.Proofs.YtgaiphodohldlaaDoor
