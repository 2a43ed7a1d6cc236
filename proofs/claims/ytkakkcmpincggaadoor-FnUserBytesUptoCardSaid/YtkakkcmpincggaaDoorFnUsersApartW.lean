/- What FnUsersApart and FnUserBytes return, where memory holds the table. -/
import Derived.Test.YtkakkcmpincggaaDoorUserStr
import Derived.Test.YtkakkcmpincggaaDoorHas
namespace Go.Proofs.YtkakkcmpincggaaDoor
open Go.RowKit

set_option maxHeartbeats 2000000 in
/-- two Userinfos that are the same -/
theorem usersApart_same (a p b q : ByteArray) (has : Bool) (ha : a.size ≤ 1048576) (hp : p.size ≤ 1048576) (hb : b.size ≤ 1048576) (hq : q.size ≤ 1048576) (w : World) (hT : Tab w)
    (he : usB a p has = usB b q has) (h1 : a = b) (h2 : has = true → p = q) :
    Calls Tryd.prog 11 #[.string a, .string p, .string b, .string q, .bool has] w fun e w' => e = .returned (.bool true) ∧ Below w.heap.size w w' := by
  have HT := Lib.hid hT
  clear hT
  have z1 : (⟨#[97]⟩ ++ a : ByteArray).size ≤ 4194304 := by rw [one_more]; omega
  have hne := usB_ne 97 a p has
  subst h1
  have C2 : Hid (∀ wx, Tab wx → Calls Tryd.prog 17 #[.string a, .string q, .bool has] wx fun e w' => e = .returned (.string (usB a p has)) ∧ Below wx.heap.size wx w') := fun wx h => by rw [he]; exact implUS_any a q has wx (by omega) (by omega) h
  clear he
  cases has
  · clear h2
    go_enter Tryd.func11, Tryd.ntmps11
    go_wp2_with fail
    refine (implUS_any _ _ _ _ (by omega) (by omega) HT.out).mono ?_
    rintro e w1 ⟨rfl, hb1⟩
    have HT1 := Lib.hid (HT.out.below hb1)
    go_wp2_with fail
    refine (C2.out _ HT1.out).mono ?_
    rintro e w2 ⟨rfl, hb2⟩
    have hc2 := hb1.trans (hb2.mono hb1.size)
    have HT2 := Lib.hid (HT.out.below hc2)
    go_wp2_with fail
    refine (implUS_any _ _ _ _ z1 (by omega) HT2.out).mono ?_
    rintro e w3 ⟨rfl, hb3⟩
    go_wp2_with fail
    go_ret
    exact ⟨rfl, hc2.trans (hb3.mono hc2.size)⟩
  · have h2' := h2 rfl
    clear h2
    subst h2'
    go_enter Tryd.func11, Tryd.ntmps11
    go_wp2_with fail
    refine (implUS_any _ _ _ _ (by omega) (by omega) HT.out).mono ?_
    rintro e w1 ⟨rfl, hb1⟩
    have HT1 := Lib.hid (HT.out.below hb1)
    go_wp2_with fail
    refine (C2.out _ HT1.out).mono ?_
    rintro e w2 ⟨rfl, hb2⟩
    have hc2 := hb1.trans (hb2.mono hb1.size)
    have HT2 := Lib.hid (HT.out.below hc2)
    go_wp2_with fail
    refine (implUS_any _ _ _ _ z1 (by omega) HT2.out).mono ?_
    rintro e w3 ⟨rfl, hb3⟩
    go_wp2_with fail
    go_ret
    exact ⟨rfl, hc2.trans (hb3.mono hc2.size)⟩

set_option maxHeartbeats 2000000 in
/-- two Userinfos with other names -/
theorem usersApart_names (a p b q : ByteArray) (has : Bool) (ha : a.size ≤ 1048576) (hp : p.size ≤ 1048576) (hb : b.size ≤ 1048576) (hq : q.size ≤ 1048576) (w : World) (hT : Tab w)
    (he : ¬ usB a p has = usB b q has) (h1 : ¬ a = b) :
    Calls Tryd.prog 11 #[.string a, .string p, .string b, .string q, .bool has] w fun e w' => e = .returned (.bool true) ∧ Below w.heap.size w w' := by
  have HT := Lib.hid hT
  clear hT
  have z1 : (⟨#[97]⟩ ++ a : ByteArray).size ≤ 4194304 := by rw [one_more]; omega
  have hne := usB_ne 97 a p has
  have hf := str_ne h1
  have hg := str_ne he
  clear h1 he
  have C2 : Hid (∀ wx, Tab wx → Calls Tryd.prog 17 #[.string b, .string q, .bool has] wx fun e w' => e = .returned (.string (usB b q has)) ∧ Below wx.heap.size wx w') := fun wx h => implUS_any b q has wx (by omega) (by omega) h
  cases has
  · go_enter Tryd.func11, Tryd.ntmps11
    go_wp2_with fail
    refine (implUS_any _ _ _ _ (by omega) (by omega) HT.out).mono ?_
    rintro e w1 ⟨rfl, hb1⟩
    have HT1 := Lib.hid (HT.out.below hb1)
    go_wp2_with fail
    refine (C2.out _ HT1.out).mono ?_
    rintro e w2 ⟨rfl, hb2⟩
    have hc2 := hb1.trans (hb2.mono hb1.size)
    have HT2 := Lib.hid (HT.out.below hc2)
    go_wp2_with fail
    refine (implUS_any _ _ _ _ z1 (by omega) HT2.out).mono ?_
    rintro e w3 ⟨rfl, hb3⟩
    go_wp2_with fail
    go_ret
    exact ⟨rfl, hc2.trans (hb3.mono hc2.size)⟩
  · go_enter Tryd.func11, Tryd.ntmps11
    go_wp2_with fail
    refine (implUS_any _ _ _ _ (by omega) (by omega) HT.out).mono ?_
    rintro e w1 ⟨rfl, hb1⟩
    have HT1 := Lib.hid (HT.out.below hb1)
    go_wp2_with fail
    refine (C2.out _ HT1.out).mono ?_
    rintro e w2 ⟨rfl, hb2⟩
    have hc2 := hb1.trans (hb2.mono hb1.size)
    have HT2 := Lib.hid (HT.out.below hc2)
    go_wp2_with fail
    refine (implUS_any _ _ _ _ z1 (by omega) HT2.out).mono ?_
    rintro e w3 ⟨rfl, hb3⟩
    go_wp2_with fail
    go_ret
    exact ⟨rfl, hc2.trans (hb3.mono hc2.size)⟩

set_option maxHeartbeats 2000000 in
/-- two Userinfos with other passwords -/
theorem usersApart_words (a p q : ByteArray) (ha : a.size ≤ 1048576) (hp : p.size ≤ 1048576) (hq : q.size ≤ 1048576) (w : World) (hT : Tab w)
    (he : ¬ usB a p true = usB a q true) (h2 : ¬ p = q) :
    Calls Tryd.prog 11 #[.string a, .string p, .string a, .string q, .bool true] w fun e w' => e = .returned (.bool true) ∧ Below w.heap.size w w' := by
  have HT := Lib.hid hT
  clear hT
  have z1 : (⟨#[97]⟩ ++ a : ByteArray).size ≤ 4194304 := by rw [one_more]; omega
  have hne := usB_ne 97 a p true
  have hf := str_ne h2
  have hg := str_ne he
  clear h2 he
  have C2 : Hid (∀ wx, Tab wx → Calls Tryd.prog 17 #[.string a, .string q, .bool true] wx fun e w' => e = .returned (.string (usB a q true)) ∧ Below wx.heap.size wx w') := fun wx h => implUS_any a q true wx (by omega) (by omega) h
  go_enter Tryd.func11, Tryd.ntmps11
  go_wp2_with fail
  refine (implUS_any _ _ _ _ (by omega) (by omega) HT.out).mono ?_
  rintro e w1 ⟨rfl, hb1⟩
  have HT1 := Lib.hid (HT.out.below hb1)
  go_wp2_with fail
  refine (C2.out _ HT1.out).mono ?_
  rintro e w2 ⟨rfl, hb2⟩
  have hc2 := hb1.trans (hb2.mono hb1.size)
  have HT2 := Lib.hid (HT.out.below hc2)
  go_wp2_with fail
  refine (implUS_any _ _ _ _ z1 (by omega) HT2.out).mono ?_
  rintro e w3 ⟨rfl, hb3⟩
  go_wp2_with fail
  go_ret
  exact ⟨rfl, hc2.trans (hb3.mono hc2.size)⟩

theorem fnUsersApart_walk (a p b q : ByteArray) (has : Bool) (ha : a.size ≤ 1048576) (hp : p.size ≤ 1048576) (hb : b.size ≤ 1048576) (hq : q.size ≤ 1048576) (w : World) (hT : Tab w) :
    Calls Tryd.prog 11 #[.string a, .string p, .string b, .string q, .bool has] w fun e w' => e = .returned (.bool true) ∧ Below w.heap.size w w' := by
  by_cases h1 : a = b
  · cases has
    · subst h1
      exact usersApart_same a p a q false ha hp hb hq w hT rfl rfl (fun h => by cases h)
    · by_cases h2 : p = q
      · subst h1 h2
        exact usersApart_same a p a p true ha hp hb hq w hT rfl rfl (fun _ => rfl)
      · subst h1
        exact usersApart_words a p q ha hp hq w hT (fun e => h2 (usB_inj_true e).2) h2
  · refine usersApart_names a p b q has ha hp hb hq w hT (fun e => h1 ?_) h1
    cases has
    · exact usB_inj_false e
    · exact (usB_inj_true e).1

/-! ### FnUserBytes -/
theorem usB_bytes (n p : ByteArray) (has : Bool) (j : Nat) (hj : j < (usB n p has).size) : hasL [47, 63, 35, 91, 93, 64] (usB n p has)[j] = false := by
  have hm : (usB n p has)[j] ∈ (usB n p has).data.toList := by
    have hl : j < (usB n p has).data.toList.length := by simpa using hj
    rw [← at_byte _ j hj hl]; exact List.getElem_mem hl
  have hall : ∀ c, c ∈ (usB n p has).data.toList → hasL [47, 63, 35, 91, 93, 64] c = false := by
    intro c hc
    have one : ∀ l, c ∈ encP 16 l → hasL [47, 63, 35, 91, 93, 64] c = false := fun l h => by
      rcases user_mem l c h with h | rfl
      · exact (user_byte c h).2
      · decide
    cases has
    · rw [usB_data'] at hc; exact one _ hc
    · rw [usB_data, List.mem_append, List.mem_cons] at hc
      rcases hc with h | rfl | h
      · exact one _ h
      · decide
      · exact one _ h
  exact hall _ hm

set_option maxHeartbeats 2000000 in
theorem userBytes_core (s n p : ByteArray) (has : Bool) (w : World) (hn : n.size ≤ 1048576) (hz : s.size ≤ 25165825) (hx : (s.toList.isEmpty) = false)
    (HC : Hid (Calls Tryd.prog 17 #[.string (⟨#[97]⟩ ++ n), .string p, .bool has] w fun e w' => e = .returned (.string s) ∧ Below w.heap.size w w'))
    (HB : Hid (∀ j (hj : j < s.size), hasL [47, 63, 35, 91, 93, 64] s[j] = false)) :
    Calls Tryd.prog 8 #[.string n, .string p, .bool has] w fun e w' => e = .returned (.bool true) ∧ Below w.heap.size w w' := by
  go_enter Tryd.func8, Tryd.ntmps8
  go_wp2_with fail
  refine (HC.out).mono ?_
  rintro e w1 ⟨rfl, hb1⟩
  go_wp2_with fail
  go_loop [16, 6] (fun i r => ∃ k : Nat, k ≤ s.size ∧ i = .int .i64 k ∧ r = .bool false) (fun i _ => s.size - (intOf i).toNat)
  case atStart => exact ⟨0, Nat.zero_le _, rfl, rfl⟩
  case round =>
    obtain ⟨k, hk, rfl, rfl⟩ := hrel
    by_cases hlt : k < s.size
    · have HH : Hid (Calls Tryd.prog 18 #[.string ⟨#[47, 63, 35, 91, 93, 64]⟩, .int .u8 ((s[k]'hlt).toNat : Int)] w1 fun e w' => e = .returned (.bool false) ∧ w1 = w') := by
        have h := has_any ⟨#[47, 63, 35, 91, 93, 64]⟩ (s[k]'hlt) w1 (by decide)
        rw [show hasL (⟨#[47, 63, 35, 91, 93, 64]⟩ : ByteArray).data.toList (s[k]'hlt) = false from HB.out k hlt] at h
        exact h
      go_wp2_with fail
      refine (HH.out).mono ?_
      rintro e w' ⟨rfl, rfl⟩
      go_wp2_with fail
      go_round
      case rel => exact ⟨k + 1, by omega, by go_num, rfl⟩
      case measure => simp [intOf]; omega
    · go_wp2_with fail
      go_ret
      exact ⟨rfl, hb1⟩

theorem fnUserBytes_walk (n p : ByteArray) (has : Bool) (hn : n.size ≤ 1048576) (hp : p.size ≤ 1048576) (w : World) (hT : Tab w) :
    Calls Tryd.prog 8 #[.string n, .string p, .bool has] w fun e w' => e = .returned (.bool true) ∧ Below w.heap.size w w' := by
  have z1 : (⟨#[97]⟩ ++ n : ByteArray).size ≤ 4194304 := by rw [one_more]; omega
  have h1 : p.size ≤ 4194304 := by omega
  have h2 := usB_size (⟨#[97]⟩ ++ n) p has z1 h1
  have h3 := usB_ne 97 n p has
  have h4 := Lib.hid (implUS_any (⟨#[97]⟩ ++ n) p has w z1 h1 hT)
  have h5 := usB_bytes (⟨#[97]⟩ ++ n) p has
  generalize usB (⟨#[97]⟩ ++ n) p has = s at *
  exact userBytes_core s n p has w hn h2 h3 h4 h5
end Go.Proofs.YtkakkcmpincggaaDoor
