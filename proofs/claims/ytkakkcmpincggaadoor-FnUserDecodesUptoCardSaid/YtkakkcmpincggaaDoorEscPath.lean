/- What (*net/url.URL).EscapedPath returns, for every URL in memory, where memory holds the table. -/
import Derived.Test.YtkakkcmpincggaaDoorStr
import Derived.Test.YtkakkcmpincggaaDoorValid
import Derived.Test.YtkakkcmpincggaaDoorEscape
import Derived.Test.YtkakkcmpincggaaDoorUnescape
namespace Go.Proofs.YtkakkcmpincggaaDoor
open Go.RowKit

/-- is a raw form a valid escaping? -/
def keptPath (v raw : List UInt8) : Prop := raw ≠ [] ∧ validL 1 raw = true ∧ plain.decode raw = some v
/-- the escaped form -/
noncomputable def epL (v raw : List UInt8) : List UInt8 := open Classical in if keptPath v raw then raw else if v = [42] then [42] else encP 1 v
theorem epL_kept {v raw : List UInt8} (h : keptPath v raw) : epL v raw = raw := by unfold epL; rw [if_pos h]
theorem epL_star {v raw : List UInt8} (h : ¬ keptPath v raw) (hv : v = [42]) : epL v raw = [42] := by unfold epL; rw [if_neg h, if_pos hv]
theorem epL_made {v raw : List UInt8} (h : ¬ keptPath v raw) (hv : v ≠ [42]) : epL v raw = encP 1 v := by unfold epL; rw [if_neg h, if_neg hv]

set_option maxHeartbeats 2000000 in
theorem escPath_kept (b : Nat) (v r : ByteArray) (w : World) (hb : b < w.heap.size) (c0 : w.cell? ⟨b, 4, none⟩ = some (.string v)) (c1 : w.cell? ⟨b, 7, none⟩ = some (.string r)) (hr : r.size < 140737488355328) (hT : Tab w) (hk : keptPath v.data.toList r.data.toList) :
    Calls Tryd.prog 36 #[.pointer (some ⟨b, 0, none⟩)] w fun e w' => e = .returned (.string r) ∧ Below w.heap.size w w' := by
  obtain ⟨h1, h2, h3⟩ := hk
  have hne := nonempty_of h1
  clear h1
  have CV : Hid (Calls Tryd.prog 30 #[.string r, .int .u8 1] w fun e w' => e = .returned (.bool true) ∧ w = w') := by
    rw [← h2]; exact valid_any r 1 w (by omega) hT
  have CU := Lib.hid (unescape_any r 1 w hr (by decide) (by decide) (by decide) hT)
  have HD := Lib.hid h3
  clear h2 h3 hT
  go_enter Tryd.func36, Tryd.ntmps36
  go_wp2_with fail
  refine (CV.out).mono ?_
  rintro e w' ⟨rfl, rfl⟩
  go_wp2_with fail
  refine (CU.out).mono ?_
  rintro e w1 (⟨p, hp, rfl, hb1⟩ | ⟨hp, _⟩)
  · have he : (⟨p.toArray⟩ : ByteArray) = v := by
      rw [HD.out] at hp
      injection hp with hp
      rw [← hp]
    rw [he]
    clear he hp
    have d0 := (hb1.cell (p := ⟨b, 4, none⟩) hb).trans c0
    have d1 := (hb1.cell (p := ⟨b, 7, none⟩) hb).trans c1
    go_wp2_with fail
    go_ret
    exact ⟨rfl, hb1⟩
  · rw [HD.out] at hp
    cases hp

set_option maxHeartbeats 4000000 in
theorem escPath_made (b : Nat) (v r : ByteArray) (w : World) (hb : b < w.heap.size) (c0 : w.cell? ⟨b, 4, none⟩ = some (.string v)) (c1 : w.cell? ⟨b, 7, none⟩ = some (.string r)) (hv : v.size ≤ 4194304) (hr : r.size < 140737488355328) (hT : Tab w) (hk : ¬ keptPath v.data.toList r.data.toList)
    (x : ByteArray) (hx : (v = ⟨#[42]⟩ ∧ x = ⟨#[42]⟩) ∨ (¬ v = ⟨#[42]⟩ ∧ x = S (encP 1 v.data.toList))) :
    Calls Tryd.prog 36 #[.pointer (some ⟨b, 0, none⟩)] w fun e w' => e = .returned (.string x) ∧ Below w.heap.size w w' := by
  have CE : Hid (∀ wx, Tab wx → Calls Tryd.prog 32 #[.string v, .int .u8 1] wx fun e w' => e = .returned (.string (S (encP 1 v.data.toList))) ∧ Below wx.heap.size wx w') := fun wx h => escape_any v 1 wx hv (by decide) h
  have HT := Lib.hid hT
  obtain ⟨bv, hbv⟩ : ∃ bv, validL 1 r.data.toList = bv := ⟨_, rfl⟩
  have CV : Hid (Calls Tryd.prog 30 #[.string r, .int .u8 1] w fun e w' => e = .returned (.bool bv) ∧ w = w') := by
    rw [← hbv]; exact valid_any r 1 w (by omega) hT
  have CU := Lib.hid (unescape_any r 1 w hr (by decide) (by decide) (by decide) hT)
  have HV := Lib.hid hbv
  have HK := Lib.hid hk
  clear hbv hT hk
  rcases hx with ⟨rfl, rfl⟩ | ⟨hne, rfl⟩
  · clear CE
    cases hem : r.toList.isEmpty
    · cases bv
      · go_enter Tryd.func36, Tryd.ntmps36
        go_wp2_with fail
        refine (CV.out).mono ?_
        rintro e w' ⟨rfl, rfl⟩
        go_wp2_with fail
        go_ret
        exact ⟨rfl, Below.refl _ _⟩
      · go_enter Tryd.func36, Tryd.ntmps36
        go_wp2_with fail
        refine (CV.out).mono ?_
        rintro e w' ⟨rfl, rfl⟩
        go_wp2_with fail
        refine (CU.out).mono ?_
        rintro e w1 (⟨p, hp, rfl, hb1⟩ | ⟨hp, t, rfl, rfl⟩)
        · have hqe : (p == [42]) = false := by rw [beq_eq_false_iff_ne]; exact fun he => HK.out ⟨ne_nil hem, HV.out, by rw [hp, he]⟩
          have d0 := (hb1.cell (p := ⟨b, 4, none⟩) hb).trans c0
          have HT1 := Lib.hid (HT.out.below hb1)
          clear hp
          go_wp2_with fail
          go_ret
          exact ⟨rfl, hb1⟩
        · clear hp
          go_wp2_with fail
          go_ret
          exact ⟨rfl, Below.refl _ _⟩
    · go_enter Tryd.func36, Tryd.ntmps36
      go_wp2_with fail
      go_ret
      exact ⟨rfl, Below.refl _ _⟩
  · have hst := str_ne hne
    have hst2 : (v.toList == [42]) = false := list_ne' (fun e => hne (S_ext e))
    clear hne
    cases hem : r.toList.isEmpty
    · cases bv
      · go_enter Tryd.func36, Tryd.ntmps36
        go_wp2_with fail
        refine (CV.out).mono ?_
        rintro e w' ⟨rfl, rfl⟩
        go_wp2_with fail
        refine (CE.out _ HT.out).mono ?_
        rintro e w9 ⟨rfl, hb9⟩
        go_wp2_with fail
        go_ret
        exact ⟨rfl, hb9⟩
      · go_enter Tryd.func36, Tryd.ntmps36
        go_wp2_with fail
        refine (CV.out).mono ?_
        rintro e w' ⟨rfl, rfl⟩
        go_wp2_with fail
        refine (CU.out).mono ?_
        rintro e w1 (⟨p, hp, rfl, hb1⟩ | ⟨hp, t, rfl, rfl⟩)
        · have hq : ¬ p = v.data.toList := fun he => HK.out ⟨ne_nil hem, HV.out, by rw [hp, he]⟩
          have hqe := list_ne hq
          have d0 := (hb1.cell (p := ⟨b, 4, none⟩) hb).trans c0
          have HT1 := Lib.hid (HT.out.below hb1)
          clear hq hp
          go_wp2_with fail
          refine (CE.out _ HT1.out).mono ?_
          rintro e w9 ⟨rfl, hb9⟩
          go_wp2_with fail
          go_ret
          exact ⟨rfl, hb1.trans (hb9.mono hb1.size)⟩
        · clear hp
          go_wp2_with fail
          refine (CE.out _ HT.out).mono ?_
          rintro e w9 ⟨rfl, hb9⟩
          go_wp2_with fail
          go_ret
          exact ⟨rfl, hb9⟩
    · go_enter Tryd.func36, Tryd.ntmps36
      go_wp2_with fail
      refine (CE.out _ HT.out).mono ?_
      rintro e w9 ⟨rfl, hb9⟩
      go_wp2_with fail
      go_ret
      exact ⟨rfl, hb9⟩

theorem escPath_any (b : Nat) (v r : ByteArray) (w : World) (hb : b < w.heap.size) (c0 : w.cell? ⟨b, 4, none⟩ = some (.string v)) (c1 : w.cell? ⟨b, 7, none⟩ = some (.string r)) (hv : v.size ≤ 4194304) (hr : r.size < 140737488355328) (hT : Tab w) :
    Calls Tryd.prog 36 #[.pointer (some ⟨b, 0, none⟩)] w fun e w' => e = .returned (.string (S (epL v.data.toList r.data.toList))) ∧ Below w.heap.size w w' := by
  by_cases hk : keptPath v.data.toList r.data.toList
  · rw [epL_kept hk, S_data]
    exact escPath_kept b v r w hb c0 c1 hr hT hk
  · by_cases h : v = ⟨#[42]⟩
    · rw [epL_star hk (by rw [h])]
      exact escPath_made b v r w hb c0 c1 hv hr hT hk _ (.inl ⟨h, rfl⟩)
    · rw [epL_made hk (fun e => h (S_ext e))]
      exact escPath_made b v r w hb c0 c1 hv hr hT hk _ (.inr ⟨h, rfl⟩)
end Go.Proofs.YtkakkcmpincggaaDoor
