/- What (*net/url.URL).EscapedFragment returns, for every URL in memory, where memory holds the table. -/
import Derived.Test.YtkakkcmpincggaaDoorStr
import Derived.Test.YtkakkcmpincggaaDoorValid
import Derived.Test.YtkakkcmpincggaaDoorEscape
import Derived.Test.YtkakkcmpincggaaDoorUnescape
namespace Go.Proofs.YtkakkcmpincggaaDoor
open Go.RowKit

/-- is a raw form a valid escaping? -/
def keptFragment (v raw : List UInt8) : Prop := raw ≠ [] ∧ validL 64 raw = true ∧ plain.decode raw = some v
/-- the escaped form -/
noncomputable def efL (v raw : List UInt8) : List UInt8 := open Classical in if keptFragment v raw then raw else encP 64 v
theorem efL_kept {v raw : List UInt8} (h : keptFragment v raw) : efL v raw = raw := by unfold efL; rw [if_pos h]
theorem efL_made {v raw : List UInt8} (h : ¬ keptFragment v raw) : efL v raw = encP 64 v := by unfold efL; rw [if_neg h]

set_option maxHeartbeats 2000000 in
theorem escFragment_kept (b : Nat) (v r : ByteArray) (w : World) (hb : b < w.heap.size) (c0 : w.cell? ⟨b, 5, none⟩ = some (.string v)) (c1 : w.cell? ⟨b, 8, none⟩ = some (.string r)) (hr : r.size < 140737488355328) (hT : Tab w) (hk : keptFragment v.data.toList r.data.toList) :
    Calls Tryd.prog 22 #[.pointer (some ⟨b, 0, none⟩)] w fun e w' => e = .returned (.string r) ∧ Below w.heap.size w w' := by
  obtain ⟨h1, h2, h3⟩ := hk
  have hne := nonempty_of h1
  clear h1
  have CV : Hid (Calls Tryd.prog 30 #[.string r, .int .u8 64] w fun e w' => e = .returned (.bool true) ∧ w = w') := by
    rw [← h2]; exact valid_any r 64 w (by omega) hT
  have CU := Lib.hid (unescape_any r 64 w hr (by decide) (by decide) (by decide) hT)
  have HD := Lib.hid h3
  clear h2 h3 hT
  go_enter Tryd.func22, Tryd.ntmps22
  go_wp2_with fail
  refine (CV.out).mono ?_
  rintro e w' ⟨rfl, rfl⟩
  go_wp2_with fail
  refine (CU.out).mono ?_
  rintro e w1 (⟨p, hp, rfl, hb1⟩ | ⟨hp, _⟩)
  · have he : (⟨p.toArray⟩ : ByteArray) = v := by
      rw [HD.out] at hp
      injection hp with hp
      rw [← hp]
    rw [he]
    clear he hp
    have d0 := (hb1.cell (p := ⟨b, 5, none⟩) hb).trans c0
    have d1 := (hb1.cell (p := ⟨b, 8, none⟩) hb).trans c1
    go_wp2_with fail
    go_ret
    exact ⟨rfl, hb1⟩
  · rw [HD.out] at hp
    cases hp

set_option maxHeartbeats 4000000 in
theorem escFragment_made (b : Nat) (v r : ByteArray) (w : World) (hb : b < w.heap.size) (c0 : w.cell? ⟨b, 5, none⟩ = some (.string v)) (c1 : w.cell? ⟨b, 8, none⟩ = some (.string r)) (hv : v.size ≤ 4194304) (hr : r.size < 140737488355328) (hT : Tab w) (hk : ¬ keptFragment v.data.toList r.data.toList) :
    Calls Tryd.prog 22 #[.pointer (some ⟨b, 0, none⟩)] w fun e w' => e = .returned (.string (S (encP 64 v.data.toList))) ∧ Below w.heap.size w w' := by
  have CE : Hid (∀ wx, Tab wx → Calls Tryd.prog 32 #[.string v, .int .u8 64] wx fun e w' => e = .returned (.string (S (encP 64 v.data.toList))) ∧ Below wx.heap.size wx w') := fun wx h => escape_any v 64 wx hv (by decide) h
  have HT := Lib.hid hT
  obtain ⟨bv, hbv⟩ : ∃ bv, validL 64 r.data.toList = bv := ⟨_, rfl⟩
  have CV : Hid (Calls Tryd.prog 30 #[.string r, .int .u8 64] w fun e w' => e = .returned (.bool bv) ∧ w = w') := by
    rw [← hbv]; exact valid_any r 64 w (by omega) hT
  have CU := Lib.hid (unescape_any r 64 w hr (by decide) (by decide) (by decide) hT)
  have HV := Lib.hid hbv
  have HK := Lib.hid hk
  clear hbv hT hk
  cases hem : r.toList.isEmpty
  · cases bv
    · go_enter Tryd.func22, Tryd.ntmps22
      go_wp2_with fail
      refine (CV.out).mono ?_
      rintro e w' ⟨rfl, rfl⟩
      go_wp2_with fail
      refine (CE.out _ HT.out).mono ?_
      rintro e w9 ⟨rfl, hb9⟩
      go_wp2_with fail
      go_ret
      exact ⟨rfl, hb9⟩
    · go_enter Tryd.func22, Tryd.ntmps22
      go_wp2_with fail
      refine (CV.out).mono ?_
      rintro e w' ⟨rfl, rfl⟩
      go_wp2_with fail
      refine (CU.out).mono ?_
      rintro e w1 (⟨p, hp, rfl, hb1⟩ | ⟨hp, t, rfl, rfl⟩)
      · have hq : ¬ p = v.data.toList := fun he => HK.out ⟨ne_nil hem, HV.out, by rw [hp, he]⟩
        have hqe := list_ne hq
        have d0 := (hb1.cell (p := ⟨b, 5, none⟩) hb).trans c0
        have HT1 := Lib.hid (HT.out.below hb1)
        clear hq hp
        go_wp2_with fail
        refine (CE.out _ HT1.out).mono ?_
        rintro e w9 ⟨rfl, hb9⟩
        go_wp2_with fail
        go_ret
        exact ⟨rfl, hb1.trans (hb9.mono hb1.size)⟩
      · clear hp
        go_wp2_with fail
        refine (CE.out _ HT.out).mono ?_
        rintro e w9 ⟨rfl, hb9⟩
        go_wp2_with fail
        go_ret
        exact ⟨rfl, hb9⟩
  · go_enter Tryd.func22, Tryd.ntmps22
    go_wp2_with fail
    refine (CE.out _ HT.out).mono ?_
    rintro e w9 ⟨rfl, hb9⟩
    go_wp2_with fail
    go_ret
    exact ⟨rfl, hb9⟩

theorem escFragment_any (b : Nat) (v r : ByteArray) (w : World) (hb : b < w.heap.size) (c0 : w.cell? ⟨b, 5, none⟩ = some (.string v)) (c1 : w.cell? ⟨b, 8, none⟩ = some (.string r)) (hv : v.size ≤ 4194304) (hr : r.size < 140737488355328) (hT : Tab w) :
    Calls Tryd.prog 22 #[.pointer (some ⟨b, 0, none⟩)] w fun e w' => e = .returned (.string (S (efL v.data.toList r.data.toList))) ∧ Below w.heap.size w w' := by
  by_cases hk : keptFragment v.data.toList r.data.toList
  · rw [efL_kept hk, S_data]
    exact escFragment_kept b v r w hb c0 c1 hr hT hk
  · rw [efL_made hk]
    exact escFragment_made b v r w hb c0 c1 hv hr hT hk
end Go.Proofs.YtkakkcmpincggaaDoor
