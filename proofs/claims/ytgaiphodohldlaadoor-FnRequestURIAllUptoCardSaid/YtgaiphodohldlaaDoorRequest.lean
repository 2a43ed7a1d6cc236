/- What RequestURI returns, where memory holds the table. -/
import Derived.Test.YtgaiphodohldlaaDoorEscLaw
import Derived.Test.YtgaiphodohldlaaDoorShelf
namespace Go.Proofs.YtgaiphodohldlaaDoor
open Go.RowKit

noncomputable def rqBase (sch op p raw : ByteArray) : ByteArray :=
  if op.toList.isEmpty then (if (epB p raw).toList.isEmpty then ⟨#[47]⟩ else epB p raw) else if Lib.hasPrefix op.data.toList [47, 47] then sch ++ ⟨#[58]⟩ ++ op else op
noncomputable def rqB (sch op p raw q : ByteArray) (force : Bool) : ByteArray :=
  if force || !q.toList.isEmpty then rqBase sch op p raw ++ (⟨#[63]⟩ ++ q) else rqBase sch op p raw

set_option maxHeartbeats 4000000 in
theorem requestURI_at (b : Nat) (sch op p raw q : ByteArray) (force : Bool) (w : World) (hb : b < w.heap.size)
    (c0 : w.cell? ⟨b, 0, none⟩ = some (.string sch)) (c1 : w.cell? ⟨b, 1, none⟩ = some (.string op)) (c4 : w.cell? ⟨b, 4, none⟩ = some (.string p))
    (c6 : w.cell? ⟨b, 6, none⟩ = some (.string q)) (c7 : w.cell? ⟨b, 7, none⟩ = some (.string raw)) (c9 : w.cell? ⟨b, 9, none⟩ = some (.bool force))
    (h0 : sch.size < 140737488355328) (h1 : op.size < 140737488355328) (h4 : p.size ≤ 4194304) (h6 : q.size < 140737488355328) (h7 : raw.size < 140737488355328) (hT : Tab w) :
    Calls Tryd.prog 26 #[.pointer (some ⟨b, 0, none⟩)] w fun e w' => e = .returned (.string (rqB sch op p raw q force)) ∧ Below w.heap.size w w' := by
  have CE := Lib.hid (escB_any b p raw w hb c4 c7 h4 h7 hT)
  have hez := epB_size p raw
  have hz : (epB p raw).size < 1407374883553280 := by omega
  clear hez
  have HR : Hid (rqB sch op p raw q force = if force || !q.toList.isEmpty then (if op.toList.isEmpty then (if (epB p raw).toList.isEmpty then ⟨#[47]⟩ else epB p raw) else if Lib.hasPrefix op.data.toList [47, 47] then sch ++ ⟨#[58]⟩ ++ op else op) ++ (⟨#[63]⟩ ++ q) else (if op.toList.isEmpty then (if (epB p raw).toList.isEmpty then ⟨#[47]⟩ else epB p raw) else if Lib.hasPrefix op.data.toList [47, 47] then sch ++ ⟨#[58]⟩ ++ op else op)) := Lib.hid rfl
  clear hT
  cases ho : op.toList.isEmpty
  · obtain ⟨bp, hbp⟩ : ∃ bp, Lib.hasPrefix op.data.toList [47, 47] = bp := ⟨_, rfl⟩
    have CP : Hid (Calls Tryd.prog 33 #[.string op, .string ⟨#[47, 47]⟩] w fun e w' => e = .returned (.bool bp) ∧ w = w') := by
      rw [← hbp]; exact (Tryd.strings_HasPrefix op ⟨#[47, 47]⟩ w).mono fun _ _ h => ⟨h.1, h.2.symm⟩
    rw [ho, hbp] at HR
    clear hbp
    cases bp <;> cases force <;> cases hq : q.toList.isEmpty
    all_goals
      rw [hq] at HR
      simp only [Bool.false_eq_true, if_false, if_true, Bool.not_false, Bool.not_true, Bool.or_false, Bool.or_true] at HR
      go_enter Tryd.func26, Tryd.ntmps26
      go_wp2_with (go_at_call 33; refine (CP.out).mono ?_; rintro e w' ⟨rfl, rfl⟩)
      go_ret
      rw [HR.out]
      exact ⟨rfl, Below.refl _ _⟩
  · rw [ho] at HR
    cases he : (epB p raw).toList.isEmpty <;> cases force <;> cases hq : q.toList.isEmpty
    all_goals
      rw [he, hq] at HR
      simp only [Bool.false_eq_true, if_false, if_true, Bool.not_false, Bool.not_true, Bool.or_false, Bool.or_true] at HR
      go_enter Tryd.func26, Tryd.ntmps26
      go_wp2_with fail
      refine (CE.out).mono ?_
      rintro e w1 ⟨rfl, hb1⟩
      have d6 := (hb1.cell (p := ⟨b, 6, none⟩) hb).trans c6
      have d9 := (hb1.cell (p := ⟨b, 9, none⟩) hb).trans c9
      go_wp2_with fail
      go_ret
      rw [HR.out]
      exact ⟨rfl, hb1⟩

set_option maxHeartbeats 1000000 in
theorem implRQ_any (u0 : ByteArray) (u1 : ByteArray) (u2 : Bool) (u3 : ByteArray) (u4 : Bool) (u5 : ByteArray) (u6 : ByteArray) (u7 : ByteArray) (u8 : ByteArray) (u9 : ByteArray) (u10 : Bool) (u11 : ByteArray) (u12 : ByteArray) (u13 : Bool) (w : World) (h0 : u0.size < 140737488355328) (h1 : u1.size < 140737488355328) (h7 : u7.size ≤ 4194304) (h8 : u8.size < 140737488355328) (h9 : u9.size < 140737488355328) (hT : Tab w) :
    Calls Tryd.prog 19 #[.agg #[.string u0, .string u1, .bool u2, .string u3, .bool u4, .string u5, .string u6, .string u7, .string u8, .string u9, .bool u10, .string u11, .string u12, .bool u13]] w fun e w' => e = .returned (.string (rqB u0 u1 u7 u8 u9 u10)) ∧ Below w.heap.size w w' := by
  have HT := Lib.hid hT
  clear hT
  go_enter Tryd.func19, Tryd.ntmps19
  go_wp2_with fail
  refine (requestURI_at _ u0 u1 u7 u8 u9 u10 _ ?_ ?_ ?_ ?_ ?_ ?_ ?_ h0 h1 h7 h9 h8 ?_).mono ?_
  · simp
  · go_simp
  · go_simp
  · go_simp
  · go_simp
  · go_simp
  · go_simp
  · exact HT.out.below (((Below.refl _ _).alloc (Nat.le_refl _) _).alloc (by simp) _)
  rintro e w1 ⟨rfl, hb⟩
  go_wp2_with fail
  go_ret
  exact ⟨rfl, (((Below.refl _ _).alloc (Nat.le_refl _) _).alloc (by simp) _).trans (hb.mono (by simp; omega))⟩
end Go.Proofs.YtgaiphodohldlaaDoor
