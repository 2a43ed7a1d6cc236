/- What impl.EscapedPath returns, where memory holds the table. -/
import Derived.Test.YtgaiphodohldlaaDoorEscLaw
namespace Go.Proofs.YtgaiphodohldlaaDoor
open Go.RowKit

/-- the escaped form of a path and its raw one -/
noncomputable def epB (p r : ByteArray) : ByteArray := S (epL p.data.toList r.data.toList)
theorem epB_ne {p r : ByteArray} (h : p.data.toList ≠ []) : (epB p r).toList.isEmpty = false := nonempty_of (by rw [epB, data_S]; exact epL_ne h)

theorem implEP_any (p r : ByteArray) (w : World) (hp : p.size ≤ 4194304) (hr : r.size < 140737488355328) (hT : Tab w) :
    Calls Tryd.prog 15 #[.string p, .string r] w fun e w' => e = .returned (.string (epB p r)) ∧ Below w.heap.size w w' := by
  have HT := Lib.hid hT
  clear hT
  go_enter Tryd.func15, Tryd.ntmps15
  go_wp2_with fail
  refine (escPath_any _ p r _ ?_ ?_ ?_ hp hr ?_).mono ?_
  · simp
  · go_simp
  · go_simp
  · exact HT.out.below ((Below.refl _ _).alloc (Nat.le_refl _) _)
  rintro e w1 ⟨rfl, hb⟩
  go_wp2_with fail
  go_ret
  exact ⟨rfl, ((Below.refl _ _).alloc (Nat.le_refl _) _).trans (hb.mono (by simp))⟩
end Go.Proofs.YtgaiphodohldlaaDoor
