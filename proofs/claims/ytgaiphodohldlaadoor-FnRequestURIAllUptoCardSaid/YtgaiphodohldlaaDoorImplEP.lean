/- What impl.EscapedPath returns, where memory holds the table. -/
import Derived.Test.YtgaiphodohldlaaDoorEscLaw
namespace Go.Proofs.YtgaiphodohldlaaDoor
open Go.RowKit

theorem implEP_any (p r : ByteArray) (w : World) (hp : p.size ≤ 4194304) (hr : r.size < 140737488355328) (hT : Tab w) :
    Calls Tryd.prog 15 #[.string p, .string r] w fun e w' => e = .returned (.string (epB p r)) ∧ Below w.heap.size w w' := by
  have HT := Lib.hid hT
  clear hT
  go_enter Tryd.func15, Tryd.ntmps15
  go_wp2_with fail
  refine (escB_any _ p r _ ?_ ?_ ?_ hp hr ?_).mono ?_
  · simp
  · go_simp
  · go_simp
  · exact HT.out.below ((Below.refl _ _).alloc (Nat.le_refl _) _)
  rintro e w1 ⟨rfl, hb⟩
  go_wp2_with fail
  go_ret
  exact ⟨rfl, ((Below.refl _ _).alloc (Nat.le_refl _) _).trans (hb.mono (by simp))⟩
end Go.Proofs.YtgaiphodohldlaaDoor
