/- What FnIsAbs and what it calls return, for every string that the form reaches. -/
import Derived.Test.YtpjponoafebboaaProg
import Derived.WalkKit
import Derived.WalkSpells
import Derived.Lib.Strings
namespace Go.Proofs.Ytpjponoafebboaa
open Go.RowKit

theorem isAbs_any (s : ByteArray) (w : World) :
    Calls Try.prog 13 #[.string s] w fun e w' => e = .returned (.bool (!s.toList.isEmpty)) ∧ Below w.heap.size w w' := by
  go_enter Try.func13, Try.ntmps13
  go_wp2
  go_ret
  exact ⟨rfl, (Below.refl _ _).alloc (Nat.le_refl _) _⟩

theorem fnIsAbs_walk (s : ByteArray) (hs : s.size < 140737488355328) (w : World) :
    Calls Try.prog 3 #[.string s] w fun e w' => e = .returned (.bool true) ∧ Below w.heap.size w w' := by
  have hx : ((⟨#[120]⟩ : ByteArray) ++ s).toList.isEmpty = false := by
    rw [Lib.toList_data]; simp
  go_enter Try.func3, Try.ntmps3
  go_wp2_with fail
  refine (isAbs_any _ _).mono ?_
  rintro e w1 ⟨rfl, hb1⟩
  go_wp2_with fail
  refine (isAbs_any _ _).mono ?_
  rintro e w2 ⟨rfl, hb2⟩
  go_wp2_with fail
  go_ret
  exact ⟨rfl, hb1.trans (hb2.mono hb1.size)⟩
end Go.Proofs.Ytpjponoafebboaa
