/- What FnHostnameAll and FnPortAll return, for every host that the form reaches. -/
import Derived.Test.YtpjponoafebboaaHostName
namespace Go.Proofs.Ytpjponoafebboaa
open Go.RowKit

theorem fnHostnameAll_walk (s : ByteArray) (hs : s.size < 140737488355328) (w : World) :
    Calls Try.prog 7 #[.string s] w fun e w' => e = .returned (.bool true) ∧ Below w.heap.size w w' := by
  have hs' : s.size < 4611686018427387904 := by omega
  go_enter Try.func7, Try.ntmps7
  go_wp2_with fail
  refine (implHostname_any _ _ hs').mono ?_
  rintro e w1 ⟨rfl, hb1⟩
  go_wp2_with fail
  refine (specHostname_any _ _ hs').mono ?_
  rintro e w1 ⟨rfl, rfl⟩
  go_wp2_with fail
  go_ret
  exact ⟨rfl, hb1⟩

theorem fnPortAll_walk (s : ByteArray) (hs : s.size < 140737488355328) (w : World) :
    Calls Try.prog 9 #[.string s] w fun e w' => e = .returned (.bool true) ∧ Below w.heap.size w w' := by
  have hs' : s.size < 4611686018427387904 := by omega
  go_enter Try.func9, Try.ntmps9
  go_wp2_with fail
  refine (implPort_any _ _ hs').mono ?_
  rintro e w1 ⟨rfl, hb1⟩
  go_wp2_with fail
  refine (specPort_any _ _ hs').mono ?_
  rintro e w1 ⟨rfl, rfl⟩
  go_wp2_with fail
  go_ret
  exact ⟨rfl, hb1⟩
end Go.Proofs.Ytpjponoafebboaa
