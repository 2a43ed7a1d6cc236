/- What FnHostname and FnPort return, for every host that the form reaches. -/
import Derived.Test.YtpjponoafebboaaHostName
import Derived.Test.YtpjponoafebboaaIsPlain
namespace Go.Proofs.Ytpjponoafebboaa
open Go.RowKit

theorem fnHostname_walk (s : ByteArray) (hs : s.size < 140737488355328) (w : World) :
    Calls Try.prog 6 #[.string s] w fun e w' => e = .returned (.bool true) ∧ Below w.heap.size w w' := by
  have hs' : s.size < 4611686018427387904 := by omega
  go_enter Try.func6, Try.ntmps6
  go_wp2_with fail
  refine (isPlain_any _ _ hs').mono ?_
  rintro e w1 ⟨b, rfl, rfl⟩
  cases b
  · go_wp2_with fail
    go_ret
    exact ⟨rfl, Below.refl _ _⟩
  · go_wp2_with fail
    refine (implHostname_any _ _ hs').mono ?_
    rintro e w1 ⟨rfl, hb1⟩
    go_wp2_with fail
    refine (specHostname_any _ _ hs').mono ?_
    rintro e w1 ⟨rfl, rfl⟩
    go_wp2_with fail
    go_ret
    exact ⟨rfl, hb1⟩

theorem fnPort_walk (s : ByteArray) (hs : s.size < 140737488355328) (w : World) :
    Calls Try.prog 8 #[.string s] w fun e w' => e = .returned (.bool true) ∧ Below w.heap.size w w' := by
  have hs' : s.size < 4611686018427387904 := by omega
  go_enter Try.func8, Try.ntmps8
  go_wp2_with fail
  refine (isPlain_any _ _ hs').mono ?_
  rintro e w1 ⟨b, rfl, rfl⟩
  cases b
  · go_wp2_with fail
    go_ret
    exact ⟨rfl, Below.refl _ _⟩
  · go_wp2_with fail
    refine (implPort_any _ _ hs').mono ?_
    rintro e w1 ⟨rfl, hb1⟩
    go_wp2_with fail
    refine (specPort_any _ _ hs').mono ?_
    rintro e w1 ⟨rfl, rfl⟩
    go_wp2_with fail
    go_ret
    exact ⟨rfl, hb1⟩
end Go.Proofs.Ytpjponoafebboaa
