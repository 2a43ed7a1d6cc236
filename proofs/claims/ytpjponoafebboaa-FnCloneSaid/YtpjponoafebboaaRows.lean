/-
  No cell of these rows narrows 'for every input' (looked for: loops, veiled, ifaces, maps, wideKeys, modest, calm, conditions, laid).
  DERIVED. THE GIVEN ROWS OF THIS SEAT. 10 by the template 'for every input the law returns true; each argument reads behind the call as it read before'; 0 by the template 'total and deterministic' (their statements: YtpjponoafebboaaTotals.lean).
  GIVEN WITH THE SEED: the statements are not yours to turn. If you find one false, say at which input.
  Laid BY PROGRAM, IN A SANDBOX (cutbox-rows.mjs): the forced cells as the released guide's own fill.sh prints them over the translation 6470e0361a2ab75b… (all of the seat's roots in one cut). By AI agents, Wed Nov 11 2026. No macro, syntax, notation, axiom, sorry.
-/
import Derived.Test.YtpjponoafebboaaChecked
import GoSem.Claim
import GoSem.ClaimJoined
import GoSem.ClaimMapViews
import Derived.JoinedTies
import Derived.KernelRfl
namespace Go.Proofs.Ytpjponoafebboaa
/- THE CELL 'sum', in the pinned program and in every row, IS THE sha256 OF THE DUMP (.gsa) THAT YtpjponoafebboaaProg.lean LOADS. Nothing in Lean hashes anything: it is a label: what it is worth is what the hold of that sum in a sandbox is worth. -/
noncomputable def Try.pinned : Pinned := { name := "ytpjponoafebboaa", sum := "6470e0361a2ab75b40048d8399bebe13abae36cca3033917c32bc8fb8e6944ee", checked := Try.checked }
namespace Rows
def none {H : Type} : Left H := { results := [], args := [] }

/-- 'laws.FnIsAbs': WHATEVER THE INPUT: true; the input reads as it did. -/
def fnIsAbsSpec : ChangeSpec := { name := "fnIsAbs", fn := fun _ => fun
  | [d] => { results := [.lit (.bool true)], args := [d] }
  | _ => none }
def fnIsAbsRow : OpenClaim := { program := "ytpjponoafebboaa", sum := "6470e0361a2ab75b40048d8399bebe13abae36cca3033917c32bc8fb8e6944ee", func := "lib-ferrybell/laws.FnIsAbs", spec := "fnIsAbs", apart := false }
def FnIsAbsSaid : Prop := fnIsAbsRow.holds Try.pinned (OpenSpec.ofChange fnIsAbsSpec)

/-- ITS FALSE NEIGHBOUR: 'it returns false'. Refute it at one input. -/
def fnIsAbsWrong : ChangeSpec := { name := "fnIsAbs", fn := fun _ => fun
  | [d] => { results := [.lit (.bool false)], args := [d] }
  | _ => none }
def FnIsAbsWrongFalsely : Prop := fnIsAbsRow.holds Try.pinned (OpenSpec.ofChange fnIsAbsWrong)

/-- 'laws.FnUsername': WHATEVER THE INPUT: true; the input reads as it did. -/
def fnUsernameSpec : ChangeSpec := { name := "fnUsername", fn := fun _ => fun
  | [d1, d2, d3] => { results := [.lit (.bool true)], args := [d1, d2, d3] }
  | _ => none }
def fnUsernameRow : OpenClaim := { program := "ytpjponoafebboaa", sum := "6470e0361a2ab75b40048d8399bebe13abae36cca3033917c32bc8fb8e6944ee", func := "lib-ferrybell/laws.FnUsername", spec := "fnUsername", apart := false }
def FnUsernameSaid : Prop := fnUsernameRow.holds Try.pinned (OpenSpec.ofChange fnUsernameSpec)

/-- ITS FALSE NEIGHBOUR: 'it returns false'. Refute it at one input. -/
def fnUsernameWrong : ChangeSpec := { name := "fnUsername", fn := fun _ => fun
  | [d1, d2, d3] => { results := [.lit (.bool false)], args := [d1, d2, d3] }
  | _ => none }
def FnUsernameWrongFalsely : Prop := fnUsernameRow.holds Try.pinned (OpenSpec.ofChange fnUsernameWrong)

/-- 'laws.FnClone': WHATEVER THE INPUT: true; the input reads as it did. -/
def fnCloneSpec : ChangeSpec := { name := "fnClone", fn := fun _ => fun
  | [d] => { results := [.lit (.bool true)], args := [d] }
  | _ => none }
def fnCloneRow : OpenClaim := { program := "ytpjponoafebboaa", sum := "6470e0361a2ab75b40048d8399bebe13abae36cca3033917c32bc8fb8e6944ee", func := "lib-ferrybell/laws.FnClone", spec := "fnClone", apart := false }
def FnCloneSaid : Prop := fnCloneRow.holds Try.pinned (OpenSpec.ofChange fnCloneSpec)

/-- ITS FALSE NEIGHBOUR: 'it returns false'. Refute it at one input. -/
def fnCloneWrong : ChangeSpec := { name := "fnClone", fn := fun _ => fun
  | [d] => { results := [.lit (.bool false)], args := [d] }
  | _ => none }
def FnCloneWrongFalsely : Prop := fnCloneRow.holds Try.pinned (OpenSpec.ofChange fnCloneWrong)

/-- 'laws.FnHostname': WHATEVER THE INPUT: true; the input reads as it did. -/
def fnHostnameSpec : ChangeSpec := { name := "fnHostname", fn := fun _ => fun
  | [d] => { results := [.lit (.bool true)], args := [d] }
  | _ => none }
def fnHostnameRow : OpenClaim := { program := "ytpjponoafebboaa", sum := "6470e0361a2ab75b40048d8399bebe13abae36cca3033917c32bc8fb8e6944ee", func := "lib-ferrybell/laws.FnHostname", spec := "fnHostname", apart := false }
def FnHostnameSaid : Prop := fnHostnameRow.holds Try.pinned (OpenSpec.ofChange fnHostnameSpec)

/-- ITS FALSE NEIGHBOUR: 'it returns false'. Refute it at one input. -/
def fnHostnameWrong : ChangeSpec := { name := "fnHostname", fn := fun _ => fun
  | [d] => { results := [.lit (.bool false)], args := [d] }
  | _ => none }
def FnHostnameWrongFalsely : Prop := fnHostnameRow.holds Try.pinned (OpenSpec.ofChange fnHostnameWrong)

/-- 'laws.FnHostnameAll': WHATEVER THE INPUT: true; the input reads as it did. -/
def fnHostnameAllSpec : ChangeSpec := { name := "fnHostnameAll", fn := fun _ => fun
  | [d] => { results := [.lit (.bool true)], args := [d] }
  | _ => none }
def fnHostnameAllRow : OpenClaim := { program := "ytpjponoafebboaa", sum := "6470e0361a2ab75b40048d8399bebe13abae36cca3033917c32bc8fb8e6944ee", func := "lib-ferrybell/laws.FnHostnameAll", spec := "fnHostnameAll", apart := false }
def FnHostnameAllSaid : Prop := fnHostnameAllRow.holds Try.pinned (OpenSpec.ofChange fnHostnameAllSpec)

/-- ITS FALSE NEIGHBOUR: 'it returns false'. Refute it at one input. -/
def fnHostnameAllWrong : ChangeSpec := { name := "fnHostnameAll", fn := fun _ => fun
  | [d] => { results := [.lit (.bool false)], args := [d] }
  | _ => none }
def FnHostnameAllWrongFalsely : Prop := fnHostnameAllRow.holds Try.pinned (OpenSpec.ofChange fnHostnameAllWrong)

/-- 'laws.FnPort': WHATEVER THE INPUT: true; the input reads as it did. -/
def fnPortSpec : ChangeSpec := { name := "fnPort", fn := fun _ => fun
  | [d] => { results := [.lit (.bool true)], args := [d] }
  | _ => none }
def fnPortRow : OpenClaim := { program := "ytpjponoafebboaa", sum := "6470e0361a2ab75b40048d8399bebe13abae36cca3033917c32bc8fb8e6944ee", func := "lib-ferrybell/laws.FnPort", spec := "fnPort", apart := false }
def FnPortSaid : Prop := fnPortRow.holds Try.pinned (OpenSpec.ofChange fnPortSpec)

/-- ITS FALSE NEIGHBOUR: 'it returns false'. Refute it at one input. -/
def fnPortWrong : ChangeSpec := { name := "fnPort", fn := fun _ => fun
  | [d] => { results := [.lit (.bool false)], args := [d] }
  | _ => none }
def FnPortWrongFalsely : Prop := fnPortRow.holds Try.pinned (OpenSpec.ofChange fnPortWrong)

/-- 'laws.FnPortAll': WHATEVER THE INPUT: true; the input reads as it did. -/
def fnPortAllSpec : ChangeSpec := { name := "fnPortAll", fn := fun _ => fun
  | [d] => { results := [.lit (.bool true)], args := [d] }
  | _ => none }
def fnPortAllRow : OpenClaim := { program := "ytpjponoafebboaa", sum := "6470e0361a2ab75b40048d8399bebe13abae36cca3033917c32bc8fb8e6944ee", func := "lib-ferrybell/laws.FnPortAll", spec := "fnPortAll", apart := false }
def FnPortAllSaid : Prop := fnPortAllRow.holds Try.pinned (OpenSpec.ofChange fnPortAllSpec)

/-- ITS FALSE NEIGHBOUR: 'it returns false'. Refute it at one input. -/
def fnPortAllWrong : ChangeSpec := { name := "fnPortAll", fn := fun _ => fun
  | [d] => { results := [.lit (.bool false)], args := [d] }
  | _ => none }
def FnPortAllWrongFalsely : Prop := fnPortAllRow.holds Try.pinned (OpenSpec.ofChange fnPortAllWrong)

/-- 'laws.FnPortDigits': WHATEVER THE INPUT: true; the input reads as it did. -/
def fnPortDigitsSpec : ChangeSpec := { name := "fnPortDigits", fn := fun _ => fun
  | [d] => { results := [.lit (.bool true)], args := [d] }
  | _ => none }
def fnPortDigitsRow : OpenClaim := { program := "ytpjponoafebboaa", sum := "6470e0361a2ab75b40048d8399bebe13abae36cca3033917c32bc8fb8e6944ee", func := "lib-ferrybell/laws.FnPortDigits", spec := "fnPortDigits", apart := false }
def FnPortDigitsSaid : Prop := fnPortDigitsRow.holds Try.pinned (OpenSpec.ofChange fnPortDigitsSpec)

/-- ITS FALSE NEIGHBOUR: 'it returns false'. Refute it at one input. -/
def fnPortDigitsWrong : ChangeSpec := { name := "fnPortDigits", fn := fun _ => fun
  | [d] => { results := [.lit (.bool false)], args := [d] }
  | _ => none }
def FnPortDigitsWrongFalsely : Prop := fnPortDigitsRow.holds Try.pinned (OpenSpec.ofChange fnPortDigitsWrong)

/-- 'laws.FnHostOfParts': WHATEVER THE INPUT: true; the input reads as it did. -/
def fnHostOfPartsSpec : ChangeSpec := { name := "fnHostOfParts", fn := fun _ => fun
  | [d1, d2] => { results := [.lit (.bool true)], args := [d1, d2] }
  | _ => none }
def fnHostOfPartsRow : OpenClaim := { program := "ytpjponoafebboaa", sum := "6470e0361a2ab75b40048d8399bebe13abae36cca3033917c32bc8fb8e6944ee", func := "lib-ferrybell/laws.FnHostOfParts", spec := "fnHostOfParts", apart := false }
def FnHostOfPartsSaid : Prop := fnHostOfPartsRow.holds Try.pinned (OpenSpec.ofChange fnHostOfPartsSpec)

/-- ITS FALSE NEIGHBOUR: 'it returns false'. Refute it at one input. -/
def fnHostOfPartsWrong : ChangeSpec := { name := "fnHostOfParts", fn := fun _ => fun
  | [d1, d2] => { results := [.lit (.bool false)], args := [d1, d2] }
  | _ => none }
def FnHostOfPartsWrongFalsely : Prop := fnHostOfPartsRow.holds Try.pinned (OpenSpec.ofChange fnHostOfPartsWrong)

/-- 'laws.FnHostSix': WHATEVER THE INPUT: true; the input reads as it did. -/
def fnHostSixSpec : ChangeSpec := { name := "fnHostSix", fn := fun _ => fun
  | [d1, d2] => { results := [.lit (.bool true)], args := [d1, d2] }
  | _ => none }
def fnHostSixRow : OpenClaim := { program := "ytpjponoafebboaa", sum := "6470e0361a2ab75b40048d8399bebe13abae36cca3033917c32bc8fb8e6944ee", func := "lib-ferrybell/laws.FnHostSix", spec := "fnHostSix", apart := false }
def FnHostSixSaid : Prop := fnHostSixRow.holds Try.pinned (OpenSpec.ofChange fnHostSixSpec)

/-- ITS FALSE NEIGHBOUR: 'it returns false'. Refute it at one input. -/
def fnHostSixWrong : ChangeSpec := { name := "fnHostSix", fn := fun _ => fun
  | [d1, d2] => { results := [.lit (.bool false)], args := [d1, d2] }
  | _ => none }
def FnHostSixWrongFalsely : Prop := fnHostSixRow.holds Try.pinned (OpenSpec.ofChange fnHostSixWrong)

/- THE SECOND FORM. 'bulk': how many values and letters a reading holds, each counted each time it is reached (what is shared counts as often as it is met; a slice's spare places count too). A statement '..UptoSaid' is the law's where the arguments, and the package variables that the reading takes, are together of bulk at most 1048576: NARROWER than '..Said'. Prove '..Said' where nothing that the law and all that it calls make is longer than what came in: it says more and counts as full. Else prove '..UptoSaid'. A law counts once. -/
mutual
def uptoBulk {H : Type} : DataW H → Nat
  | .lit (.string bytes) => bytes.length + 1
  | .lit _ => 1
  | .nil => 1
  | .ptr d => uptoBulk d + 1
  | .slice elems spare => uptoBulkAll elems + uptoBulkAll spare + 1
  | .agg parts => uptoBulkAll parts + 1
  | .iface _ d => uptoBulk d + 1
  | .map entries => uptoBulkEntries entries + 1
  | .held _ => 1
def uptoBulkAll {H : Type} : List (DataW H) → Nat
  | [] => 0
  | d :: r => uptoBulk d + uptoBulkAll r
def uptoBulkEntries {H : Type} : List (Lit × DataW H) → Nat
  | [] => 0
  | x :: r => uptoBulkEntry x + uptoBulkEntries r
def uptoBulkEntry {H : Type} : Lit × DataW H → Nat
  | (.string bytes, d) => bytes.length + uptoBulk d + 1
  | (_, d) => uptoBulk d + 1
 end
def uptoSmall : (H : Type) → List (DataW H) → Bool := fun _ ds => decide (uptoBulkAll ds ≤ 1048576)
def OpenSpec.upto (s : _root_.Go.ChangeSpec) : _root_.Go.OpenSpec := { _root_.Go.OpenSpec.ofChange s with cond := some uptoSmall }

/-- 'laws.FnIsAbs', WHERE WHAT IT READS IS OF BULK AT MOST 1048576: true; the input reads as it did. -/
def fnIsAbsUptoRow : OpenClaim := { program := "ytpjponoafebboaa", sum := "6470e0361a2ab75b40048d8399bebe13abae36cca3033917c32bc8fb8e6944ee", func := "lib-ferrybell/laws.FnIsAbs", spec := "fnIsAbs", apart := false, narrowed := true }
def FnIsAbsUptoSaid : Prop := fnIsAbsUptoRow.holds Try.pinned (OpenSpec.upto fnIsAbsSpec)

/-- 'laws.FnUsername', WHERE WHAT IT READS IS OF BULK AT MOST 1048576: true; the input reads as it did. -/
def fnUsernameUptoRow : OpenClaim := { program := "ytpjponoafebboaa", sum := "6470e0361a2ab75b40048d8399bebe13abae36cca3033917c32bc8fb8e6944ee", func := "lib-ferrybell/laws.FnUsername", spec := "fnUsername", apart := false, narrowed := true }
def FnUsernameUptoSaid : Prop := fnUsernameUptoRow.holds Try.pinned (OpenSpec.upto fnUsernameSpec)

/-- 'laws.FnClone', WHERE WHAT IT READS IS OF BULK AT MOST 1048576: true; the input reads as it did. -/
def fnCloneUptoRow : OpenClaim := { program := "ytpjponoafebboaa", sum := "6470e0361a2ab75b40048d8399bebe13abae36cca3033917c32bc8fb8e6944ee", func := "lib-ferrybell/laws.FnClone", spec := "fnClone", apart := false, narrowed := true }
def FnCloneUptoSaid : Prop := fnCloneUptoRow.holds Try.pinned (OpenSpec.upto fnCloneSpec)

/-- 'laws.FnHostname', WHERE WHAT IT READS IS OF BULK AT MOST 1048576: true; the input reads as it did. -/
def fnHostnameUptoRow : OpenClaim := { program := "ytpjponoafebboaa", sum := "6470e0361a2ab75b40048d8399bebe13abae36cca3033917c32bc8fb8e6944ee", func := "lib-ferrybell/laws.FnHostname", spec := "fnHostname", apart := false, narrowed := true }
def FnHostnameUptoSaid : Prop := fnHostnameUptoRow.holds Try.pinned (OpenSpec.upto fnHostnameSpec)

/-- 'laws.FnHostnameAll', WHERE WHAT IT READS IS OF BULK AT MOST 1048576: true; the input reads as it did. -/
def fnHostnameAllUptoRow : OpenClaim := { program := "ytpjponoafebboaa", sum := "6470e0361a2ab75b40048d8399bebe13abae36cca3033917c32bc8fb8e6944ee", func := "lib-ferrybell/laws.FnHostnameAll", spec := "fnHostnameAll", apart := false, narrowed := true }
def FnHostnameAllUptoSaid : Prop := fnHostnameAllUptoRow.holds Try.pinned (OpenSpec.upto fnHostnameAllSpec)

/-- 'laws.FnPort', WHERE WHAT IT READS IS OF BULK AT MOST 1048576: true; the input reads as it did. -/
def fnPortUptoRow : OpenClaim := { program := "ytpjponoafebboaa", sum := "6470e0361a2ab75b40048d8399bebe13abae36cca3033917c32bc8fb8e6944ee", func := "lib-ferrybell/laws.FnPort", spec := "fnPort", apart := false, narrowed := true }
def FnPortUptoSaid : Prop := fnPortUptoRow.holds Try.pinned (OpenSpec.upto fnPortSpec)

/-- 'laws.FnPortAll', WHERE WHAT IT READS IS OF BULK AT MOST 1048576: true; the input reads as it did. -/
def fnPortAllUptoRow : OpenClaim := { program := "ytpjponoafebboaa", sum := "6470e0361a2ab75b40048d8399bebe13abae36cca3033917c32bc8fb8e6944ee", func := "lib-ferrybell/laws.FnPortAll", spec := "fnPortAll", apart := false, narrowed := true }
def FnPortAllUptoSaid : Prop := fnPortAllUptoRow.holds Try.pinned (OpenSpec.upto fnPortAllSpec)

/-- 'laws.FnPortDigits', WHERE WHAT IT READS IS OF BULK AT MOST 1048576: true; the input reads as it did. -/
def fnPortDigitsUptoRow : OpenClaim := { program := "ytpjponoafebboaa", sum := "6470e0361a2ab75b40048d8399bebe13abae36cca3033917c32bc8fb8e6944ee", func := "lib-ferrybell/laws.FnPortDigits", spec := "fnPortDigits", apart := false, narrowed := true }
def FnPortDigitsUptoSaid : Prop := fnPortDigitsUptoRow.holds Try.pinned (OpenSpec.upto fnPortDigitsSpec)

/-- 'laws.FnHostOfParts', WHERE WHAT IT READS IS OF BULK AT MOST 1048576: true; the input reads as it did. -/
def fnHostOfPartsUptoRow : OpenClaim := { program := "ytpjponoafebboaa", sum := "6470e0361a2ab75b40048d8399bebe13abae36cca3033917c32bc8fb8e6944ee", func := "lib-ferrybell/laws.FnHostOfParts", spec := "fnHostOfParts", apart := false, narrowed := true }
def FnHostOfPartsUptoSaid : Prop := fnHostOfPartsUptoRow.holds Try.pinned (OpenSpec.upto fnHostOfPartsSpec)

/-- 'laws.FnHostSix', WHERE WHAT IT READS IS OF BULK AT MOST 1048576: true; the input reads as it did. -/
def fnHostSixUptoRow : OpenClaim := { program := "ytpjponoafebboaa", sum := "6470e0361a2ab75b40048d8399bebe13abae36cca3033917c32bc8fb8e6944ee", func := "lib-ferrybell/laws.FnHostSix", spec := "fnHostSix", apart := false, narrowed := true }
def FnHostSixUptoSaid : Prop := fnHostSixUptoRow.holds Try.pinned (OpenSpec.upto fnHostSixSpec)

end Rows
end Go.Proofs.Ytpjponoafebboaa
