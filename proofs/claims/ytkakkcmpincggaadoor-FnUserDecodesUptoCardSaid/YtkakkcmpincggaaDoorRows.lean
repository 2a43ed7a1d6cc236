/-
  NARROWER THAN 'FOR EVERY INPUT', by the rows' own cells (each row's printed sentence says how): FnEscapedFragment: laid · FnFragmentBytes: laid · FnFragmentDecodes: laid · FnFragmentIgnored: laid · FnFragmentKept: laid · FnUserBytes: laid · FnUserDecodes: laid · FnUserString: laid · FnUsersApart: laid · FnRequestQuery: laid.
  DERIVED. THE GIVEN ROWS OF THIS SEAT. 10 by the template 'for every input the law returns true; each argument reads behind the call as it read before'; 0 by the template 'total and deterministic' (their statements: YtkakkcmpincggaaDoorTotals.lean).
  GIVEN WITH THE SEED: the statements are not yours to turn. If you find one false, say at which input.
  Laid BY PROGRAM, IN A SANDBOX (cutbox-rows.mjs): the forced cells as the released guide's own fill.sh prints them over the translation 890100bce989753e… (all of the seat's roots in one cut). By AI agents, Wed Nov 11 2026. No macro, syntax, notation, axiom, sorry.
-/
import Derived.Test.YtkakkcmpincggaaDoorChecked
import GoSem.Claim
import GoSem.ClaimJoined
import GoSem.ClaimMapViews
import Derived.JoinedTies
import Derived.KernelRfl
namespace Go.Proofs.YtkakkcmpincggaaDoor
/- THE CELL 'sum', in the pinned program and in every row, IS THE sha256 OF THE DUMP (.gsa) THAT YtkakkcmpincggaaDoorProg.lean LOADS. Nothing in Lean hashes anything: it is a label: what it is worth is what the hold of that sum in a sandbox is worth. -/
noncomputable def Tryd.pinned : Pinned := { name := "ytkakkcmpincggaadoor", sum := "890100bce989753e9f8ddbc52cd02ade3114decb4698ff042e87e902b65f0efe", checked := Tryd.checked }
namespace Rows
def none {H : Type} : Left H := { results := [], args := [] }

/- WHAT THE LISTED PACKAGE-LEVEL VARIABLES READ AS WHEN THE CALL BEGINS. Each datum BY PROGRAM (the guide's laid-datum.mjs) off the statement by which the dump's own 'gosem.cut.vars' lays the variable. In a bare row this is a premise. The card (YtkakkcmpincggaaDoorCards.lean) ties it to the program's text. -/
def laid_net_url_table {H : Type} : DataW H := .agg [.lit (.int .u8 0), .lit (.int .u8 0), .lit (.int .u8 0), .lit (.int .u8 0), .lit (.int .u8 0), .lit (.int .u8 0), .lit (.int .u8 0), .lit (.int .u8 0), .lit (.int .u8 0), .lit (.int .u8 0), .lit (.int .u8 0), .lit (.int .u8 0), .lit (.int .u8 0), .lit (.int .u8 0), .lit (.int .u8 0), .lit (.int .u8 0), .lit (.int .u8 0), .lit (.int .u8 0), .lit (.int .u8 0), .lit (.int .u8 0), .lit (.int .u8 0), .lit (.int .u8 0), .lit (.int .u8 0), .lit (.int .u8 0), .lit (.int .u8 0), .lit (.int .u8 0), .lit (.int .u8 0), .lit (.int .u8 0), .lit (.int .u8 0), .lit (.int .u8 0), .lit (.int .u8 0), .lit (.int .u8 0), .lit (.int .u8 0), .lit (.int .u8 76), .lit (.int .u8 12), .lit (.int .u8 0), .lit (.int .u8 95), .lit (.int .u8 0), .lit (.int .u8 95), .lit (.int .u8 12), .lit (.int .u8 76), .lit (.int .u8 76), .lit (.int .u8 76), .lit (.int .u8 95), .lit (.int .u8 93), .lit (.int .u8 127), .lit (.int .u8 127), .lit (.int .u8 65), .lit (.int .u8 255), .lit (.int .u8 255), .lit (.int .u8 255), .lit (.int .u8 255), .lit (.int .u8 255), .lit (.int .u8 255), .lit (.int .u8 255), .lit (.int .u8 255), .lit (.int .u8 255), .lit (.int .u8 255), .lit (.int .u8 79), .lit (.int .u8 93), .lit (.int .u8 12), .lit (.int .u8 95), .lit (.int .u8 12), .lit (.int .u8 64), .lit (.int .u8 67), .lit (.int .u8 255), .lit (.int .u8 255), .lit (.int .u8 255), .lit (.int .u8 255), .lit (.int .u8 255), .lit (.int .u8 255), .lit (.int .u8 127), .lit (.int .u8 127), .lit (.int .u8 127), .lit (.int .u8 127), .lit (.int .u8 127), .lit (.int .u8 127), .lit (.int .u8 127), .lit (.int .u8 127), .lit (.int .u8 127), .lit (.int .u8 127), .lit (.int .u8 127), .lit (.int .u8 127), .lit (.int .u8 127), .lit (.int .u8 127), .lit (.int .u8 127), .lit (.int .u8 127), .lit (.int .u8 127), .lit (.int .u8 127), .lit (.int .u8 127), .lit (.int .u8 127), .lit (.int .u8 12), .lit (.int .u8 0), .lit (.int .u8 12), .lit (.int .u8 0), .lit (.int .u8 127), .lit (.int .u8 0), .lit (.int .u8 255), .lit (.int .u8 255), .lit (.int .u8 255), .lit (.int .u8 255), .lit (.int .u8 255), .lit (.int .u8 255), .lit (.int .u8 127), .lit (.int .u8 127), .lit (.int .u8 127), .lit (.int .u8 127), .lit (.int .u8 127), .lit (.int .u8 127), .lit (.int .u8 127), .lit (.int .u8 127), .lit (.int .u8 127), .lit (.int .u8 127), .lit (.int .u8 127), .lit (.int .u8 127), .lit (.int .u8 127), .lit (.int .u8 127), .lit (.int .u8 127), .lit (.int .u8 127), .lit (.int .u8 127), .lit (.int .u8 127), .lit (.int .u8 127), .lit (.int .u8 127), .lit (.int .u8 0), .lit (.int .u8 0), .lit (.int .u8 0), .lit (.int .u8 127), .lit (.int .u8 0), .lit (.int .u8 0), .lit (.int .u8 0), .lit (.int .u8 0), .lit (.int .u8 0), .lit (.int .u8 0), .lit (.int .u8 0), .lit (.int .u8 0), .lit (.int .u8 0), .lit (.int .u8 0), .lit (.int .u8 0), .lit (.int .u8 0), .lit (.int .u8 0), .lit (.int .u8 0), .lit (.int .u8 0), .lit (.int .u8 0), .lit (.int .u8 0), .lit (.int .u8 0), .lit (.int .u8 0), .lit (.int .u8 0), .lit (.int .u8 0), .lit (.int .u8 0), .lit (.int .u8 0), .lit (.int .u8 0), .lit (.int .u8 0), .lit (.int .u8 0), .lit (.int .u8 0), .lit (.int .u8 0), .lit (.int .u8 0), .lit (.int .u8 0), .lit (.int .u8 0), .lit (.int .u8 0), .lit (.int .u8 0), .lit (.int .u8 0), .lit (.int .u8 0), .lit (.int .u8 0), .lit (.int .u8 0), .lit (.int .u8 0), .lit (.int .u8 0), .lit (.int .u8 0), .lit (.int .u8 0), .lit (.int .u8 0), .lit (.int .u8 0), .lit (.int .u8 0), .lit (.int .u8 0), .lit (.int .u8 0), .lit (.int .u8 0), .lit (.int .u8 0), .lit (.int .u8 0), .lit (.int .u8 0), .lit (.int .u8 0), .lit (.int .u8 0), .lit (.int .u8 0), .lit (.int .u8 0), .lit (.int .u8 0), .lit (.int .u8 0), .lit (.int .u8 0), .lit (.int .u8 0), .lit (.int .u8 0), .lit (.int .u8 0), .lit (.int .u8 0), .lit (.int .u8 0), .lit (.int .u8 0), .lit (.int .u8 0), .lit (.int .u8 0), .lit (.int .u8 0), .lit (.int .u8 0), .lit (.int .u8 0), .lit (.int .u8 0), .lit (.int .u8 0), .lit (.int .u8 0), .lit (.int .u8 0), .lit (.int .u8 0), .lit (.int .u8 0), .lit (.int .u8 0), .lit (.int .u8 0), .lit (.int .u8 0), .lit (.int .u8 0), .lit (.int .u8 0), .lit (.int .u8 0), .lit (.int .u8 0), .lit (.int .u8 0), .lit (.int .u8 0), .lit (.int .u8 0), .lit (.int .u8 0), .lit (.int .u8 0), .lit (.int .u8 0), .lit (.int .u8 0), .lit (.int .u8 0), .lit (.int .u8 0), .lit (.int .u8 0), .lit (.int .u8 0), .lit (.int .u8 0), .lit (.int .u8 0), .lit (.int .u8 0), .lit (.int .u8 0), .lit (.int .u8 0), .lit (.int .u8 0), .lit (.int .u8 0), .lit (.int .u8 0), .lit (.int .u8 0), .lit (.int .u8 0), .lit (.int .u8 0), .lit (.int .u8 0), .lit (.int .u8 0), .lit (.int .u8 0), .lit (.int .u8 0), .lit (.int .u8 0), .lit (.int .u8 0), .lit (.int .u8 0), .lit (.int .u8 0), .lit (.int .u8 0), .lit (.int .u8 0), .lit (.int .u8 0), .lit (.int .u8 0), .lit (.int .u8 0), .lit (.int .u8 0), .lit (.int .u8 0), .lit (.int .u8 0), .lit (.int .u8 0), .lit (.int .u8 0), .lit (.int .u8 0), .lit (.int .u8 0), .lit (.int .u8 0), .lit (.int .u8 0), .lit (.int .u8 0), .lit (.int .u8 0), .lit (.int .u8 0), .lit (.int .u8 0)]

/-- 'laws.FnEscapedFragment': WHATEVER THE INPUT: true; the input reads as it did. -/
def fnEscapedFragmentSpec : ChangeSpec := { name := "fnEscapedFragment", fn := fun _ => fun
  | [d1, d2] => { results := [.lit (.bool true)], args := [d1, d2] }
  | _ => none }
def fnEscapedFragmentRow : OpenClaim := { program := "ytkakkcmpincggaadoor", sum := "890100bce989753e9f8ddbc52cd02ade3114decb4698ff042e87e902b65f0efe", func := "lib-ferrybell/laws.FnEscapedFragment", spec := "fnEscapedFragment", inPlace := ["internal/abi.NoEscape", "internal/bytealg.MakeNoZero"], named := ["net/url.table"], apart := false, laid := [("net/url.table", laid_net_url_table)] }
def FnEscapedFragmentSaid : Prop := fnEscapedFragmentRow.holds Tryd.pinned (OpenSpec.ofChange fnEscapedFragmentSpec)

/-- ITS FALSE NEIGHBOUR: 'it returns false'. Refute it at one input. -/
def fnEscapedFragmentWrong : ChangeSpec := { name := "fnEscapedFragment", fn := fun _ => fun
  | [d1, d2] => { results := [.lit (.bool false)], args := [d1, d2] }
  | _ => none }
def FnEscapedFragmentWrongFalsely : Prop := fnEscapedFragmentRow.holds Tryd.pinned (OpenSpec.ofChange fnEscapedFragmentWrong)

/-- 'laws.FnFragmentBytes': WHATEVER THE INPUT: true; the input reads as it did. -/
def fnFragmentBytesSpec : ChangeSpec := { name := "fnFragmentBytes", fn := fun _ => fun
  | [d] => { results := [.lit (.bool true)], args := [d] }
  | _ => none }
def fnFragmentBytesRow : OpenClaim := { program := "ytkakkcmpincggaadoor", sum := "890100bce989753e9f8ddbc52cd02ade3114decb4698ff042e87e902b65f0efe", func := "lib-ferrybell/laws.FnFragmentBytes", spec := "fnFragmentBytes", inPlace := ["internal/abi.NoEscape", "internal/bytealg.MakeNoZero"], named := ["net/url.table"], apart := false, laid := [("net/url.table", laid_net_url_table)] }
def FnFragmentBytesSaid : Prop := fnFragmentBytesRow.holds Tryd.pinned (OpenSpec.ofChange fnFragmentBytesSpec)

/-- ITS FALSE NEIGHBOUR: 'it returns false'. Refute it at one input. -/
def fnFragmentBytesWrong : ChangeSpec := { name := "fnFragmentBytes", fn := fun _ => fun
  | [d] => { results := [.lit (.bool false)], args := [d] }
  | _ => none }
def FnFragmentBytesWrongFalsely : Prop := fnFragmentBytesRow.holds Tryd.pinned (OpenSpec.ofChange fnFragmentBytesWrong)

/-- 'laws.FnFragmentDecodes': WHATEVER THE INPUT: true; the input reads as it did. -/
def fnFragmentDecodesSpec : ChangeSpec := { name := "fnFragmentDecodes", fn := fun _ => fun
  | [d1, d2] => { results := [.lit (.bool true)], args := [d1, d2] }
  | _ => none }
def fnFragmentDecodesRow : OpenClaim := { program := "ytkakkcmpincggaadoor", sum := "890100bce989753e9f8ddbc52cd02ade3114decb4698ff042e87e902b65f0efe", func := "lib-ferrybell/laws.FnFragmentDecodes", spec := "fnFragmentDecodes", inPlace := ["internal/abi.NoEscape", "internal/bytealg.MakeNoZero"], named := ["net/url.table"], apart := false, laid := [("net/url.table", laid_net_url_table)] }
def FnFragmentDecodesSaid : Prop := fnFragmentDecodesRow.holds Tryd.pinned (OpenSpec.ofChange fnFragmentDecodesSpec)

/-- ITS FALSE NEIGHBOUR: 'it returns false'. Refute it at one input. -/
def fnFragmentDecodesWrong : ChangeSpec := { name := "fnFragmentDecodes", fn := fun _ => fun
  | [d1, d2] => { results := [.lit (.bool false)], args := [d1, d2] }
  | _ => none }
def FnFragmentDecodesWrongFalsely : Prop := fnFragmentDecodesRow.holds Tryd.pinned (OpenSpec.ofChange fnFragmentDecodesWrong)

/-- 'laws.FnFragmentIgnored': WHATEVER THE INPUT: true; the input reads as it did. -/
def fnFragmentIgnoredSpec : ChangeSpec := { name := "fnFragmentIgnored", fn := fun _ => fun
  | [d1, d2] => { results := [.lit (.bool true)], args := [d1, d2] }
  | _ => none }
def fnFragmentIgnoredRow : OpenClaim := { program := "ytkakkcmpincggaadoor", sum := "890100bce989753e9f8ddbc52cd02ade3114decb4698ff042e87e902b65f0efe", func := "lib-ferrybell/laws.FnFragmentIgnored", spec := "fnFragmentIgnored", inPlace := ["internal/abi.NoEscape", "internal/bytealg.MakeNoZero"], named := ["net/url.table"], apart := false, laid := [("net/url.table", laid_net_url_table)] }
def FnFragmentIgnoredSaid : Prop := fnFragmentIgnoredRow.holds Tryd.pinned (OpenSpec.ofChange fnFragmentIgnoredSpec)

/-- ITS FALSE NEIGHBOUR: 'it returns false'. Refute it at one input. -/
def fnFragmentIgnoredWrong : ChangeSpec := { name := "fnFragmentIgnored", fn := fun _ => fun
  | [d1, d2] => { results := [.lit (.bool false)], args := [d1, d2] }
  | _ => none }
def FnFragmentIgnoredWrongFalsely : Prop := fnFragmentIgnoredRow.holds Tryd.pinned (OpenSpec.ofChange fnFragmentIgnoredWrong)

/-- 'laws.FnFragmentKept': WHATEVER THE INPUT: true; the input reads as it did. -/
def fnFragmentKeptSpec : ChangeSpec := { name := "fnFragmentKept", fn := fun _ => fun
  | [d] => { results := [.lit (.bool true)], args := [d] }
  | _ => none }
def fnFragmentKeptRow : OpenClaim := { program := "ytkakkcmpincggaadoor", sum := "890100bce989753e9f8ddbc52cd02ade3114decb4698ff042e87e902b65f0efe", func := "lib-ferrybell/laws.FnFragmentKept", spec := "fnFragmentKept", inPlace := ["internal/abi.NoEscape", "internal/bytealg.MakeNoZero"], named := ["net/url.table"], apart := false, laid := [("net/url.table", laid_net_url_table)] }
def FnFragmentKeptSaid : Prop := fnFragmentKeptRow.holds Tryd.pinned (OpenSpec.ofChange fnFragmentKeptSpec)

/-- ITS FALSE NEIGHBOUR: 'it returns false'. Refute it at one input. -/
def fnFragmentKeptWrong : ChangeSpec := { name := "fnFragmentKept", fn := fun _ => fun
  | [d] => { results := [.lit (.bool false)], args := [d] }
  | _ => none }
def FnFragmentKeptWrongFalsely : Prop := fnFragmentKeptRow.holds Tryd.pinned (OpenSpec.ofChange fnFragmentKeptWrong)

/-- 'laws.FnUserBytes': WHATEVER THE INPUT: true; the input reads as it did. -/
def fnUserBytesSpec : ChangeSpec := { name := "fnUserBytes", fn := fun _ => fun
  | [d1, d2, d3] => { results := [.lit (.bool true)], args := [d1, d2, d3] }
  | _ => none }
def fnUserBytesRow : OpenClaim := { program := "ytkakkcmpincggaadoor", sum := "890100bce989753e9f8ddbc52cd02ade3114decb4698ff042e87e902b65f0efe", func := "lib-ferrybell/laws.FnUserBytes", spec := "fnUserBytes", named := ["net/url.table"], apart := false, laid := [("net/url.table", laid_net_url_table)] }
def FnUserBytesSaid : Prop := fnUserBytesRow.holds Tryd.pinned (OpenSpec.ofChange fnUserBytesSpec)

/-- ITS FALSE NEIGHBOUR: 'it returns false'. Refute it at one input. -/
def fnUserBytesWrong : ChangeSpec := { name := "fnUserBytes", fn := fun _ => fun
  | [d1, d2, d3] => { results := [.lit (.bool false)], args := [d1, d2, d3] }
  | _ => none }
def FnUserBytesWrongFalsely : Prop := fnUserBytesRow.holds Tryd.pinned (OpenSpec.ofChange fnUserBytesWrong)

/-- 'laws.FnUserDecodes': WHATEVER THE INPUT: true; the input reads as it did. -/
def fnUserDecodesSpec : ChangeSpec := { name := "fnUserDecodes", fn := fun _ => fun
  | [d1, d2, d3] => { results := [.lit (.bool true)], args := [d1, d2, d3] }
  | _ => none }
def fnUserDecodesRow : OpenClaim := { program := "ytkakkcmpincggaadoor", sum := "890100bce989753e9f8ddbc52cd02ade3114decb4698ff042e87e902b65f0efe", func := "lib-ferrybell/laws.FnUserDecodes", spec := "fnUserDecodes", named := ["net/url.table"], apart := false, laid := [("net/url.table", laid_net_url_table)] }
def FnUserDecodesSaid : Prop := fnUserDecodesRow.holds Tryd.pinned (OpenSpec.ofChange fnUserDecodesSpec)

/-- ITS FALSE NEIGHBOUR: 'it returns false'. Refute it at one input. -/
def fnUserDecodesWrong : ChangeSpec := { name := "fnUserDecodes", fn := fun _ => fun
  | [d1, d2, d3] => { results := [.lit (.bool false)], args := [d1, d2, d3] }
  | _ => none }
def FnUserDecodesWrongFalsely : Prop := fnUserDecodesRow.holds Tryd.pinned (OpenSpec.ofChange fnUserDecodesWrong)

/-- 'laws.FnUserString': WHATEVER THE INPUT: true; the input reads as it did. -/
def fnUserStringSpec : ChangeSpec := { name := "fnUserString", fn := fun _ => fun
  | [d1, d2, d3] => { results := [.lit (.bool true)], args := [d1, d2, d3] }
  | _ => none }
def fnUserStringRow : OpenClaim := { program := "ytkakkcmpincggaadoor", sum := "890100bce989753e9f8ddbc52cd02ade3114decb4698ff042e87e902b65f0efe", func := "lib-ferrybell/laws.FnUserString", spec := "fnUserString", named := ["net/url.table"], apart := false, laid := [("net/url.table", laid_net_url_table)] }
def FnUserStringSaid : Prop := fnUserStringRow.holds Tryd.pinned (OpenSpec.ofChange fnUserStringSpec)

/-- ITS FALSE NEIGHBOUR: 'it returns false'. Refute it at one input. -/
def fnUserStringWrong : ChangeSpec := { name := "fnUserString", fn := fun _ => fun
  | [d1, d2, d3] => { results := [.lit (.bool false)], args := [d1, d2, d3] }
  | _ => none }
def FnUserStringWrongFalsely : Prop := fnUserStringRow.holds Tryd.pinned (OpenSpec.ofChange fnUserStringWrong)

/-- 'laws.FnUsersApart': WHATEVER THE INPUT: true; the input reads as it did. -/
def fnUsersApartSpec : ChangeSpec := { name := "fnUsersApart", fn := fun _ => fun
  | [d1, d2, d3, d4, d5] => { results := [.lit (.bool true)], args := [d1, d2, d3, d4, d5] }
  | _ => none }
def fnUsersApartRow : OpenClaim := { program := "ytkakkcmpincggaadoor", sum := "890100bce989753e9f8ddbc52cd02ade3114decb4698ff042e87e902b65f0efe", func := "lib-ferrybell/laws.FnUsersApart", spec := "fnUsersApart", named := ["net/url.table"], apart := false, laid := [("net/url.table", laid_net_url_table)] }
def FnUsersApartSaid : Prop := fnUsersApartRow.holds Tryd.pinned (OpenSpec.ofChange fnUsersApartSpec)

/-- ITS FALSE NEIGHBOUR: 'it returns false'. Refute it at one input. -/
def fnUsersApartWrong : ChangeSpec := { name := "fnUsersApart", fn := fun _ => fun
  | [d1, d2, d3, d4, d5] => { results := [.lit (.bool false)], args := [d1, d2, d3, d4, d5] }
  | _ => none }
def FnUsersApartWrongFalsely : Prop := fnUsersApartRow.holds Tryd.pinned (OpenSpec.ofChange fnUsersApartWrong)

/-- 'laws.FnRequestQuery': WHATEVER THE INPUT: true; the input reads as it did. -/
def fnRequestQuerySpec : ChangeSpec := { name := "fnRequestQuery", fn := fun _ => fun
  | [d1, d2] => { results := [.lit (.bool true)], args := [d1, d2] }
  | _ => none }
def fnRequestQueryRow : OpenClaim := { program := "ytkakkcmpincggaadoor", sum := "890100bce989753e9f8ddbc52cd02ade3114decb4698ff042e87e902b65f0efe", func := "lib-ferrybell/laws.FnRequestQuery", spec := "fnRequestQuery", inPlace := ["internal/abi.NoEscape", "internal/bytealg.MakeNoZero"], named := ["net/url.table"], apart := false, laid := [("net/url.table", laid_net_url_table)] }
def FnRequestQuerySaid : Prop := fnRequestQueryRow.holds Tryd.pinned (OpenSpec.ofChange fnRequestQuerySpec)

/-- ITS FALSE NEIGHBOUR: 'it returns false'. Refute it at one input. -/
def fnRequestQueryWrong : ChangeSpec := { name := "fnRequestQuery", fn := fun _ => fun
  | [d1, d2] => { results := [.lit (.bool false)], args := [d1, d2] }
  | _ => none }
def FnRequestQueryWrongFalsely : Prop := fnRequestQueryRow.holds Tryd.pinned (OpenSpec.ofChange fnRequestQueryWrong)

/- THE SECOND FORM. 'bulk': how many values and letters a reading holds, each counted each time it is reached (what is shared counts as often as it is met; a slice's spare places count too). A statement '..UptoSaid' is the law's where the arguments, and the package variables that the reading takes, are together of bulk at most 1048576: NARROWER than '..Said'. Prove '..Said' where nothing that the law and all that it calls make is longer than what came in: it says more and counts as full. Else prove '..UptoSaid'. A law counts once. -/
mutual
def uptoBulk {H : Type} : DataW H → Nat
  | .lit (.string bytes) => bytes.length + 1
  | .lit _ => 1
  | .nil => 1
  | .ptr d => uptoBulk d + 1
  | .slice elems spare => uptoBulkAll elems + uptoBulkAll spare + 1
  | .agg parts => uptoBulkAll parts + 1
  | .iface _ d => uptoBulk d + 1
  | .map entries => uptoBulkEntries entries + 1
  | .held _ => 1
def uptoBulkAll {H : Type} : List (DataW H) → Nat
  | [] => 0
  | d :: r => uptoBulk d + uptoBulkAll r
def uptoBulkEntries {H : Type} : List (Lit × DataW H) → Nat
  | [] => 0
  | x :: r => uptoBulkEntry x + uptoBulkEntries r
def uptoBulkEntry {H : Type} : Lit × DataW H → Nat
  | (.string bytes, d) => bytes.length + uptoBulk d + 1
  | (_, d) => uptoBulk d + 1
 end
def uptoSmall : (H : Type) → List (DataW H) → Bool := fun _ ds => decide (uptoBulkAll ds ≤ 1048576)
def OpenSpec.upto (s : _root_.Go.ChangeSpec) : _root_.Go.OpenSpec := { _root_.Go.OpenSpec.ofChange s with cond := some uptoSmall }

/-- 'laws.FnEscapedFragment', WHERE WHAT IT READS IS OF BULK AT MOST 1048576: true; the input reads as it did. -/
def fnEscapedFragmentUptoRow : OpenClaim := { program := "ytkakkcmpincggaadoor", sum := "890100bce989753e9f8ddbc52cd02ade3114decb4698ff042e87e902b65f0efe", func := "lib-ferrybell/laws.FnEscapedFragment", spec := "fnEscapedFragment", inPlace := ["internal/abi.NoEscape", "internal/bytealg.MakeNoZero"], named := ["net/url.table"], apart := false, laid := [("net/url.table", laid_net_url_table)], narrowed := true }
def FnEscapedFragmentUptoSaid : Prop := fnEscapedFragmentUptoRow.holds Tryd.pinned (OpenSpec.upto fnEscapedFragmentSpec)

/-- 'laws.FnFragmentBytes', WHERE WHAT IT READS IS OF BULK AT MOST 1048576: true; the input reads as it did. -/
def fnFragmentBytesUptoRow : OpenClaim := { program := "ytkakkcmpincggaadoor", sum := "890100bce989753e9f8ddbc52cd02ade3114decb4698ff042e87e902b65f0efe", func := "lib-ferrybell/laws.FnFragmentBytes", spec := "fnFragmentBytes", inPlace := ["internal/abi.NoEscape", "internal/bytealg.MakeNoZero"], named := ["net/url.table"], apart := false, laid := [("net/url.table", laid_net_url_table)], narrowed := true }
def FnFragmentBytesUptoSaid : Prop := fnFragmentBytesUptoRow.holds Tryd.pinned (OpenSpec.upto fnFragmentBytesSpec)

/-- 'laws.FnFragmentDecodes', WHERE WHAT IT READS IS OF BULK AT MOST 1048576: true; the input reads as it did. -/
def fnFragmentDecodesUptoRow : OpenClaim := { program := "ytkakkcmpincggaadoor", sum := "890100bce989753e9f8ddbc52cd02ade3114decb4698ff042e87e902b65f0efe", func := "lib-ferrybell/laws.FnFragmentDecodes", spec := "fnFragmentDecodes", inPlace := ["internal/abi.NoEscape", "internal/bytealg.MakeNoZero"], named := ["net/url.table"], apart := false, laid := [("net/url.table", laid_net_url_table)], narrowed := true }
def FnFragmentDecodesUptoSaid : Prop := fnFragmentDecodesUptoRow.holds Tryd.pinned (OpenSpec.upto fnFragmentDecodesSpec)

/-- 'laws.FnFragmentIgnored', WHERE WHAT IT READS IS OF BULK AT MOST 1048576: true; the input reads as it did. -/
def fnFragmentIgnoredUptoRow : OpenClaim := { program := "ytkakkcmpincggaadoor", sum := "890100bce989753e9f8ddbc52cd02ade3114decb4698ff042e87e902b65f0efe", func := "lib-ferrybell/laws.FnFragmentIgnored", spec := "fnFragmentIgnored", inPlace := ["internal/abi.NoEscape", "internal/bytealg.MakeNoZero"], named := ["net/url.table"], apart := false, laid := [("net/url.table", laid_net_url_table)], narrowed := true }
def FnFragmentIgnoredUptoSaid : Prop := fnFragmentIgnoredUptoRow.holds Tryd.pinned (OpenSpec.upto fnFragmentIgnoredSpec)

/-- 'laws.FnFragmentKept', WHERE WHAT IT READS IS OF BULK AT MOST 1048576: true; the input reads as it did. -/
def fnFragmentKeptUptoRow : OpenClaim := { program := "ytkakkcmpincggaadoor", sum := "890100bce989753e9f8ddbc52cd02ade3114decb4698ff042e87e902b65f0efe", func := "lib-ferrybell/laws.FnFragmentKept", spec := "fnFragmentKept", inPlace := ["internal/abi.NoEscape", "internal/bytealg.MakeNoZero"], named := ["net/url.table"], apart := false, laid := [("net/url.table", laid_net_url_table)], narrowed := true }
def FnFragmentKeptUptoSaid : Prop := fnFragmentKeptUptoRow.holds Tryd.pinned (OpenSpec.upto fnFragmentKeptSpec)

/-- 'laws.FnUserBytes', WHERE WHAT IT READS IS OF BULK AT MOST 1048576: true; the input reads as it did. -/
def fnUserBytesUptoRow : OpenClaim := { program := "ytkakkcmpincggaadoor", sum := "890100bce989753e9f8ddbc52cd02ade3114decb4698ff042e87e902b65f0efe", func := "lib-ferrybell/laws.FnUserBytes", spec := "fnUserBytes", named := ["net/url.table"], apart := false, laid := [("net/url.table", laid_net_url_table)], narrowed := true }
def FnUserBytesUptoSaid : Prop := fnUserBytesUptoRow.holds Tryd.pinned (OpenSpec.upto fnUserBytesSpec)

/-- 'laws.FnUserDecodes', WHERE WHAT IT READS IS OF BULK AT MOST 1048576: true; the input reads as it did. -/
def fnUserDecodesUptoRow : OpenClaim := { program := "ytkakkcmpincggaadoor", sum := "890100bce989753e9f8ddbc52cd02ade3114decb4698ff042e87e902b65f0efe", func := "lib-ferrybell/laws.FnUserDecodes", spec := "fnUserDecodes", named := ["net/url.table"], apart := false, laid := [("net/url.table", laid_net_url_table)], narrowed := true }
def FnUserDecodesUptoSaid : Prop := fnUserDecodesUptoRow.holds Tryd.pinned (OpenSpec.upto fnUserDecodesSpec)

/-- 'laws.FnUserString', WHERE WHAT IT READS IS OF BULK AT MOST 1048576: true; the input reads as it did. -/
def fnUserStringUptoRow : OpenClaim := { program := "ytkakkcmpincggaadoor", sum := "890100bce989753e9f8ddbc52cd02ade3114decb4698ff042e87e902b65f0efe", func := "lib-ferrybell/laws.FnUserString", spec := "fnUserString", named := ["net/url.table"], apart := false, laid := [("net/url.table", laid_net_url_table)], narrowed := true }
def FnUserStringUptoSaid : Prop := fnUserStringUptoRow.holds Tryd.pinned (OpenSpec.upto fnUserStringSpec)

/-- 'laws.FnUsersApart', WHERE WHAT IT READS IS OF BULK AT MOST 1048576: true; the input reads as it did. -/
def fnUsersApartUptoRow : OpenClaim := { program := "ytkakkcmpincggaadoor", sum := "890100bce989753e9f8ddbc52cd02ade3114decb4698ff042e87e902b65f0efe", func := "lib-ferrybell/laws.FnUsersApart", spec := "fnUsersApart", named := ["net/url.table"], apart := false, laid := [("net/url.table", laid_net_url_table)], narrowed := true }
def FnUsersApartUptoSaid : Prop := fnUsersApartUptoRow.holds Tryd.pinned (OpenSpec.upto fnUsersApartSpec)

/-- 'laws.FnRequestQuery', WHERE WHAT IT READS IS OF BULK AT MOST 1048576: true; the input reads as it did. -/
def fnRequestQueryUptoRow : OpenClaim := { program := "ytkakkcmpincggaadoor", sum := "890100bce989753e9f8ddbc52cd02ade3114decb4698ff042e87e902b65f0efe", func := "lib-ferrybell/laws.FnRequestQuery", spec := "fnRequestQuery", inPlace := ["internal/abi.NoEscape", "internal/bytealg.MakeNoZero"], named := ["net/url.table"], apart := false, laid := [("net/url.table", laid_net_url_table)], narrowed := true }
def FnRequestQueryUptoSaid : Prop := fnRequestQueryUptoRow.holds Tryd.pinned (OpenSpec.upto fnRequestQuerySpec)

end Rows
end Go.Proofs.YtkakkcmpincggaaDoor
