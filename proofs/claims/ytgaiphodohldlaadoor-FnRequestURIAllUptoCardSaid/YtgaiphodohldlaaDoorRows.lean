/-
  NARROWER THAN 'FOR EVERY INPUT', by the rows' own cells (each row's printed sentence says how): FnEscapedPath: laid · FnPathAgain: laid · FnPathBytes: laid · FnPathDecodes: laid · FnPathIgnored: laid · FnPathKept: laid · FnPathsApart: laid · FnPathsTogether: laid · FnRequestURIAll: laid · FnRequestPath: laid · FnRequestURI: laid · FnRequestOthers: laid.
  DERIVED. THE GIVEN ROWS OF THIS SEAT. 12 by the template 'for every input the law returns true; each argument reads behind the call as it read before'; 0 by the template 'total and deterministic' (their statements: YtgaiphodohldlaaDoorTotals.lean).
  GIVEN WITH THE SEED: the statements are not yours to turn. If you find one false, say at which input.
  Laid BY PROGRAM, IN A SANDBOX (cutbox-rows.mjs): the forced cells as the released guide's own fill.sh prints them over the translation 3780b673a008b550… (all of the seat's roots in one cut). By AI agents, Wed Nov 11 2026. No macro, syntax, notation, axiom, sorry.
-/
import Derived.Test.YtgaiphodohldlaaDoorChecked
import GoSem.Claim
import GoSem.ClaimJoined
import GoSem.ClaimMapViews
import Derived.JoinedTies
import Derived.KernelRfl
namespace Go.Proofs.YtgaiphodohldlaaDoor
/- THE CELL 'sum', in the pinned program and in every row, IS THE sha256 OF THE DUMP (.gsa) THAT YtgaiphodohldlaaDoorProg.lean LOADS. Nothing in Lean hashes anything: it is a label: what it is worth is what the hold of that sum in a sandbox is worth. -/
noncomputable def Tryd.pinned : Pinned := { name := "ytgaiphodohldlaadoor", sum := "3780b673a008b550f59cf66d0ed5e832e211b396da2392cee279059bd6f24d0f", checked := Tryd.checked }
namespace Rows
def none {H : Type} : Left H := { results := [], args := [] }

/- WHAT THE LISTED PACKAGE-LEVEL VARIABLES READ AS WHEN THE CALL BEGINS. Each datum BY PROGRAM (the guide's laid-datum.mjs) off the statement by which the dump's own 'gosem.cut.vars' lays the variable. In a bare row this is a premise. The card (YtgaiphodohldlaaDoorCards.lean) ties it to the program's text. -/
def laid_net_url_table {H : Type} : DataW H := .agg [.lit (.int .u8 0), .lit (.int .u8 0), .lit (.int .u8 0), .lit (.int .u8 0), .lit (.int .u8 0), .lit (.int .u8 0), .lit (.int .u8 0), .lit (.int .u8 0), .lit (.int .u8 0), .lit (.int .u8 0), .lit (.int .u8 0), .lit (.int .u8 0), .lit (.int .u8 0), .lit (.int .u8 0), .lit (.int .u8 0), .lit (.int .u8 0), .lit (.int .u8 0), .lit (.int .u8 0), .lit (.int .u8 0), .lit (.int .u8 0), .lit (.int .u8 0), .lit (.int .u8 0), .lit (.int .u8 0), .lit (.int .u8 0), .lit (.int .u8 0), .lit (.int .u8 0), .lit (.int .u8 0), .lit (.int .u8 0), .lit (.int .u8 0), .lit (.int .u8 0), .lit (.int .u8 0), .lit (.int .u8 0), .lit (.int .u8 0), .lit (.int .u8 76), .lit (.int .u8 12), .lit (.int .u8 0), .lit (.int .u8 95), .lit (.int .u8 0), .lit (.int .u8 95), .lit (.int .u8 12), .lit (.int .u8 76), .lit (.int .u8 76), .lit (.int .u8 76), .lit (.int .u8 95), .lit (.int .u8 93), .lit (.int .u8 127), .lit (.int .u8 127), .lit (.int .u8 65), .lit (.int .u8 255), .lit (.int .u8 255), .lit (.int .u8 255), .lit (.int .u8 255), .lit (.int .u8 255), .lit (.int .u8 255), .lit (.int .u8 255), .lit (.int .u8 255), .lit (.int .u8 255), .lit (.int .u8 255), .lit (.int .u8 79), .lit (.int .u8 93), .lit (.int .u8 12), .lit (.int .u8 95), .lit (.int .u8 12), .lit (.int .u8 64), .lit (.int .u8 67), .lit (.int .u8 255), .lit (.int .u8 255), .lit (.int .u8 255), .lit (.int .u8 255), .lit (.int .u8 255), .lit (.int .u8 255), .lit (.int .u8 127), .lit (.int .u8 127), .lit (.int .u8 127), .lit (.int .u8 127), .lit (.int .u8 127), .lit (.int .u8 127), .lit (.int .u8 127), .lit (.int .u8 127), .lit (.int .u8 127), .lit (.int .u8 127), .lit (.int .u8 127), .lit (.int .u8 127), .lit (.int .u8 127), .lit (.int .u8 127), .lit (.int .u8 127), .lit (.int .u8 127), .lit (.int .u8 127), .lit (.int .u8 127), .lit (.int .u8 127), .lit (.int .u8 127), .lit (.int .u8 12), .lit (.int .u8 0), .lit (.int .u8 12), .lit (.int .u8 0), .lit (.int .u8 127), .lit (.int .u8 0), .lit (.int .u8 255), .lit (.int .u8 255), .lit (.int .u8 255), .lit (.int .u8 255), .lit (.int .u8 255), .lit (.int .u8 255), .lit (.int .u8 127), .lit (.int .u8 127), .lit (.int .u8 127), .lit (.int .u8 127), .lit (.int .u8 127), .lit (.int .u8 127), .lit (.int .u8 127), .lit (.int .u8 127), .lit (.int .u8 127), .lit (.int .u8 127), .lit (.int .u8 127), .lit (.int .u8 127), .lit (.int .u8 127), .lit (.int .u8 127), .lit (.int .u8 127), .lit (.int .u8 127), .lit (.int .u8 127), .lit (.int .u8 127), .lit (.int .u8 127), .lit (.int .u8 127), .lit (.int .u8 0), .lit (.int .u8 0), .lit (.int .u8 0), .lit (.int .u8 127), .lit (.int .u8 0), .lit (.int .u8 0), .lit (.int .u8 0), .lit (.int .u8 0), .lit (.int .u8 0), .lit (.int .u8 0), .lit (.int .u8 0), .lit (.int .u8 0), .lit (.int .u8 0), .lit (.int .u8 0), .lit (.int .u8 0), .lit (.int .u8 0), .lit (.int .u8 0), .lit (.int .u8 0), .lit (.int .u8 0), .lit (.int .u8 0), .lit (.int .u8 0), .lit (.int .u8 0), .lit (.int .u8 0), .lit (.int .u8 0), .lit (.int .u8 0), .lit (.int .u8 0), .lit (.int .u8 0), .lit (.int .u8 0), .lit (.int .u8 0), .lit (.int .u8 0), .lit (.int .u8 0), .lit (.int .u8 0), .lit (.int .u8 0), .lit (.int .u8 0), .lit (.int .u8 0), .lit (.int .u8 0), .lit (.int .u8 0), .lit (.int .u8 0), .lit (.int .u8 0), .lit (.int .u8 0), .lit (.int .u8 0), .lit (.int .u8 0), .lit (.int .u8 0), .lit (.int .u8 0), .lit (.int .u8 0), .lit (.int .u8 0), .lit (.int .u8 0), .lit (.int .u8 0), .lit (.int .u8 0), .lit (.int .u8 0), .lit (.int .u8 0), .lit (.int .u8 0), .lit (.int .u8 0), .lit (.int .u8 0), .lit (.int .u8 0), .lit (.int .u8 0), .lit (.int .u8 0), .lit (.int .u8 0), .lit (.int .u8 0), .lit (.int .u8 0), .lit (.int .u8 0), .lit (.int .u8 0), .lit (.int .u8 0), .lit (.int .u8 0), .lit (.int .u8 0), .lit (.int .u8 0), .lit (.int .u8 0), .lit (.int .u8 0), .lit (.int .u8 0), .lit (.int .u8 0), .lit (.int .u8 0), .lit (.int .u8 0), .lit (.int .u8 0), .lit (.int .u8 0), .lit (.int .u8 0), .lit (.int .u8 0), .lit (.int .u8 0), .lit (.int .u8 0), .lit (.int .u8 0), .lit (.int .u8 0), .lit (.int .u8 0), .lit (.int .u8 0), .lit (.int .u8 0), .lit (.int .u8 0), .lit (.int .u8 0), .lit (.int .u8 0), .lit (.int .u8 0), .lit (.int .u8 0), .lit (.int .u8 0), .lit (.int .u8 0), .lit (.int .u8 0), .lit (.int .u8 0), .lit (.int .u8 0), .lit (.int .u8 0), .lit (.int .u8 0), .lit (.int .u8 0), .lit (.int .u8 0), .lit (.int .u8 0), .lit (.int .u8 0), .lit (.int .u8 0), .lit (.int .u8 0), .lit (.int .u8 0), .lit (.int .u8 0), .lit (.int .u8 0), .lit (.int .u8 0), .lit (.int .u8 0), .lit (.int .u8 0), .lit (.int .u8 0), .lit (.int .u8 0), .lit (.int .u8 0), .lit (.int .u8 0), .lit (.int .u8 0), .lit (.int .u8 0), .lit (.int .u8 0), .lit (.int .u8 0), .lit (.int .u8 0), .lit (.int .u8 0), .lit (.int .u8 0), .lit (.int .u8 0), .lit (.int .u8 0), .lit (.int .u8 0), .lit (.int .u8 0), .lit (.int .u8 0), .lit (.int .u8 0), .lit (.int .u8 0), .lit (.int .u8 0), .lit (.int .u8 0), .lit (.int .u8 0), .lit (.int .u8 0), .lit (.int .u8 0), .lit (.int .u8 0), .lit (.int .u8 0), .lit (.int .u8 0)]

/-- 'laws.FnEscapedPath': WHATEVER THE INPUT: true; the input reads as it did. -/
def fnEscapedPathSpec : ChangeSpec := { name := "fnEscapedPath", fn := fun _ => fun
  | [d1, d2] => { results := [.lit (.bool true)], args := [d1, d2] }
  | _ => none }
def fnEscapedPathRow : OpenClaim := { program := "ytgaiphodohldlaadoor", sum := "3780b673a008b550f59cf66d0ed5e832e211b396da2392cee279059bd6f24d0f", func := "lib-ferrybell/laws.FnEscapedPath", spec := "fnEscapedPath", inPlace := ["internal/abi.NoEscape", "internal/bytealg.MakeNoZero"], named := ["net/url.table"], apart := false, laid := [("net/url.table", laid_net_url_table)] }
def FnEscapedPathSaid : Prop := fnEscapedPathRow.holds Tryd.pinned (OpenSpec.ofChange fnEscapedPathSpec)

/-- ITS FALSE NEIGHBOUR: 'it returns false'. Refute it at one input. -/
def fnEscapedPathWrong : ChangeSpec := { name := "fnEscapedPath", fn := fun _ => fun
  | [d1, d2] => { results := [.lit (.bool false)], args := [d1, d2] }
  | _ => none }
def FnEscapedPathWrongFalsely : Prop := fnEscapedPathRow.holds Tryd.pinned (OpenSpec.ofChange fnEscapedPathWrong)

/-- 'laws.FnPathAgain': WHATEVER THE INPUT: true; the input reads as it did. -/
def fnPathAgainSpec : ChangeSpec := { name := "fnPathAgain", fn := fun _ => fun
  | [d1, d2] => { results := [.lit (.bool true)], args := [d1, d2] }
  | _ => none }
def fnPathAgainRow : OpenClaim := { program := "ytgaiphodohldlaadoor", sum := "3780b673a008b550f59cf66d0ed5e832e211b396da2392cee279059bd6f24d0f", func := "lib-ferrybell/laws.FnPathAgain", spec := "fnPathAgain", inPlace := ["internal/abi.NoEscape", "internal/bytealg.MakeNoZero"], named := ["net/url.table"], apart := false, laid := [("net/url.table", laid_net_url_table)] }
def FnPathAgainSaid : Prop := fnPathAgainRow.holds Tryd.pinned (OpenSpec.ofChange fnPathAgainSpec)

/-- ITS FALSE NEIGHBOUR: 'it returns false'. Refute it at one input. -/
def fnPathAgainWrong : ChangeSpec := { name := "fnPathAgain", fn := fun _ => fun
  | [d1, d2] => { results := [.lit (.bool false)], args := [d1, d2] }
  | _ => none }
def FnPathAgainWrongFalsely : Prop := fnPathAgainRow.holds Tryd.pinned (OpenSpec.ofChange fnPathAgainWrong)

/-- 'laws.FnPathBytes': WHATEVER THE INPUT: true; the input reads as it did. -/
def fnPathBytesSpec : ChangeSpec := { name := "fnPathBytes", fn := fun _ => fun
  | [d] => { results := [.lit (.bool true)], args := [d] }
  | _ => none }
def fnPathBytesRow : OpenClaim := { program := "ytgaiphodohldlaadoor", sum := "3780b673a008b550f59cf66d0ed5e832e211b396da2392cee279059bd6f24d0f", func := "lib-ferrybell/laws.FnPathBytes", spec := "fnPathBytes", inPlace := ["internal/abi.NoEscape", "internal/bytealg.MakeNoZero"], named := ["net/url.table"], apart := false, laid := [("net/url.table", laid_net_url_table)] }
def FnPathBytesSaid : Prop := fnPathBytesRow.holds Tryd.pinned (OpenSpec.ofChange fnPathBytesSpec)

/-- ITS FALSE NEIGHBOUR: 'it returns false'. Refute it at one input. -/
def fnPathBytesWrong : ChangeSpec := { name := "fnPathBytes", fn := fun _ => fun
  | [d] => { results := [.lit (.bool false)], args := [d] }
  | _ => none }
def FnPathBytesWrongFalsely : Prop := fnPathBytesRow.holds Tryd.pinned (OpenSpec.ofChange fnPathBytesWrong)

/-- 'laws.FnPathDecodes': WHATEVER THE INPUT: true; the input reads as it did. -/
def fnPathDecodesSpec : ChangeSpec := { name := "fnPathDecodes", fn := fun _ => fun
  | [d1, d2] => { results := [.lit (.bool true)], args := [d1, d2] }
  | _ => none }
def fnPathDecodesRow : OpenClaim := { program := "ytgaiphodohldlaadoor", sum := "3780b673a008b550f59cf66d0ed5e832e211b396da2392cee279059bd6f24d0f", func := "lib-ferrybell/laws.FnPathDecodes", spec := "fnPathDecodes", inPlace := ["internal/abi.NoEscape", "internal/bytealg.MakeNoZero"], named := ["net/url.table"], apart := false, laid := [("net/url.table", laid_net_url_table)] }
def FnPathDecodesSaid : Prop := fnPathDecodesRow.holds Tryd.pinned (OpenSpec.ofChange fnPathDecodesSpec)

/-- ITS FALSE NEIGHBOUR: 'it returns false'. Refute it at one input. -/
def fnPathDecodesWrong : ChangeSpec := { name := "fnPathDecodes", fn := fun _ => fun
  | [d1, d2] => { results := [.lit (.bool false)], args := [d1, d2] }
  | _ => none }
def FnPathDecodesWrongFalsely : Prop := fnPathDecodesRow.holds Tryd.pinned (OpenSpec.ofChange fnPathDecodesWrong)

/-- 'laws.FnPathIgnored': WHATEVER THE INPUT: true; the input reads as it did. -/
def fnPathIgnoredSpec : ChangeSpec := { name := "fnPathIgnored", fn := fun _ => fun
  | [d1, d2] => { results := [.lit (.bool true)], args := [d1, d2] }
  | _ => none }
def fnPathIgnoredRow : OpenClaim := { program := "ytgaiphodohldlaadoor", sum := "3780b673a008b550f59cf66d0ed5e832e211b396da2392cee279059bd6f24d0f", func := "lib-ferrybell/laws.FnPathIgnored", spec := "fnPathIgnored", inPlace := ["internal/abi.NoEscape", "internal/bytealg.MakeNoZero"], named := ["net/url.table"], apart := false, laid := [("net/url.table", laid_net_url_table)] }
def FnPathIgnoredSaid : Prop := fnPathIgnoredRow.holds Tryd.pinned (OpenSpec.ofChange fnPathIgnoredSpec)

/-- ITS FALSE NEIGHBOUR: 'it returns false'. Refute it at one input. -/
def fnPathIgnoredWrong : ChangeSpec := { name := "fnPathIgnored", fn := fun _ => fun
  | [d1, d2] => { results := [.lit (.bool false)], args := [d1, d2] }
  | _ => none }
def FnPathIgnoredWrongFalsely : Prop := fnPathIgnoredRow.holds Tryd.pinned (OpenSpec.ofChange fnPathIgnoredWrong)

/-- 'laws.FnPathKept': WHATEVER THE INPUT: true; the input reads as it did. -/
def fnPathKeptSpec : ChangeSpec := { name := "fnPathKept", fn := fun _ => fun
  | [d] => { results := [.lit (.bool true)], args := [d] }
  | _ => none }
def fnPathKeptRow : OpenClaim := { program := "ytgaiphodohldlaadoor", sum := "3780b673a008b550f59cf66d0ed5e832e211b396da2392cee279059bd6f24d0f", func := "lib-ferrybell/laws.FnPathKept", spec := "fnPathKept", inPlace := ["internal/abi.NoEscape", "internal/bytealg.MakeNoZero"], named := ["net/url.table"], apart := false, laid := [("net/url.table", laid_net_url_table)] }
def FnPathKeptSaid : Prop := fnPathKeptRow.holds Tryd.pinned (OpenSpec.ofChange fnPathKeptSpec)

/-- ITS FALSE NEIGHBOUR: 'it returns false'. Refute it at one input. -/
def fnPathKeptWrong : ChangeSpec := { name := "fnPathKept", fn := fun _ => fun
  | [d] => { results := [.lit (.bool false)], args := [d] }
  | _ => none }
def FnPathKeptWrongFalsely : Prop := fnPathKeptRow.holds Tryd.pinned (OpenSpec.ofChange fnPathKeptWrong)

/-- 'laws.FnPathsApart': WHATEVER THE INPUT: true; the input reads as it did. -/
def fnPathsApartSpec : ChangeSpec := { name := "fnPathsApart", fn := fun _ => fun
  | [d1, d2] => { results := [.lit (.bool true)], args := [d1, d2] }
  | _ => none }
def fnPathsApartRow : OpenClaim := { program := "ytgaiphodohldlaadoor", sum := "3780b673a008b550f59cf66d0ed5e832e211b396da2392cee279059bd6f24d0f", func := "lib-ferrybell/laws.FnPathsApart", spec := "fnPathsApart", inPlace := ["internal/abi.NoEscape", "internal/bytealg.MakeNoZero"], named := ["net/url.table"], apart := false, laid := [("net/url.table", laid_net_url_table)] }
def FnPathsApartSaid : Prop := fnPathsApartRow.holds Tryd.pinned (OpenSpec.ofChange fnPathsApartSpec)

/-- ITS FALSE NEIGHBOUR: 'it returns false'. Refute it at one input. -/
def fnPathsApartWrong : ChangeSpec := { name := "fnPathsApart", fn := fun _ => fun
  | [d1, d2] => { results := [.lit (.bool false)], args := [d1, d2] }
  | _ => none }
def FnPathsApartWrongFalsely : Prop := fnPathsApartRow.holds Tryd.pinned (OpenSpec.ofChange fnPathsApartWrong)

/-- 'laws.FnPathsTogether': WHATEVER THE INPUT: true; the input reads as it did. -/
def fnPathsTogetherSpec : ChangeSpec := { name := "fnPathsTogether", fn := fun _ => fun
  | [d1, d2] => { results := [.lit (.bool true)], args := [d1, d2] }
  | _ => none }
def fnPathsTogetherRow : OpenClaim := { program := "ytgaiphodohldlaadoor", sum := "3780b673a008b550f59cf66d0ed5e832e211b396da2392cee279059bd6f24d0f", func := "lib-ferrybell/laws.FnPathsTogether", spec := "fnPathsTogether", inPlace := ["internal/abi.NoEscape", "internal/bytealg.MakeNoZero"], named := ["net/url.table"], apart := false, laid := [("net/url.table", laid_net_url_table)] }
def FnPathsTogetherSaid : Prop := fnPathsTogetherRow.holds Tryd.pinned (OpenSpec.ofChange fnPathsTogetherSpec)

/-- ITS FALSE NEIGHBOUR: 'it returns false'. Refute it at one input. -/
def fnPathsTogetherWrong : ChangeSpec := { name := "fnPathsTogether", fn := fun _ => fun
  | [d1, d2] => { results := [.lit (.bool false)], args := [d1, d2] }
  | _ => none }
def FnPathsTogetherWrongFalsely : Prop := fnPathsTogetherRow.holds Tryd.pinned (OpenSpec.ofChange fnPathsTogetherWrong)

/-- 'laws.FnRequestURIAll': WHATEVER THE INPUT: true; the input reads as it did. -/
def fnRequestURIAllSpec : ChangeSpec := { name := "fnRequestURIAll", fn := fun _ => fun
  | [d] => { results := [.lit (.bool true)], args := [d] }
  | _ => none }
def fnRequestURIAllRow : OpenClaim := { program := "ytgaiphodohldlaadoor", sum := "3780b673a008b550f59cf66d0ed5e832e211b396da2392cee279059bd6f24d0f", func := "lib-ferrybell/laws.FnRequestURIAll", spec := "fnRequestURIAll", inPlace := ["internal/abi.NoEscape", "internal/bytealg.MakeNoZero"], named := ["net/url.table"], apart := false, laid := [("net/url.table", laid_net_url_table)] }
def FnRequestURIAllSaid : Prop := fnRequestURIAllRow.holds Tryd.pinned (OpenSpec.ofChange fnRequestURIAllSpec)

/-- ITS FALSE NEIGHBOUR: 'it returns false'. Refute it at one input. -/
def fnRequestURIAllWrong : ChangeSpec := { name := "fnRequestURIAll", fn := fun _ => fun
  | [d] => { results := [.lit (.bool false)], args := [d] }
  | _ => none }
def FnRequestURIAllWrongFalsely : Prop := fnRequestURIAllRow.holds Tryd.pinned (OpenSpec.ofChange fnRequestURIAllWrong)

/-- 'laws.FnRequestPath': WHATEVER THE INPUT: true; the input reads as it did. -/
def fnRequestPathSpec : ChangeSpec := { name := "fnRequestPath", fn := fun _ => fun
  | [d1, d2] => { results := [.lit (.bool true)], args := [d1, d2] }
  | _ => none }
def fnRequestPathRow : OpenClaim := { program := "ytgaiphodohldlaadoor", sum := "3780b673a008b550f59cf66d0ed5e832e211b396da2392cee279059bd6f24d0f", func := "lib-ferrybell/laws.FnRequestPath", spec := "fnRequestPath", inPlace := ["internal/abi.NoEscape", "internal/bytealg.MakeNoZero"], named := ["net/url.table"], apart := false, laid := [("net/url.table", laid_net_url_table)] }
def FnRequestPathSaid : Prop := fnRequestPathRow.holds Tryd.pinned (OpenSpec.ofChange fnRequestPathSpec)

/-- ITS FALSE NEIGHBOUR: 'it returns false'. Refute it at one input. -/
def fnRequestPathWrong : ChangeSpec := { name := "fnRequestPath", fn := fun _ => fun
  | [d1, d2] => { results := [.lit (.bool false)], args := [d1, d2] }
  | _ => none }
def FnRequestPathWrongFalsely : Prop := fnRequestPathRow.holds Tryd.pinned (OpenSpec.ofChange fnRequestPathWrong)

/-- 'laws.FnRequestURI': WHATEVER THE INPUT: true; the input reads as it did. -/
def fnRequestURISpec : ChangeSpec := { name := "fnRequestURI", fn := fun _ => fun
  | [d] => { results := [.lit (.bool true)], args := [d] }
  | _ => none }
def fnRequestURIRow : OpenClaim := { program := "ytgaiphodohldlaadoor", sum := "3780b673a008b550f59cf66d0ed5e832e211b396da2392cee279059bd6f24d0f", func := "lib-ferrybell/laws.FnRequestURI", spec := "fnRequestURI", inPlace := ["internal/abi.NoEscape", "internal/bytealg.MakeNoZero"], named := ["net/url.table"], apart := false, laid := [("net/url.table", laid_net_url_table)] }
def FnRequestURISaid : Prop := fnRequestURIRow.holds Tryd.pinned (OpenSpec.ofChange fnRequestURISpec)

/-- ITS FALSE NEIGHBOUR: 'it returns false'. Refute it at one input. -/
def fnRequestURIWrong : ChangeSpec := { name := "fnRequestURI", fn := fun _ => fun
  | [d] => { results := [.lit (.bool false)], args := [d] }
  | _ => none }
def FnRequestURIWrongFalsely : Prop := fnRequestURIRow.holds Tryd.pinned (OpenSpec.ofChange fnRequestURIWrong)

/-- 'laws.FnRequestOthers': WHATEVER THE INPUT: true; the input reads as it did. -/
def fnRequestOthersSpec : ChangeSpec := { name := "fnRequestOthers", fn := fun _ => fun
  | [d] => { results := [.lit (.bool true)], args := [d] }
  | _ => none }
def fnRequestOthersRow : OpenClaim := { program := "ytgaiphodohldlaadoor", sum := "3780b673a008b550f59cf66d0ed5e832e211b396da2392cee279059bd6f24d0f", func := "lib-ferrybell/laws.FnRequestOthers", spec := "fnRequestOthers", inPlace := ["internal/abi.NoEscape", "internal/bytealg.MakeNoZero"], named := ["net/url.table"], apart := false, laid := [("net/url.table", laid_net_url_table)] }
def FnRequestOthersSaid : Prop := fnRequestOthersRow.holds Tryd.pinned (OpenSpec.ofChange fnRequestOthersSpec)

/-- ITS FALSE NEIGHBOUR: 'it returns false'. Refute it at one input. -/
def fnRequestOthersWrong : ChangeSpec := { name := "fnRequestOthers", fn := fun _ => fun
  | [d] => { results := [.lit (.bool false)], args := [d] }
  | _ => none }
def FnRequestOthersWrongFalsely : Prop := fnRequestOthersRow.holds Tryd.pinned (OpenSpec.ofChange fnRequestOthersWrong)

/- THE SECOND FORM. 'bulk': how many values and letters a reading holds, each counted each time it is reached (what is shared counts as often as it is met; a slice's spare places count too). A statement '..UptoSaid' is the law's where the arguments, and the package variables that the reading takes, are together of bulk at most 1048576: NARROWER than '..Said'. Prove '..Said' where nothing that the law and all that it calls make is longer than what came in: it says more and counts as full. Else prove '..UptoSaid'. A law counts once. -/
mutual
def uptoBulk {H : Type} : DataW H → Nat
  | .lit (.string bytes) => bytes.length + 1
  | .lit _ => 1
  | .nil => 1
  | .ptr d => uptoBulk d + 1
  | .slice elems spare => uptoBulkAll elems + uptoBulkAll spare + 1
  | .agg parts => uptoBulkAll parts + 1
  | .iface _ d => uptoBulk d + 1
  | .map entries => uptoBulkEntries entries + 1
  | .held _ => 1
def uptoBulkAll {H : Type} : List (DataW H) → Nat
  | [] => 0
  | d :: r => uptoBulk d + uptoBulkAll r
def uptoBulkEntries {H : Type} : List (Lit × DataW H) → Nat
  | [] => 0
  | x :: r => uptoBulkEntry x + uptoBulkEntries r
def uptoBulkEntry {H : Type} : Lit × DataW H → Nat
  | (.string bytes, d) => bytes.length + uptoBulk d + 1
  | (_, d) => uptoBulk d + 1
 end
def uptoSmall : (H : Type) → List (DataW H) → Bool := fun _ ds => decide (uptoBulkAll ds ≤ 1048576)
def OpenSpec.upto (s : _root_.Go.ChangeSpec) : _root_.Go.OpenSpec := { _root_.Go.OpenSpec.ofChange s with cond := some uptoSmall }

/-- 'laws.FnEscapedPath', WHERE WHAT IT READS IS OF BULK AT MOST 1048576: true; the input reads as it did. -/
def fnEscapedPathUptoRow : OpenClaim := { program := "ytgaiphodohldlaadoor", sum := "3780b673a008b550f59cf66d0ed5e832e211b396da2392cee279059bd6f24d0f", func := "lib-ferrybell/laws.FnEscapedPath", spec := "fnEscapedPath", inPlace := ["internal/abi.NoEscape", "internal/bytealg.MakeNoZero"], named := ["net/url.table"], apart := false, laid := [("net/url.table", laid_net_url_table)], narrowed := true }
def FnEscapedPathUptoSaid : Prop := fnEscapedPathUptoRow.holds Tryd.pinned (OpenSpec.upto fnEscapedPathSpec)

/-- 'laws.FnPathAgain', WHERE WHAT IT READS IS OF BULK AT MOST 1048576: true; the input reads as it did. -/
def fnPathAgainUptoRow : OpenClaim := { program := "ytgaiphodohldlaadoor", sum := "3780b673a008b550f59cf66d0ed5e832e211b396da2392cee279059bd6f24d0f", func := "lib-ferrybell/laws.FnPathAgain", spec := "fnPathAgain", inPlace := ["internal/abi.NoEscape", "internal/bytealg.MakeNoZero"], named := ["net/url.table"], apart := false, laid := [("net/url.table", laid_net_url_table)], narrowed := true }
def FnPathAgainUptoSaid : Prop := fnPathAgainUptoRow.holds Tryd.pinned (OpenSpec.upto fnPathAgainSpec)

/-- 'laws.FnPathBytes', WHERE WHAT IT READS IS OF BULK AT MOST 1048576: true; the input reads as it did. -/
def fnPathBytesUptoRow : OpenClaim := { program := "ytgaiphodohldlaadoor", sum := "3780b673a008b550f59cf66d0ed5e832e211b396da2392cee279059bd6f24d0f", func := "lib-ferrybell/laws.FnPathBytes", spec := "fnPathBytes", inPlace := ["internal/abi.NoEscape", "internal/bytealg.MakeNoZero"], named := ["net/url.table"], apart := false, laid := [("net/url.table", laid_net_url_table)], narrowed := true }
def FnPathBytesUptoSaid : Prop := fnPathBytesUptoRow.holds Tryd.pinned (OpenSpec.upto fnPathBytesSpec)

/-- 'laws.FnPathDecodes', WHERE WHAT IT READS IS OF BULK AT MOST 1048576: true; the input reads as it did. -/
def fnPathDecodesUptoRow : OpenClaim := { program := "ytgaiphodohldlaadoor", sum := "3780b673a008b550f59cf66d0ed5e832e211b396da2392cee279059bd6f24d0f", func := "lib-ferrybell/laws.FnPathDecodes", spec := "fnPathDecodes", inPlace := ["internal/abi.NoEscape", "internal/bytealg.MakeNoZero"], named := ["net/url.table"], apart := false, laid := [("net/url.table", laid_net_url_table)], narrowed := true }
def FnPathDecodesUptoSaid : Prop := fnPathDecodesUptoRow.holds Tryd.pinned (OpenSpec.upto fnPathDecodesSpec)

/-- 'laws.FnPathIgnored', WHERE WHAT IT READS IS OF BULK AT MOST 1048576: true; the input reads as it did. -/
def fnPathIgnoredUptoRow : OpenClaim := { program := "ytgaiphodohldlaadoor", sum := "3780b673a008b550f59cf66d0ed5e832e211b396da2392cee279059bd6f24d0f", func := "lib-ferrybell/laws.FnPathIgnored", spec := "fnPathIgnored", inPlace := ["internal/abi.NoEscape", "internal/bytealg.MakeNoZero"], named := ["net/url.table"], apart := false, laid := [("net/url.table", laid_net_url_table)], narrowed := true }
def FnPathIgnoredUptoSaid : Prop := fnPathIgnoredUptoRow.holds Tryd.pinned (OpenSpec.upto fnPathIgnoredSpec)

/-- 'laws.FnPathKept', WHERE WHAT IT READS IS OF BULK AT MOST 1048576: true; the input reads as it did. -/
def fnPathKeptUptoRow : OpenClaim := { program := "ytgaiphodohldlaadoor", sum := "3780b673a008b550f59cf66d0ed5e832e211b396da2392cee279059bd6f24d0f", func := "lib-ferrybell/laws.FnPathKept", spec := "fnPathKept", inPlace := ["internal/abi.NoEscape", "internal/bytealg.MakeNoZero"], named := ["net/url.table"], apart := false, laid := [("net/url.table", laid_net_url_table)], narrowed := true }
def FnPathKeptUptoSaid : Prop := fnPathKeptUptoRow.holds Tryd.pinned (OpenSpec.upto fnPathKeptSpec)

/-- 'laws.FnPathsApart', WHERE WHAT IT READS IS OF BULK AT MOST 1048576: true; the input reads as it did. -/
def fnPathsApartUptoRow : OpenClaim := { program := "ytgaiphodohldlaadoor", sum := "3780b673a008b550f59cf66d0ed5e832e211b396da2392cee279059bd6f24d0f", func := "lib-ferrybell/laws.FnPathsApart", spec := "fnPathsApart", inPlace := ["internal/abi.NoEscape", "internal/bytealg.MakeNoZero"], named := ["net/url.table"], apart := false, laid := [("net/url.table", laid_net_url_table)], narrowed := true }
def FnPathsApartUptoSaid : Prop := fnPathsApartUptoRow.holds Tryd.pinned (OpenSpec.upto fnPathsApartSpec)

/-- 'laws.FnPathsTogether', WHERE WHAT IT READS IS OF BULK AT MOST 1048576: true; the input reads as it did. -/
def fnPathsTogetherUptoRow : OpenClaim := { program := "ytgaiphodohldlaadoor", sum := "3780b673a008b550f59cf66d0ed5e832e211b396da2392cee279059bd6f24d0f", func := "lib-ferrybell/laws.FnPathsTogether", spec := "fnPathsTogether", inPlace := ["internal/abi.NoEscape", "internal/bytealg.MakeNoZero"], named := ["net/url.table"], apart := false, laid := [("net/url.table", laid_net_url_table)], narrowed := true }
def FnPathsTogetherUptoSaid : Prop := fnPathsTogetherUptoRow.holds Tryd.pinned (OpenSpec.upto fnPathsTogetherSpec)

/-- 'laws.FnRequestURIAll', WHERE WHAT IT READS IS OF BULK AT MOST 1048576: true; the input reads as it did. -/
def fnRequestURIAllUptoRow : OpenClaim := { program := "ytgaiphodohldlaadoor", sum := "3780b673a008b550f59cf66d0ed5e832e211b396da2392cee279059bd6f24d0f", func := "lib-ferrybell/laws.FnRequestURIAll", spec := "fnRequestURIAll", inPlace := ["internal/abi.NoEscape", "internal/bytealg.MakeNoZero"], named := ["net/url.table"], apart := false, laid := [("net/url.table", laid_net_url_table)], narrowed := true }
def FnRequestURIAllUptoSaid : Prop := fnRequestURIAllUptoRow.holds Tryd.pinned (OpenSpec.upto fnRequestURIAllSpec)

/-- 'laws.FnRequestPath', WHERE WHAT IT READS IS OF BULK AT MOST 1048576: true; the input reads as it did. -/
def fnRequestPathUptoRow : OpenClaim := { program := "ytgaiphodohldlaadoor", sum := "3780b673a008b550f59cf66d0ed5e832e211b396da2392cee279059bd6f24d0f", func := "lib-ferrybell/laws.FnRequestPath", spec := "fnRequestPath", inPlace := ["internal/abi.NoEscape", "internal/bytealg.MakeNoZero"], named := ["net/url.table"], apart := false, laid := [("net/url.table", laid_net_url_table)], narrowed := true }
def FnRequestPathUptoSaid : Prop := fnRequestPathUptoRow.holds Tryd.pinned (OpenSpec.upto fnRequestPathSpec)

/-- 'laws.FnRequestURI', WHERE WHAT IT READS IS OF BULK AT MOST 1048576: true; the input reads as it did. -/
def fnRequestURIUptoRow : OpenClaim := { program := "ytgaiphodohldlaadoor", sum := "3780b673a008b550f59cf66d0ed5e832e211b396da2392cee279059bd6f24d0f", func := "lib-ferrybell/laws.FnRequestURI", spec := "fnRequestURI", inPlace := ["internal/abi.NoEscape", "internal/bytealg.MakeNoZero"], named := ["net/url.table"], apart := false, laid := [("net/url.table", laid_net_url_table)], narrowed := true }
def FnRequestURIUptoSaid : Prop := fnRequestURIUptoRow.holds Tryd.pinned (OpenSpec.upto fnRequestURISpec)

/-- 'laws.FnRequestOthers', WHERE WHAT IT READS IS OF BULK AT MOST 1048576: true; the input reads as it did. -/
def fnRequestOthersUptoRow : OpenClaim := { program := "ytgaiphodohldlaadoor", sum := "3780b673a008b550f59cf66d0ed5e832e211b396da2392cee279059bd6f24d0f", func := "lib-ferrybell/laws.FnRequestOthers", spec := "fnRequestOthers", inPlace := ["internal/abi.NoEscape", "internal/bytealg.MakeNoZero"], named := ["net/url.table"], apart := false, laid := [("net/url.table", laid_net_url_table)], narrowed := true }
def FnRequestOthersUptoSaid : Prop := fnRequestOthersUptoRow.holds Tryd.pinned (OpenSpec.upto fnRequestOthersSpec)

end Rows
end Go.Proofs.YtgaiphodohldlaaDoor
