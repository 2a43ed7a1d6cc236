/-
  DERIVED. GIVEN WITH THE SEED: THE CARDS: each row of YtgaiphodohldlaaDoorRows.lean that lists a variable, with what it lists TIED to the program's text (the seventh form; the later family's looks); each row that meets fmt, with fmt's text TOLD by the authors' own Lean function (tested against real Go, not proved from fmt's source: count such statements apart). THE CARD IS WHAT COUNTS. Prove the row's statement (the work); the ties are given (YtgaiphodohldlaaDoorTie.lean); close each card by the builder's one call (the guide's Derived/Test/ToyasCard.lean, 'card_holds'). Laid BY PROGRAM, IN A SANDBOX (cutbox-door.mjs). By AI agents, Wed Nov 11 2026. No macro, syntax, notation, axiom, sorry.
-/
import Derived.Test.YtgaiphodohldlaaDoorRows
import GoSem.ClaimSeven
namespace Go.Proofs.YtgaiphodohldlaaDoor
namespace Rows

/-- THE TIED CARD OF 'laws.FnEscapedPath'. -/
def fnEscapedPathCard : Claim7 := { stood := { row := fnEscapedPathRow, standIns := [], harness := (true, "31f51cd1447c9655f178600fbc0b38b1770e89dfc0d4981a20a4211659c53bba"), looks := false }, kinds := [], alts := [], laidByText := true, laidKinds := [.data], laidTests := true, laidLooks := .later }
def FnEscapedPathCardSaid : Prop := Claim7.holds Tryd.pinned (.plain (OpenSpec.ofChange fnEscapedPathSpec)) fnEscapedPathCard

/-- THE TIED CARD OF 'laws.FnPathAgain'. -/
def fnPathAgainCard : Claim7 := { stood := { row := fnPathAgainRow, standIns := [], harness := (true, "31f51cd1447c9655f178600fbc0b38b1770e89dfc0d4981a20a4211659c53bba"), looks := false }, kinds := [], alts := [], laidByText := true, laidKinds := [.data], laidTests := true, laidLooks := .later }
def FnPathAgainCardSaid : Prop := Claim7.holds Tryd.pinned (.plain (OpenSpec.ofChange fnPathAgainSpec)) fnPathAgainCard

/-- THE TIED CARD OF 'laws.FnPathBytes'. -/
def fnPathBytesCard : Claim7 := { stood := { row := fnPathBytesRow, standIns := [], harness := (true, "31f51cd1447c9655f178600fbc0b38b1770e89dfc0d4981a20a4211659c53bba"), looks := false }, kinds := [], alts := [], laidByText := true, laidKinds := [.data], laidTests := true, laidLooks := .later }
def FnPathBytesCardSaid : Prop := Claim7.holds Tryd.pinned (.plain (OpenSpec.ofChange fnPathBytesSpec)) fnPathBytesCard

/-- THE TIED CARD OF 'laws.FnPathDecodes'. -/
def fnPathDecodesCard : Claim7 := { stood := { row := fnPathDecodesRow, standIns := [], harness := (true, "31f51cd1447c9655f178600fbc0b38b1770e89dfc0d4981a20a4211659c53bba"), looks := false }, kinds := [], alts := [], laidByText := true, laidKinds := [.data], laidTests := true, laidLooks := .later }
def FnPathDecodesCardSaid : Prop := Claim7.holds Tryd.pinned (.plain (OpenSpec.ofChange fnPathDecodesSpec)) fnPathDecodesCard

/-- THE TIED CARD OF 'laws.FnPathIgnored'. -/
def fnPathIgnoredCard : Claim7 := { stood := { row := fnPathIgnoredRow, standIns := [], harness := (true, "31f51cd1447c9655f178600fbc0b38b1770e89dfc0d4981a20a4211659c53bba"), looks := false }, kinds := [], alts := [], laidByText := true, laidKinds := [.data], laidTests := true, laidLooks := .later }
def FnPathIgnoredCardSaid : Prop := Claim7.holds Tryd.pinned (.plain (OpenSpec.ofChange fnPathIgnoredSpec)) fnPathIgnoredCard

/-- THE TIED CARD OF 'laws.FnPathKept'. -/
def fnPathKeptCard : Claim7 := { stood := { row := fnPathKeptRow, standIns := [], harness := (true, "31f51cd1447c9655f178600fbc0b38b1770e89dfc0d4981a20a4211659c53bba"), looks := false }, kinds := [], alts := [], laidByText := true, laidKinds := [.data], laidTests := true, laidLooks := .later }
def FnPathKeptCardSaid : Prop := Claim7.holds Tryd.pinned (.plain (OpenSpec.ofChange fnPathKeptSpec)) fnPathKeptCard

/-- THE TIED CARD OF 'laws.FnPathsApart'. -/
def fnPathsApartCard : Claim7 := { stood := { row := fnPathsApartRow, standIns := [], harness := (true, "31f51cd1447c9655f178600fbc0b38b1770e89dfc0d4981a20a4211659c53bba"), looks := false }, kinds := [], alts := [], laidByText := true, laidKinds := [.data], laidTests := true, laidLooks := .later }
def FnPathsApartCardSaid : Prop := Claim7.holds Tryd.pinned (.plain (OpenSpec.ofChange fnPathsApartSpec)) fnPathsApartCard

/-- THE TIED CARD OF 'laws.FnPathsTogether'. -/
def fnPathsTogetherCard : Claim7 := { stood := { row := fnPathsTogetherRow, standIns := [], harness := (true, "31f51cd1447c9655f178600fbc0b38b1770e89dfc0d4981a20a4211659c53bba"), looks := false }, kinds := [], alts := [], laidByText := true, laidKinds := [.data], laidTests := true, laidLooks := .later }
def FnPathsTogetherCardSaid : Prop := Claim7.holds Tryd.pinned (.plain (OpenSpec.ofChange fnPathsTogetherSpec)) fnPathsTogetherCard

/-- THE TIED CARD OF 'laws.FnRequestURIAll'. -/
def fnRequestURIAllCard : Claim7 := { stood := { row := fnRequestURIAllRow, standIns := [], harness := (true, "31f51cd1447c9655f178600fbc0b38b1770e89dfc0d4981a20a4211659c53bba"), looks := false }, kinds := [], alts := [], laidByText := true, laidKinds := [.data], laidTests := true, laidLooks := .later }
def FnRequestURIAllCardSaid : Prop := Claim7.holds Tryd.pinned (.plain (OpenSpec.ofChange fnRequestURIAllSpec)) fnRequestURIAllCard

/-- THE TIED CARD OF 'laws.FnRequestPath'. -/
def fnRequestPathCard : Claim7 := { stood := { row := fnRequestPathRow, standIns := [], harness := (true, "31f51cd1447c9655f178600fbc0b38b1770e89dfc0d4981a20a4211659c53bba"), looks := false }, kinds := [], alts := [], laidByText := true, laidKinds := [.data], laidTests := true, laidLooks := .later }
def FnRequestPathCardSaid : Prop := Claim7.holds Tryd.pinned (.plain (OpenSpec.ofChange fnRequestPathSpec)) fnRequestPathCard

/-- THE TIED CARD OF 'laws.FnRequestURI'. -/
def fnRequestURICard : Claim7 := { stood := { row := fnRequestURIRow, standIns := [], harness := (true, "31f51cd1447c9655f178600fbc0b38b1770e89dfc0d4981a20a4211659c53bba"), looks := false }, kinds := [], alts := [], laidByText := true, laidKinds := [.data], laidTests := true, laidLooks := .later }
def FnRequestURICardSaid : Prop := Claim7.holds Tryd.pinned (.plain (OpenSpec.ofChange fnRequestURISpec)) fnRequestURICard

/-- THE TIED CARD OF 'laws.FnRequestOthers'. -/
def fnRequestOthersCard : Claim7 := { stood := { row := fnRequestOthersRow, standIns := [], harness := (true, "31f51cd1447c9655f178600fbc0b38b1770e89dfc0d4981a20a4211659c53bba"), looks := false }, kinds := [], alts := [], laidByText := true, laidKinds := [.data], laidTests := true, laidLooks := .later }
def FnRequestOthersCardSaid : Prop := Claim7.holds Tryd.pinned (.plain (OpenSpec.ofChange fnRequestOthersSpec)) fnRequestOthersCard

/-- THE SECOND FORM's CARD OF 'laws.FnEscapedPath'. -/
def fnEscapedPathUptoCard : Claim7 := { stood := { row := fnEscapedPathUptoRow, standIns := [], harness := (true, "31f51cd1447c9655f178600fbc0b38b1770e89dfc0d4981a20a4211659c53bba"), looks := false }, kinds := [], alts := [], laidByText := true, laidKinds := [.data], laidTests := true, laidLooks := .later }
def FnEscapedPathUptoCardSaid : Prop := Claim7.holds Tryd.pinned (.plain (OpenSpec.upto fnEscapedPathSpec)) fnEscapedPathUptoCard

/-- THE SECOND FORM's CARD OF 'laws.FnPathAgain'. -/
def fnPathAgainUptoCard : Claim7 := { stood := { row := fnPathAgainUptoRow, standIns := [], harness := (true, "31f51cd1447c9655f178600fbc0b38b1770e89dfc0d4981a20a4211659c53bba"), looks := false }, kinds := [], alts := [], laidByText := true, laidKinds := [.data], laidTests := true, laidLooks := .later }
def FnPathAgainUptoCardSaid : Prop := Claim7.holds Tryd.pinned (.plain (OpenSpec.upto fnPathAgainSpec)) fnPathAgainUptoCard

/-- THE SECOND FORM's CARD OF 'laws.FnPathBytes'. -/
def fnPathBytesUptoCard : Claim7 := { stood := { row := fnPathBytesUptoRow, standIns := [], harness := (true, "31f51cd1447c9655f178600fbc0b38b1770e89dfc0d4981a20a4211659c53bba"), looks := false }, kinds := [], alts := [], laidByText := true, laidKinds := [.data], laidTests := true, laidLooks := .later }
def FnPathBytesUptoCardSaid : Prop := Claim7.holds Tryd.pinned (.plain (OpenSpec.upto fnPathBytesSpec)) fnPathBytesUptoCard

/-- THE SECOND FORM's CARD OF 'laws.FnPathDecodes'. -/
def fnPathDecodesUptoCard : Claim7 := { stood := { row := fnPathDecodesUptoRow, standIns := [], harness := (true, "31f51cd1447c9655f178600fbc0b38b1770e89dfc0d4981a20a4211659c53bba"), looks := false }, kinds := [], alts := [], laidByText := true, laidKinds := [.data], laidTests := true, laidLooks := .later }
def FnPathDecodesUptoCardSaid : Prop := Claim7.holds Tryd.pinned (.plain (OpenSpec.upto fnPathDecodesSpec)) fnPathDecodesUptoCard

/-- THE SECOND FORM's CARD OF 'laws.FnPathIgnored'. -/
def fnPathIgnoredUptoCard : Claim7 := { stood := { row := fnPathIgnoredUptoRow, standIns := [], harness := (true, "31f51cd1447c9655f178600fbc0b38b1770e89dfc0d4981a20a4211659c53bba"), looks := false }, kinds := [], alts := [], laidByText := true, laidKinds := [.data], laidTests := true, laidLooks := .later }
def FnPathIgnoredUptoCardSaid : Prop := Claim7.holds Tryd.pinned (.plain (OpenSpec.upto fnPathIgnoredSpec)) fnPathIgnoredUptoCard

/-- THE SECOND FORM's CARD OF 'laws.FnPathKept'. -/
def fnPathKeptUptoCard : Claim7 := { stood := { row := fnPathKeptUptoRow, standIns := [], harness := (true, "31f51cd1447c9655f178600fbc0b38b1770e89dfc0d4981a20a4211659c53bba"), looks := false }, kinds := [], alts := [], laidByText := true, laidKinds := [.data], laidTests := true, laidLooks := .later }
def FnPathKeptUptoCardSaid : Prop := Claim7.holds Tryd.pinned (.plain (OpenSpec.upto fnPathKeptSpec)) fnPathKeptUptoCard

/-- THE SECOND FORM's CARD OF 'laws.FnPathsApart'. -/
def fnPathsApartUptoCard : Claim7 := { stood := { row := fnPathsApartUptoRow, standIns := [], harness := (true, "31f51cd1447c9655f178600fbc0b38b1770e89dfc0d4981a20a4211659c53bba"), looks := false }, kinds := [], alts := [], laidByText := true, laidKinds := [.data], laidTests := true, laidLooks := .later }
def FnPathsApartUptoCardSaid : Prop := Claim7.holds Tryd.pinned (.plain (OpenSpec.upto fnPathsApartSpec)) fnPathsApartUptoCard

/-- THE SECOND FORM's CARD OF 'laws.FnPathsTogether'. -/
def fnPathsTogetherUptoCard : Claim7 := { stood := { row := fnPathsTogetherUptoRow, standIns := [], harness := (true, "31f51cd1447c9655f178600fbc0b38b1770e89dfc0d4981a20a4211659c53bba"), looks := false }, kinds := [], alts := [], laidByText := true, laidKinds := [.data], laidTests := true, laidLooks := .later }
def FnPathsTogetherUptoCardSaid : Prop := Claim7.holds Tryd.pinned (.plain (OpenSpec.upto fnPathsTogetherSpec)) fnPathsTogetherUptoCard

/-- THE SECOND FORM's CARD OF 'laws.FnRequestURIAll'. -/
def fnRequestURIAllUptoCard : Claim7 := { stood := { row := fnRequestURIAllUptoRow, standIns := [], harness := (true, "31f51cd1447c9655f178600fbc0b38b1770e89dfc0d4981a20a4211659c53bba"), looks := false }, kinds := [], alts := [], laidByText := true, laidKinds := [.data], laidTests := true, laidLooks := .later }
def FnRequestURIAllUptoCardSaid : Prop := Claim7.holds Tryd.pinned (.plain (OpenSpec.upto fnRequestURIAllSpec)) fnRequestURIAllUptoCard

/-- THE SECOND FORM's CARD OF 'laws.FnRequestPath'. -/
def fnRequestPathUptoCard : Claim7 := { stood := { row := fnRequestPathUptoRow, standIns := [], harness := (true, "31f51cd1447c9655f178600fbc0b38b1770e89dfc0d4981a20a4211659c53bba"), looks := false }, kinds := [], alts := [], laidByText := true, laidKinds := [.data], laidTests := true, laidLooks := .later }
def FnRequestPathUptoCardSaid : Prop := Claim7.holds Tryd.pinned (.plain (OpenSpec.upto fnRequestPathSpec)) fnRequestPathUptoCard

/-- THE SECOND FORM's CARD OF 'laws.FnRequestURI'. -/
def fnRequestURIUptoCard : Claim7 := { stood := { row := fnRequestURIUptoRow, standIns := [], harness := (true, "31f51cd1447c9655f178600fbc0b38b1770e89dfc0d4981a20a4211659c53bba"), looks := false }, kinds := [], alts := [], laidByText := true, laidKinds := [.data], laidTests := true, laidLooks := .later }
def FnRequestURIUptoCardSaid : Prop := Claim7.holds Tryd.pinned (.plain (OpenSpec.upto fnRequestURISpec)) fnRequestURIUptoCard

/-- THE SECOND FORM's CARD OF 'laws.FnRequestOthers'. -/
def fnRequestOthersUptoCard : Claim7 := { stood := { row := fnRequestOthersUptoRow, standIns := [], harness := (true, "31f51cd1447c9655f178600fbc0b38b1770e89dfc0d4981a20a4211659c53bba"), looks := false }, kinds := [], alts := [], laidByText := true, laidKinds := [.data], laidTests := true, laidLooks := .later }
def FnRequestOthersUptoCardSaid : Prop := Claim7.holds Tryd.pinned (.plain (OpenSpec.upto fnRequestOthersSpec)) fnRequestOthersUptoCard
end Rows
end Go.Proofs.YtgaiphodohldlaaDoor
