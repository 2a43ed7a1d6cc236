/-
  DERIVED. GIVEN WITH THE SEED: THE CARDS: each row of YtkakkcmpincggaaDoorRows.lean that lists a variable, with what it lists TIED to the program's text (the seventh form; the later family's looks); each row that meets fmt, with fmt's text TOLD by the authors' own Lean function (tested against real Go, not proved from fmt's source: count such statements apart). THE CARD IS WHAT COUNTS. Prove the row's statement (the work); the ties are given (YtkakkcmpincggaaDoorTie.lean); close each card by the builder's one call (the guide's Derived/Test/ToyasCard.lean, 'card_holds'). Laid BY PROGRAM, IN A SANDBOX (cutbox-door.mjs). By AI agents, Wed Nov 11 2026. No macro, syntax, notation, axiom, sorry.
-/
import Derived.Test.YtkakkcmpincggaaDoorRows
import GoSem.ClaimSeven
namespace Go.Proofs.YtkakkcmpincggaaDoor
namespace Rows

/-- THE TIED CARD OF 'laws.FnEscapedFragment'. -/
def fnEscapedFragmentCard : Claim7 := { stood := { row := fnEscapedFragmentRow, standIns := [], harness := (true, "3f2fdc1ceb6bc2a7d07a323a2b3c568d4c2df0766d135e4cf9c0b810c463c5dd"), looks := false }, kinds := [], alts := [], laidByText := true, laidKinds := [.data], laidTests := true, laidLooks := .later }
def FnEscapedFragmentCardSaid : Prop := Claim7.holds Tryd.pinned (.plain (OpenSpec.ofChange fnEscapedFragmentSpec)) fnEscapedFragmentCard

/-- THE TIED CARD OF 'laws.FnFragmentBytes'. -/
def fnFragmentBytesCard : Claim7 := { stood := { row := fnFragmentBytesRow, standIns := [], harness := (true, "3f2fdc1ceb6bc2a7d07a323a2b3c568d4c2df0766d135e4cf9c0b810c463c5dd"), looks := false }, kinds := [], alts := [], laidByText := true, laidKinds := [.data], laidTests := true, laidLooks := .later }
def FnFragmentBytesCardSaid : Prop := Claim7.holds Tryd.pinned (.plain (OpenSpec.ofChange fnFragmentBytesSpec)) fnFragmentBytesCard

/-- THE TIED CARD OF 'laws.FnFragmentDecodes'. -/
def fnFragmentDecodesCard : Claim7 := { stood := { row := fnFragmentDecodesRow, standIns := [], harness := (true, "3f2fdc1ceb6bc2a7d07a323a2b3c568d4c2df0766d135e4cf9c0b810c463c5dd"), looks := false }, kinds := [], alts := [], laidByText := true, laidKinds := [.data], laidTests := true, laidLooks := .later }
def FnFragmentDecodesCardSaid : Prop := Claim7.holds Tryd.pinned (.plain (OpenSpec.ofChange fnFragmentDecodesSpec)) fnFragmentDecodesCard

/-- THE TIED CARD OF 'laws.FnFragmentIgnored'. -/
def fnFragmentIgnoredCard : Claim7 := { stood := { row := fnFragmentIgnoredRow, standIns := [], harness := (true, "3f2fdc1ceb6bc2a7d07a323a2b3c568d4c2df0766d135e4cf9c0b810c463c5dd"), looks := false }, kinds := [], alts := [], laidByText := true, laidKinds := [.data], laidTests := true, laidLooks := .later }
def FnFragmentIgnoredCardSaid : Prop := Claim7.holds Tryd.pinned (.plain (OpenSpec.ofChange fnFragmentIgnoredSpec)) fnFragmentIgnoredCard

/-- THE TIED CARD OF 'laws.FnFragmentKept'. -/
def fnFragmentKeptCard : Claim7 := { stood := { row := fnFragmentKeptRow, standIns := [], harness := (true, "3f2fdc1ceb6bc2a7d07a323a2b3c568d4c2df0766d135e4cf9c0b810c463c5dd"), looks := false }, kinds := [], alts := [], laidByText := true, laidKinds := [.data], laidTests := true, laidLooks := .later }
def FnFragmentKeptCardSaid : Prop := Claim7.holds Tryd.pinned (.plain (OpenSpec.ofChange fnFragmentKeptSpec)) fnFragmentKeptCard

/-- THE TIED CARD OF 'laws.FnUserBytes'. -/
def fnUserBytesCard : Claim7 := { stood := { row := fnUserBytesRow, standIns := [], harness := (true, "3f2fdc1ceb6bc2a7d07a323a2b3c568d4c2df0766d135e4cf9c0b810c463c5dd"), looks := false }, kinds := [], alts := [], laidByText := true, laidKinds := [.data], laidTests := true, laidLooks := .later }
def FnUserBytesCardSaid : Prop := Claim7.holds Tryd.pinned (.plain (OpenSpec.ofChange fnUserBytesSpec)) fnUserBytesCard

/-- THE TIED CARD OF 'laws.FnUserDecodes'. -/
def fnUserDecodesCard : Claim7 := { stood := { row := fnUserDecodesRow, standIns := [], harness := (true, "3f2fdc1ceb6bc2a7d07a323a2b3c568d4c2df0766d135e4cf9c0b810c463c5dd"), looks := false }, kinds := [], alts := [], laidByText := true, laidKinds := [.data], laidTests := true, laidLooks := .later }
def FnUserDecodesCardSaid : Prop := Claim7.holds Tryd.pinned (.plain (OpenSpec.ofChange fnUserDecodesSpec)) fnUserDecodesCard

/-- THE TIED CARD OF 'laws.FnUserString'. -/
def fnUserStringCard : Claim7 := { stood := { row := fnUserStringRow, standIns := [], harness := (true, "3f2fdc1ceb6bc2a7d07a323a2b3c568d4c2df0766d135e4cf9c0b810c463c5dd"), looks := false }, kinds := [], alts := [], laidByText := true, laidKinds := [.data], laidTests := true, laidLooks := .later }
def FnUserStringCardSaid : Prop := Claim7.holds Tryd.pinned (.plain (OpenSpec.ofChange fnUserStringSpec)) fnUserStringCard

/-- THE TIED CARD OF 'laws.FnUsersApart'. -/
def fnUsersApartCard : Claim7 := { stood := { row := fnUsersApartRow, standIns := [], harness := (true, "3f2fdc1ceb6bc2a7d07a323a2b3c568d4c2df0766d135e4cf9c0b810c463c5dd"), looks := false }, kinds := [], alts := [], laidByText := true, laidKinds := [.data], laidTests := true, laidLooks := .later }
def FnUsersApartCardSaid : Prop := Claim7.holds Tryd.pinned (.plain (OpenSpec.ofChange fnUsersApartSpec)) fnUsersApartCard

/-- THE TIED CARD OF 'laws.FnRequestQuery'. -/
def fnRequestQueryCard : Claim7 := { stood := { row := fnRequestQueryRow, standIns := [], harness := (true, "3f2fdc1ceb6bc2a7d07a323a2b3c568d4c2df0766d135e4cf9c0b810c463c5dd"), looks := false }, kinds := [], alts := [], laidByText := true, laidKinds := [.data], laidTests := true, laidLooks := .later }
def FnRequestQueryCardSaid : Prop := Claim7.holds Tryd.pinned (.plain (OpenSpec.ofChange fnRequestQuerySpec)) fnRequestQueryCard

/-- THE SECOND FORM's CARD OF 'laws.FnEscapedFragment'. -/
def fnEscapedFragmentUptoCard : Claim7 := { stood := { row := fnEscapedFragmentUptoRow, standIns := [], harness := (true, "3f2fdc1ceb6bc2a7d07a323a2b3c568d4c2df0766d135e4cf9c0b810c463c5dd"), looks := false }, kinds := [], alts := [], laidByText := true, laidKinds := [.data], laidTests := true, laidLooks := .later }
def FnEscapedFragmentUptoCardSaid : Prop := Claim7.holds Tryd.pinned (.plain (OpenSpec.upto fnEscapedFragmentSpec)) fnEscapedFragmentUptoCard

/-- THE SECOND FORM's CARD OF 'laws.FnFragmentBytes'. -/
def fnFragmentBytesUptoCard : Claim7 := { stood := { row := fnFragmentBytesUptoRow, standIns := [], harness := (true, "3f2fdc1ceb6bc2a7d07a323a2b3c568d4c2df0766d135e4cf9c0b810c463c5dd"), looks := false }, kinds := [], alts := [], laidByText := true, laidKinds := [.data], laidTests := true, laidLooks := .later }
def FnFragmentBytesUptoCardSaid : Prop := Claim7.holds Tryd.pinned (.plain (OpenSpec.upto fnFragmentBytesSpec)) fnFragmentBytesUptoCard

/-- THE SECOND FORM's CARD OF 'laws.FnFragmentDecodes'. -/
def fnFragmentDecodesUptoCard : Claim7 := { stood := { row := fnFragmentDecodesUptoRow, standIns := [], harness := (true, "3f2fdc1ceb6bc2a7d07a323a2b3c568d4c2df0766d135e4cf9c0b810c463c5dd"), looks := false }, kinds := [], alts := [], laidByText := true, laidKinds := [.data], laidTests := true, laidLooks := .later }
def FnFragmentDecodesUptoCardSaid : Prop := Claim7.holds Tryd.pinned (.plain (OpenSpec.upto fnFragmentDecodesSpec)) fnFragmentDecodesUptoCard

/-- THE SECOND FORM's CARD OF 'laws.FnFragmentIgnored'. -/
def fnFragmentIgnoredUptoCard : Claim7 := { stood := { row := fnFragmentIgnoredUptoRow, standIns := [], harness := (true, "3f2fdc1ceb6bc2a7d07a323a2b3c568d4c2df0766d135e4cf9c0b810c463c5dd"), looks := false }, kinds := [], alts := [], laidByText := true, laidKinds := [.data], laidTests := true, laidLooks := .later }
def FnFragmentIgnoredUptoCardSaid : Prop := Claim7.holds Tryd.pinned (.plain (OpenSpec.upto fnFragmentIgnoredSpec)) fnFragmentIgnoredUptoCard

/-- THE SECOND FORM's CARD OF 'laws.FnFragmentKept'. -/
def fnFragmentKeptUptoCard : Claim7 := { stood := { row := fnFragmentKeptUptoRow, standIns := [], harness := (true, "3f2fdc1ceb6bc2a7d07a323a2b3c568d4c2df0766d135e4cf9c0b810c463c5dd"), looks := false }, kinds := [], alts := [], laidByText := true, laidKinds := [.data], laidTests := true, laidLooks := .later }
def FnFragmentKeptUptoCardSaid : Prop := Claim7.holds Tryd.pinned (.plain (OpenSpec.upto fnFragmentKeptSpec)) fnFragmentKeptUptoCard

/-- THE SECOND FORM's CARD OF 'laws.FnUserBytes'. -/
def fnUserBytesUptoCard : Claim7 := { stood := { row := fnUserBytesUptoRow, standIns := [], harness := (true, "3f2fdc1ceb6bc2a7d07a323a2b3c568d4c2df0766d135e4cf9c0b810c463c5dd"), looks := false }, kinds := [], alts := [], laidByText := true, laidKinds := [.data], laidTests := true, laidLooks := .later }
def FnUserBytesUptoCardSaid : Prop := Claim7.holds Tryd.pinned (.plain (OpenSpec.upto fnUserBytesSpec)) fnUserBytesUptoCard

/-- THE SECOND FORM's CARD OF 'laws.FnUserDecodes'. -/
def fnUserDecodesUptoCard : Claim7 := { stood := { row := fnUserDecodesUptoRow, standIns := [], harness := (true, "3f2fdc1ceb6bc2a7d07a323a2b3c568d4c2df0766d135e4cf9c0b810c463c5dd"), looks := false }, kinds := [], alts := [], laidByText := true, laidKinds := [.data], laidTests := true, laidLooks := .later }
def FnUserDecodesUptoCardSaid : Prop := Claim7.holds Tryd.pinned (.plain (OpenSpec.upto fnUserDecodesSpec)) fnUserDecodesUptoCard

/-- THE SECOND FORM's CARD OF 'laws.FnUserString'. -/
def fnUserStringUptoCard : Claim7 := { stood := { row := fnUserStringUptoRow, standIns := [], harness := (true, "3f2fdc1ceb6bc2a7d07a323a2b3c568d4c2df0766d135e4cf9c0b810c463c5dd"), looks := false }, kinds := [], alts := [], laidByText := true, laidKinds := [.data], laidTests := true, laidLooks := .later }
def FnUserStringUptoCardSaid : Prop := Claim7.holds Tryd.pinned (.plain (OpenSpec.upto fnUserStringSpec)) fnUserStringUptoCard

/-- THE SECOND FORM's CARD OF 'laws.FnUsersApart'. -/
def fnUsersApartUptoCard : Claim7 := { stood := { row := fnUsersApartUptoRow, standIns := [], harness := (true, "3f2fdc1ceb6bc2a7d07a323a2b3c568d4c2df0766d135e4cf9c0b810c463c5dd"), looks := false }, kinds := [], alts := [], laidByText := true, laidKinds := [.data], laidTests := true, laidLooks := .later }
def FnUsersApartUptoCardSaid : Prop := Claim7.holds Tryd.pinned (.plain (OpenSpec.upto fnUsersApartSpec)) fnUsersApartUptoCard

/-- THE SECOND FORM's CARD OF 'laws.FnRequestQuery'. -/
def fnRequestQueryUptoCard : Claim7 := { stood := { row := fnRequestQueryUptoRow, standIns := [], harness := (true, "3f2fdc1ceb6bc2a7d07a323a2b3c568d4c2df0766d135e4cf9c0b810c463c5dd"), looks := false }, kinds := [], alts := [], laidByText := true, laidKinds := [.data], laidTests := true, laidLooks := .later }
def FnRequestQueryUptoCardSaid : Prop := Claim7.holds Tryd.pinned (.plain (OpenSpec.upto fnRequestQuerySpec)) fnRequestQueryUptoCard
end Rows
end Go.Proofs.YtkakkcmpincggaaDoor
