/-
  DERIVED. GIVEN WITH THE SEED: THE CARDS: each row of YtongafghllkomaaGreatDoorRows.lean that lists a variable, with what it lists TIED to the program's text (the seventh form; the later family's looks); each row that meets fmt, with fmt's text TOLD by the authors' own Lean function (tested against real Go, not proved from fmt's source: count such statements apart). THE CARD IS WHAT COUNTS. Prove the row's statement (the work); the ties are given (YtongafghllkomaaGreatDoorTie.lean); close each card by the builder's one call (the guide's Derived/Test/ToyasCard.lean, 'card_holds'). Laid BY PROGRAM, IN A SANDBOX (cutbox-door.mjs). By AI agents, Wed Nov 11 2026. No macro, syntax, notation, axiom, sorry.
-/
import Derived.Test.YtongafghllkomaaGreatDoorRows
import GoSem.ClaimSeven
namespace Go.Proofs.YtongafghllkomaaGreatDoor
namespace Rows

/-- THE TIED CARD OF 'laws.FnTypeName'. -/
def fnTypeNameCard : Claim7 := { stood := { row := fnTypeNameRow, standIns := [], harness := (true, "ed5b253dde67f79bb61439fd647a184e7e149ce8a4f85508f4a6451cbd00c44a"), looks := true }, kinds := [], alts := [], laidByText := true, laidKinds := [.data, .pinned], laidTests := true, laidLooks := .later }
def FnTypeNameCardSaid : Prop := Claim7.holds Tryz.pinned (.plain (OpenSpec.ofChange fnTypeNameSpec)) fnTypeNameCard

/-- THE TIED CARD OF 'laws.FnLiteral'. -/
def fnLiteralCard : Claim7 := { stood := { row := fnLiteralRow, standIns := [], harness := (true, "ed5b253dde67f79bb61439fd647a184e7e149ce8a4f85508f4a6451cbd00c44a"), looks := true }, kinds := [], alts := [], laidByText := true, laidKinds := [.data, .pinned], laidTests := true, laidLooks := .later }
def FnLiteralCardSaid : Prop := Claim7.holds Tryz.pinned (.plain (OpenSpec.ofChange fnLiteralSpec)) fnLiteralCard

/-- THE TIED CARD OF 'laws.FnDeleteOption'. -/
def fnDeleteOptionCard : Claim7 := { stood := { row := fnDeleteOptionRow, standIns := [], harness := (true, "ed5b253dde67f79bb61439fd647a184e7e149ce8a4f85508f4a6451cbd00c44a"), looks := true }, kinds := [], alts := [], laidByText := true, laidKinds := [.data, .pinned], laidTests := true, laidLooks := .later }
def FnDeleteOptionCardSaid : Prop := Claim7.holds Tryz.pinned (.plain (OpenSpec.ofChange fnDeleteOptionSpec)) fnDeleteOptionCard

/-- THE TIED CARD OF 'laws.FnGetOption'. -/
def fnGetOptionCard : Claim7 := { stood := { row := fnGetOptionRow, standIns := [], harness := (true, "ed5b253dde67f79bb61439fd647a184e7e149ce8a4f85508f4a6451cbd00c44a"), looks := true }, kinds := [], alts := [], laidByText := true, laidKinds := [.data, .pinned], laidTests := true, laidLooks := .later }
def FnGetOptionCardSaid : Prop := Claim7.holds Tryz.pinned (.plain (OpenSpec.ofChange fnGetOptionSpec)) fnGetOptionCard

/-- THE TIED CARD OF 'laws.FnDeleteProperty'. -/
def fnDeletePropertyCard : Claim7 := { stood := { row := fnDeletePropertyRow, standIns := [], harness := (true, "ed5b253dde67f79bb61439fd647a184e7e149ce8a4f85508f4a6451cbd00c44a"), looks := true }, kinds := [], alts := [], laidByText := true, laidKinds := [.data, .pinned], laidTests := true, laidLooks := .later }
def FnDeletePropertyCardSaid : Prop := Claim7.holds Tryz.pinned (.plain (OpenSpec.ofChange fnDeletePropertySpec)) fnDeletePropertyCard

/-- THE TIED CARD OF 'laws.FnGetProperty'. -/
def fnGetPropertyCard : Claim7 := { stood := { row := fnGetPropertyRow, standIns := [], harness := (true, "ed5b253dde67f79bb61439fd647a184e7e149ce8a4f85508f4a6451cbd00c44a"), looks := true }, kinds := [], alts := [], laidByText := true, laidKinds := [.data, .pinned], laidTests := true, laidLooks := .later }
def FnGetPropertyCardSaid : Prop := Claim7.holds Tryz.pinned (.plain (OpenSpec.ofChange fnGetPropertySpec)) fnGetPropertyCard

/-- THE SECOND FORM's CARD OF 'laws.FnTypeName'. -/
def fnTypeNameUptoCard : Claim7 := { stood := { row := fnTypeNameUptoRow, standIns := [], harness := (true, "ed5b253dde67f79bb61439fd647a184e7e149ce8a4f85508f4a6451cbd00c44a"), looks := true }, kinds := [], alts := [], laidByText := true, laidKinds := [.data, .pinned], laidTests := true, laidLooks := .later }
def FnTypeNameUptoCardSaid : Prop := Claim7.holds Tryz.pinned (.plain (OpenSpec.upto fnTypeNameSpec)) fnTypeNameUptoCard

/-- THE SECOND FORM's CARD OF 'laws.FnLiteral'. -/
def fnLiteralUptoCard : Claim7 := { stood := { row := fnLiteralUptoRow, standIns := [], harness := (true, "ed5b253dde67f79bb61439fd647a184e7e149ce8a4f85508f4a6451cbd00c44a"), looks := true }, kinds := [], alts := [], laidByText := true, laidKinds := [.data, .pinned], laidTests := true, laidLooks := .later }
def FnLiteralUptoCardSaid : Prop := Claim7.holds Tryz.pinned (.plain (OpenSpec.upto fnLiteralSpec)) fnLiteralUptoCard

/-- THE SECOND FORM's CARD OF 'laws.FnDeleteOption'. -/
def fnDeleteOptionUptoCard : Claim7 := { stood := { row := fnDeleteOptionUptoRow, standIns := [], harness := (true, "ed5b253dde67f79bb61439fd647a184e7e149ce8a4f85508f4a6451cbd00c44a"), looks := true }, kinds := [], alts := [], laidByText := true, laidKinds := [.data, .pinned], laidTests := true, laidLooks := .later }
def FnDeleteOptionUptoCardSaid : Prop := Claim7.holds Tryz.pinned (.plain (OpenSpec.upto fnDeleteOptionSpec)) fnDeleteOptionUptoCard

/-- THE SECOND FORM's CARD OF 'laws.FnGetOption'. -/
def fnGetOptionUptoCard : Claim7 := { stood := { row := fnGetOptionUptoRow, standIns := [], harness := (true, "ed5b253dde67f79bb61439fd647a184e7e149ce8a4f85508f4a6451cbd00c44a"), looks := true }, kinds := [], alts := [], laidByText := true, laidKinds := [.data, .pinned], laidTests := true, laidLooks := .later }
def FnGetOptionUptoCardSaid : Prop := Claim7.holds Tryz.pinned (.plain (OpenSpec.upto fnGetOptionSpec)) fnGetOptionUptoCard

/-- THE SECOND FORM's CARD OF 'laws.FnDeleteProperty'. -/
def fnDeletePropertyUptoCard : Claim7 := { stood := { row := fnDeletePropertyUptoRow, standIns := [], harness := (true, "ed5b253dde67f79bb61439fd647a184e7e149ce8a4f85508f4a6451cbd00c44a"), looks := true }, kinds := [], alts := [], laidByText := true, laidKinds := [.data, .pinned], laidTests := true, laidLooks := .later }
def FnDeletePropertyUptoCardSaid : Prop := Claim7.holds Tryz.pinned (.plain (OpenSpec.upto fnDeletePropertySpec)) fnDeletePropertyUptoCard

/-- THE SECOND FORM's CARD OF 'laws.FnGetProperty'. -/
def fnGetPropertyUptoCard : Claim7 := { stood := { row := fnGetPropertyUptoRow, standIns := [], harness := (true, "ed5b253dde67f79bb61439fd647a184e7e149ce8a4f85508f4a6451cbd00c44a"), looks := true }, kinds := [], alts := [], laidByText := true, laidKinds := [.data, .pinned], laidTests := true, laidLooks := .later }
def FnGetPropertyUptoCardSaid : Prop := Claim7.holds Tryz.pinned (.plain (OpenSpec.upto fnGetPropertySpec)) fnGetPropertyUptoCard
end Rows
end Go.Proofs.YtongafghllkomaaGreatDoor
