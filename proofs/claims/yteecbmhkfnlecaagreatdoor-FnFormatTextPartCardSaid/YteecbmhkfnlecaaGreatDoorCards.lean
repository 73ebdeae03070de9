/-
  DERIVED. GIVEN WITH THE SEED: THE CARDS: each row of YteecbmhkfnlecaaGreatDoorRows.lean that lists a variable, with what it lists TIED to the program's text (the seventh form; the later family's looks); each row that meets fmt, with fmt's text TOLD by the authors' own Lean function (tested against real Go, not proved from fmt's source: count such statements apart). THE CARD IS WHAT COUNTS. Prove the row's statement (the work); the ties are given (YteecbmhkfnlecaaGreatDoorTie.lean); close each card by the builder's one call (the guide's Derived/Test/ToyasCard.lean, 'card_holds'). Laid BY PROGRAM, IN A SANDBOX (cutbox-door.mjs). By AI agents, Wed Nov 11 2026. No macro, syntax, notation, axiom, sorry.
-/
import Derived.Test.YteecbmhkfnlecaaGreatDoorRows
import GoSem.ClaimSeven
namespace Go.Proofs.YteecbmhkfnlecaaGreatDoor
namespace Rows

/-- THE TIED CARD OF 'laws.FnFormatTextPart'. -/
def fnFormatTextPartCard : Claim7 := { stood := { row := fnFormatTextPartRow, standIns := [], harness := (true, "2aad20a7ce97f56b423ddad7d5316b606d73c19e22bf1790b67ed82552d5a314"), looks := false }, kinds := [], alts := [], laidByText := true, laidKinds := [.data, .pinned], laidTests := true, laidLooks := .later }
def FnFormatTextPartCardSaid : Prop := Claim7.holds Tryz.pinned (.plain (OpenSpec.ofChange fnFormatTextPartSpec)) fnFormatTextPartCard

/-- THE SECOND FORM's CARD OF 'laws.FnFormatTextPart'. -/
def fnFormatTextPartUptoCard : Claim7 := { stood := { row := fnFormatTextPartUptoRow, standIns := [], harness := (true, "2aad20a7ce97f56b423ddad7d5316b606d73c19e22bf1790b67ed82552d5a314"), looks := false }, kinds := [], alts := [], laidByText := true, laidKinds := [.data, .pinned], laidTests := true, laidLooks := .later }
def FnFormatTextPartUptoCardSaid : Prop := Claim7.holds Tryz.pinned (.plain (OpenSpec.upto fnFormatTextPartSpec)) fnFormatTextPartUptoCard
end Rows
end Go.Proofs.YteecbmhkfnlecaaGreatDoor
