/-
  DERIVED. GIVEN WITH THE SEED: THE CARDS: each row of YtcbcdgifakcooaaGreatDoorRows.lean that lists a variable, with what it lists TIED to the program's text (the seventh form; the later family's looks); each row that meets fmt, with fmt's text TOLD by the authors' own Lean function (tested against real Go, not proved from fmt's source: count such statements apart). THE CARD IS WHAT COUNTS. Prove the row's statement (the work); the ties are given (YtcbcdgifakcooaaGreatDoorTie.lean); close each card by the builder's one call (the guide's Derived/Test/ToyasCard.lean, 'card_holds'). Laid BY PROGRAM, IN A SANDBOX (cutbox-door.mjs). By AI agents, Wed Nov 11 2026. No macro, syntax, notation, axiom, sorry.
-/
import Derived.Test.YtcbcdgifakcooaaGreatDoorRows
import GoSem.ClaimSeven
namespace Go.Proofs.YtcbcdgifakcooaaGreatDoor
namespace Rows

/-- THE TIED CARD OF 'laws.FnBufArrayType'. -/
def fnBufArrayTypeCard : Claim7 := { stood := { row := fnBufArrayTypeRow, standIns := [], harness := (true, "4677917074eba43af7048ea0f62a38a905de5eda852411192cd77884e36fe147"), looks := true }, kinds := [], alts := [], laidByText := true, laidKinds := [.data, .data, .data, .data, .pinned], laidTests := true, laidLooks := .later }
def FnBufArrayTypeCardSaid : Prop := Claim7.holds Tryz.pinned (.plain (OpenSpec.ofChange fnBufArrayTypeSpec)) fnBufArrayTypeCard

/-- THE TIED CARD OF 'laws.FnBufFunctionType'. -/
def fnBufFunctionTypeCard : Claim7 := { stood := { row := fnBufFunctionTypeRow, standIns := [], harness := (true, "4677917074eba43af7048ea0f62a38a905de5eda852411192cd77884e36fe147"), looks := true }, kinds := [], alts := [], laidByText := true, laidKinds := [.data, .data, .data, .data, .pinned], laidTests := true, laidLooks := .later }
def FnBufFunctionTypeCardSaid : Prop := Claim7.holds Tryz.pinned (.plain (OpenSpec.ofChange fnBufFunctionTypeSpec)) fnBufFunctionTypeCard

/-- THE TIED CARD OF 'laws.FnBufRecordType'. -/
def fnBufRecordTypeCard : Claim7 := { stood := { row := fnBufRecordTypeRow, standIns := [], harness := (true, "4677917074eba43af7048ea0f62a38a905de5eda852411192cd77884e36fe147"), looks := true }, kinds := [], alts := [], laidByText := true, laidKinds := [.data, .data, .data, .data, .pinned], laidTests := true, laidLooks := .later }
def FnBufRecordTypeCardSaid : Prop := Claim7.holds Tryz.pinned (.plain (OpenSpec.ofChange fnBufRecordTypeSpec)) fnBufRecordTypeCard

/-- THE SECOND FORM's CARD OF 'laws.FnBufArrayType'. -/
def fnBufArrayTypeUptoCard : Claim7 := { stood := { row := fnBufArrayTypeUptoRow, standIns := [], harness := (true, "4677917074eba43af7048ea0f62a38a905de5eda852411192cd77884e36fe147"), looks := true }, kinds := [], alts := [], laidByText := true, laidKinds := [.data, .data, .data, .data, .pinned], laidTests := true, laidLooks := .later }
def FnBufArrayTypeUptoCardSaid : Prop := Claim7.holds Tryz.pinned (.plain (OpenSpec.upto fnBufArrayTypeSpec)) fnBufArrayTypeUptoCard

/-- THE SECOND FORM's CARD OF 'laws.FnBufFunctionType'. -/
def fnBufFunctionTypeUptoCard : Claim7 := { stood := { row := fnBufFunctionTypeUptoRow, standIns := [], harness := (true, "4677917074eba43af7048ea0f62a38a905de5eda852411192cd77884e36fe147"), looks := true }, kinds := [], alts := [], laidByText := true, laidKinds := [.data, .data, .data, .data, .pinned], laidTests := true, laidLooks := .later }
def FnBufFunctionTypeUptoCardSaid : Prop := Claim7.holds Tryz.pinned (.plain (OpenSpec.upto fnBufFunctionTypeSpec)) fnBufFunctionTypeUptoCard

/-- THE SECOND FORM's CARD OF 'laws.FnBufRecordType'. -/
def fnBufRecordTypeUptoCard : Claim7 := { stood := { row := fnBufRecordTypeUptoRow, standIns := [], harness := (true, "4677917074eba43af7048ea0f62a38a905de5eda852411192cd77884e36fe147"), looks := true }, kinds := [], alts := [], laidByText := true, laidKinds := [.data, .data, .data, .data, .pinned], laidTests := true, laidLooks := .later }
def FnBufRecordTypeUptoCardSaid : Prop := Claim7.holds Tryz.pinned (.plain (OpenSpec.upto fnBufRecordTypeSpec)) fnBufRecordTypeUptoCard
end Rows
end Go.Proofs.YtcbcdgifakcooaaGreatDoor
