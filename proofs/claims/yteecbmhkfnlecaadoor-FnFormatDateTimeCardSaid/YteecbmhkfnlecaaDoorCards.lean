/-
  DERIVED. GIVEN WITH THE SEED: THE CARDS: each row of YteecbmhkfnlecaaDoorRows.lean that lists a variable, with what it lists TIED to the program's text (the seventh form; the later family's looks); each row that meets fmt, with fmt's text TOLD by the authors' own Lean function (tested against real Go, not proved from fmt's source: count such statements apart). THE CARD IS WHAT COUNTS. Prove the row's statement (the work); the ties are given (YteecbmhkfnlecaaDoorTie.lean); close each card by the builder's one call (the guide's Derived/Test/ToyasCard.lean, 'card_holds'). Laid BY PROGRAM, IN A SANDBOX (cutbox-door.mjs). By AI agents, Wed Nov 11 2026. No macro, syntax, notation, axiom, sorry.
-/
import Derived.Test.YteecbmhkfnlecaaDoorRows
import GoSem.ClaimSeven
namespace Go.Proofs.YteecbmhkfnlecaaDoor
namespace Rows

/-- THE TIED CARD OF 'laws.FnFormatIdentifier'. -/
def fnFormatIdentifierCard : Claim7 := { stood := { row := fnFormatIdentifierRow, standIns := [], harness := (true, "732d4420828ade8fb36f30e09599683130451f89d8a53bc8d1f6dd7b456680c8"), looks := false }, kinds := [], alts := [], laidByText := true, laidKinds := [.data, .pinned], laidTests := true, laidLooks := .later }
def FnFormatIdentifierCardSaid : Prop := Claim7.holds Tryd.pinned (.plain (OpenSpec.ofChange fnFormatIdentifierSpec)) fnFormatIdentifierCard

/-- THE TIED CARD OF 'laws.FnParseRegexp'. -/
def fnParseRegexpCard : Claim7 := { stood := { row := fnParseRegexpRow, standIns := [], harness := (true, "732d4420828ade8fb36f30e09599683130451f89d8a53bc8d1f6dd7b456680c8"), looks := false }, kinds := [], alts := [], laidByText := true, laidKinds := [.data, .pinned], laidTests := true, laidLooks := .later }
def FnParseRegexpCardSaid : Prop := Claim7.holds Tryd.pinned (.plain (OpenSpec.ofChange fnParseRegexpSpec)) fnParseRegexpCard

/-- THE TIED CARD OF 'laws.FnFormatUnsigned'. -/
def fnFormatUnsignedCard : Claim7 := { stood := { row := fnFormatUnsignedRow, standIns := [], harness := (true, "732d4420828ade8fb36f30e09599683130451f89d8a53bc8d1f6dd7b456680c8"), looks := false }, kinds := [], alts := [], laidByText := true, laidKinds := [.data, .data, .data], laidTests := true, laidLooks := .later }
def FnFormatUnsignedCardSaid : Prop := Claim7.holds Tryd.pinned (.plain (OpenSpec.ofChange fnFormatUnsignedSpec)) fnFormatUnsignedCard

/-- THE TIED CARD OF 'laws.FnParseString'. -/
def fnParseStringCard : Claim7 := { stood := { row := fnParseStringRow, standIns := [], harness := (true, "732d4420828ade8fb36f30e09599683130451f89d8a53bc8d1f6dd7b456680c8"), looks := false }, kinds := [], alts := [], laidByText := true, laidKinds := [.data, .pinned], laidTests := true, laidLooks := .later }
def FnParseStringCardSaid : Prop := Claim7.holds Tryd.pinned (.plain (OpenSpec.ofChange fnParseStringSpec)) fnParseStringCard

/-- THE TIED CARD OF 'laws.FnFormatDateTime'. -/
def fnFormatDateTimeCard : Claim7 := { stood := { row := fnFormatDateTimeRow, standIns := [], harness := (true, "732d4420828ade8fb36f30e09599683130451f89d8a53bc8d1f6dd7b456680c8"), looks := false }, kinds := [], alts := [], laidByText := true, laidKinds := [.data, .data, .data, .data, .pinned], laidTests := true, laidLooks := .later }
def FnFormatDateTimeCardSaid : Prop := Claim7.holds Tryd.pinned (.plain (OpenSpec.ofChange fnFormatDateTimeSpec)) fnFormatDateTimeCard

/-- THE SECOND FORM's CARD OF 'laws.FnFormatIdentifier'. -/
def fnFormatIdentifierUptoCard : Claim7 := { stood := { row := fnFormatIdentifierUptoRow, standIns := [], harness := (true, "732d4420828ade8fb36f30e09599683130451f89d8a53bc8d1f6dd7b456680c8"), looks := false }, kinds := [], alts := [], laidByText := true, laidKinds := [.data, .pinned], laidTests := true, laidLooks := .later }
def FnFormatIdentifierUptoCardSaid : Prop := Claim7.holds Tryd.pinned (.plain (OpenSpec.upto fnFormatIdentifierSpec)) fnFormatIdentifierUptoCard

/-- THE SECOND FORM's CARD OF 'laws.FnParseRegexp'. -/
def fnParseRegexpUptoCard : Claim7 := { stood := { row := fnParseRegexpUptoRow, standIns := [], harness := (true, "732d4420828ade8fb36f30e09599683130451f89d8a53bc8d1f6dd7b456680c8"), looks := false }, kinds := [], alts := [], laidByText := true, laidKinds := [.data, .pinned], laidTests := true, laidLooks := .later }
def FnParseRegexpUptoCardSaid : Prop := Claim7.holds Tryd.pinned (.plain (OpenSpec.upto fnParseRegexpSpec)) fnParseRegexpUptoCard

/-- THE SECOND FORM's CARD OF 'laws.FnFormatUnsigned'. -/
def fnFormatUnsignedUptoCard : Claim7 := { stood := { row := fnFormatUnsignedUptoRow, standIns := [], harness := (true, "732d4420828ade8fb36f30e09599683130451f89d8a53bc8d1f6dd7b456680c8"), looks := false }, kinds := [], alts := [], laidByText := true, laidKinds := [.data, .data, .data], laidTests := true, laidLooks := .later }
def FnFormatUnsignedUptoCardSaid : Prop := Claim7.holds Tryd.pinned (.plain (OpenSpec.upto fnFormatUnsignedSpec)) fnFormatUnsignedUptoCard

/-- THE SECOND FORM's CARD OF 'laws.FnParseString'. -/
def fnParseStringUptoCard : Claim7 := { stood := { row := fnParseStringUptoRow, standIns := [], harness := (true, "732d4420828ade8fb36f30e09599683130451f89d8a53bc8d1f6dd7b456680c8"), looks := false }, kinds := [], alts := [], laidByText := true, laidKinds := [.data, .pinned], laidTests := true, laidLooks := .later }
def FnParseStringUptoCardSaid : Prop := Claim7.holds Tryd.pinned (.plain (OpenSpec.upto fnParseStringSpec)) fnParseStringUptoCard

/-- THE SECOND FORM's CARD OF 'laws.FnFormatDateTime'. -/
def fnFormatDateTimeUptoCard : Claim7 := { stood := { row := fnFormatDateTimeUptoRow, standIns := [], harness := (true, "732d4420828ade8fb36f30e09599683130451f89d8a53bc8d1f6dd7b456680c8"), looks := false }, kinds := [], alts := [], laidByText := true, laidKinds := [.data, .data, .data, .data, .pinned], laidTests := true, laidLooks := .later }
def FnFormatDateTimeUptoCardSaid : Prop := Claim7.holds Tryd.pinned (.plain (OpenSpec.upto fnFormatDateTimeSpec)) fnFormatDateTimeUptoCard
end Rows
end Go.Proofs.YteecbmhkfnlecaaDoor
