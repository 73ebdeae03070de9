/-
  DERIVED. GIVEN WITH THE SEED: THE CARDS: each row of YtdljkanfebndaaaGreatDoorRows.lean that lists a variable, with what it lists TIED to the program's text (the seventh form; the later family's looks); each row that meets fmt, with fmt's text TOLD by the authors' own Lean function (tested against real Go, not proved from fmt's source: count such statements apart). THE CARD IS WHAT COUNTS. Prove the row's statement (the work); the ties are given (YtdljkanfebndaaaGreatDoorTie.lean); close each card by the builder's one call (the guide's Derived/Test/ToyasCard.lean, 'card_holds'). Laid BY PROGRAM, IN A SANDBOX (cutbox-door.mjs). By AI agents, Wed Nov 11 2026. No macro, syntax, notation, axiom, sorry.
-/
import Derived.Test.YtdljkanfebndaaaGreatDoorRows
import GoSem.ClaimSeven
namespace Go.Proofs.YtdljkanfebndaaaGreatDoor
namespace Rows

/-- THE TIED CARD OF 'laws.FnBufPipeLiteral'. -/
def fnBufPipeLiteralCard : Claim7 := { stood := { row := fnBufPipeLiteralRow, standIns := [], harness := (true, "375db5e49be74259305eac9b52c318c6de3a76142f380e7c4b98d2229c7dcc72"), looks := true }, kinds := [], alts := [], laidByText := true, laidKinds := [.data, .pinned], laidTests := true, laidLooks := .later }
def FnBufPipeLiteralCardSaid : Prop := Claim7.holds Tryz.pinned (.plain (OpenSpec.ofChange fnBufPipeLiteralSpec)) fnBufPipeLiteralCard

/-- THE TIED CARD OF 'laws.FnBufRegexpLiteral'. -/
def fnBufRegexpLiteralCard : Claim7 := { stood := { row := fnBufRegexpLiteralRow, standIns := [], harness := (true, "375db5e49be74259305eac9b52c318c6de3a76142f380e7c4b98d2229c7dcc72"), looks := true }, kinds := [], alts := [], laidByText := true, laidKinds := [.data, .pinned], laidTests := true, laidLooks := .later }
def FnBufRegexpLiteralCardSaid : Prop := Claim7.holds Tryz.pinned (.plain (OpenSpec.ofChange fnBufRegexpLiteralSpec)) fnBufRegexpLiteralCard

/-- THE TIED CARD OF 'laws.FnBufBooleanLiteral'. -/
def fnBufBooleanLiteralCard : Claim7 := { stood := { row := fnBufBooleanLiteralRow, standIns := [], harness := (true, "375db5e49be74259305eac9b52c318c6de3a76142f380e7c4b98d2229c7dcc72"), looks := true }, kinds := [], alts := [], laidByText := true, laidKinds := [.data, .pinned], laidTests := true, laidLooks := .later }
def FnBufBooleanLiteralCardSaid : Prop := Claim7.holds Tryz.pinned (.plain (OpenSpec.ofChange fnBufBooleanLiteralSpec)) fnBufBooleanLiteralCard

/-- THE TIED CARD OF 'laws.FnBufIntegerLiteral'. -/
def fnBufIntegerLiteralCard : Claim7 := { stood := { row := fnBufIntegerLiteralRow, standIns := [], harness := (true, "375db5e49be74259305eac9b52c318c6de3a76142f380e7c4b98d2229c7dcc72"), looks := true }, kinds := [], alts := [], laidByText := true, laidKinds := [.data, .pinned], laidTests := true, laidLooks := .later }
def FnBufIntegerLiteralCardSaid : Prop := Claim7.holds Tryz.pinned (.plain (OpenSpec.ofChange fnBufIntegerLiteralSpec)) fnBufIntegerLiteralCard

/-- THE TIED CARD OF 'laws.FnBufNamedType'. -/
def fnBufNamedTypeCard : Claim7 := { stood := { row := fnBufNamedTypeRow, standIns := [], harness := (true, "375db5e49be74259305eac9b52c318c6de3a76142f380e7c4b98d2229c7dcc72"), looks := true }, kinds := [], alts := [], laidByText := true, laidKinds := [.data, .pinned], laidTests := true, laidLooks := .later }
def FnBufNamedTypeCardSaid : Prop := Claim7.holds Tryz.pinned (.plain (OpenSpec.ofChange fnBufNamedTypeSpec)) fnBufNamedTypeCard

/-- THE TIED CARD OF 'laws.FnBufPackageClause'. -/
def fnBufPackageClauseCard : Claim7 := { stood := { row := fnBufPackageClauseRow, standIns := [], harness := (true, "375db5e49be74259305eac9b52c318c6de3a76142f380e7c4b98d2229c7dcc72"), looks := true }, kinds := [], alts := [], laidByText := true, laidKinds := [.data, .pinned], laidTests := true, laidLooks := .later }
def FnBufPackageClauseCardSaid : Prop := Claim7.holds Tryz.pinned (.plain (OpenSpec.ofChange fnBufPackageClauseSpec)) fnBufPackageClauseCard

/-- THE TIED CARD OF 'laws.FnBufDateTimeLiteral'. -/
def fnBufDateTimeLiteralCard : Claim7 := { stood := { row := fnBufDateTimeLiteralRow, standIns := [], harness := (true, "375db5e49be74259305eac9b52c318c6de3a76142f380e7c4b98d2229c7dcc72"), looks := true }, kinds := [], alts := [], laidByText := true, laidKinds := [.data, .pinned], laidTests := true, laidLooks := .later }
def FnBufDateTimeLiteralCardSaid : Prop := Claim7.holds Tryz.pinned (.plain (OpenSpec.ofChange fnBufDateTimeLiteralSpec)) fnBufDateTimeLiteralCard

/-- THE TIED CARD OF 'laws.FnBufTypeConstraint'. -/
def fnBufTypeConstraintCard : Claim7 := { stood := { row := fnBufTypeConstraintRow, standIns := [], harness := (true, "375db5e49be74259305eac9b52c318c6de3a76142f380e7c4b98d2229c7dcc72"), looks := true }, kinds := [], alts := [], laidByText := true, laidKinds := [.data, .data, .data, .data, .pinned], laidTests := true, laidLooks := .later }
def FnBufTypeConstraintCardSaid : Prop := Claim7.holds Tryz.pinned (.plain (OpenSpec.ofChange fnBufTypeConstraintSpec)) fnBufTypeConstraintCard

/-- THE SECOND FORM's CARD OF 'laws.FnBufPipeLiteral'. -/
def fnBufPipeLiteralUptoCard : Claim7 := { stood := { row := fnBufPipeLiteralUptoRow, standIns := [], harness := (true, "375db5e49be74259305eac9b52c318c6de3a76142f380e7c4b98d2229c7dcc72"), looks := true }, kinds := [], alts := [], laidByText := true, laidKinds := [.data, .pinned], laidTests := true, laidLooks := .later }
def FnBufPipeLiteralUptoCardSaid : Prop := Claim7.holds Tryz.pinned (.plain (OpenSpec.upto fnBufPipeLiteralSpec)) fnBufPipeLiteralUptoCard

/-- THE SECOND FORM's CARD OF 'laws.FnBufRegexpLiteral'. -/
def fnBufRegexpLiteralUptoCard : Claim7 := { stood := { row := fnBufRegexpLiteralUptoRow, standIns := [], harness := (true, "375db5e49be74259305eac9b52c318c6de3a76142f380e7c4b98d2229c7dcc72"), looks := true }, kinds := [], alts := [], laidByText := true, laidKinds := [.data, .pinned], laidTests := true, laidLooks := .later }
def FnBufRegexpLiteralUptoCardSaid : Prop := Claim7.holds Tryz.pinned (.plain (OpenSpec.upto fnBufRegexpLiteralSpec)) fnBufRegexpLiteralUptoCard

/-- THE SECOND FORM's CARD OF 'laws.FnBufBooleanLiteral'. -/
def fnBufBooleanLiteralUptoCard : Claim7 := { stood := { row := fnBufBooleanLiteralUptoRow, standIns := [], harness := (true, "375db5e49be74259305eac9b52c318c6de3a76142f380e7c4b98d2229c7dcc72"), looks := true }, kinds := [], alts := [], laidByText := true, laidKinds := [.data, .pinned], laidTests := true, laidLooks := .later }
def FnBufBooleanLiteralUptoCardSaid : Prop := Claim7.holds Tryz.pinned (.plain (OpenSpec.upto fnBufBooleanLiteralSpec)) fnBufBooleanLiteralUptoCard

/-- THE SECOND FORM's CARD OF 'laws.FnBufIntegerLiteral'. -/
def fnBufIntegerLiteralUptoCard : Claim7 := { stood := { row := fnBufIntegerLiteralUptoRow, standIns := [], harness := (true, "375db5e49be74259305eac9b52c318c6de3a76142f380e7c4b98d2229c7dcc72"), looks := true }, kinds := [], alts := [], laidByText := true, laidKinds := [.data, .pinned], laidTests := true, laidLooks := .later }
def FnBufIntegerLiteralUptoCardSaid : Prop := Claim7.holds Tryz.pinned (.plain (OpenSpec.upto fnBufIntegerLiteralSpec)) fnBufIntegerLiteralUptoCard

/-- THE SECOND FORM's CARD OF 'laws.FnBufNamedType'. -/
def fnBufNamedTypeUptoCard : Claim7 := { stood := { row := fnBufNamedTypeUptoRow, standIns := [], harness := (true, "375db5e49be74259305eac9b52c318c6de3a76142f380e7c4b98d2229c7dcc72"), looks := true }, kinds := [], alts := [], laidByText := true, laidKinds := [.data, .pinned], laidTests := true, laidLooks := .later }
def FnBufNamedTypeUptoCardSaid : Prop := Claim7.holds Tryz.pinned (.plain (OpenSpec.upto fnBufNamedTypeSpec)) fnBufNamedTypeUptoCard

/-- THE SECOND FORM's CARD OF 'laws.FnBufPackageClause'. -/
def fnBufPackageClauseUptoCard : Claim7 := { stood := { row := fnBufPackageClauseUptoRow, standIns := [], harness := (true, "375db5e49be74259305eac9b52c318c6de3a76142f380e7c4b98d2229c7dcc72"), looks := true }, kinds := [], alts := [], laidByText := true, laidKinds := [.data, .pinned], laidTests := true, laidLooks := .later }
def FnBufPackageClauseUptoCardSaid : Prop := Claim7.holds Tryz.pinned (.plain (OpenSpec.upto fnBufPackageClauseSpec)) fnBufPackageClauseUptoCard

/-- THE SECOND FORM's CARD OF 'laws.FnBufDateTimeLiteral'. -/
def fnBufDateTimeLiteralUptoCard : Claim7 := { stood := { row := fnBufDateTimeLiteralUptoRow, standIns := [], harness := (true, "375db5e49be74259305eac9b52c318c6de3a76142f380e7c4b98d2229c7dcc72"), looks := true }, kinds := [], alts := [], laidByText := true, laidKinds := [.data, .pinned], laidTests := true, laidLooks := .later }
def FnBufDateTimeLiteralUptoCardSaid : Prop := Claim7.holds Tryz.pinned (.plain (OpenSpec.upto fnBufDateTimeLiteralSpec)) fnBufDateTimeLiteralUptoCard

/-- THE SECOND FORM's CARD OF 'laws.FnBufTypeConstraint'. -/
def fnBufTypeConstraintUptoCard : Claim7 := { stood := { row := fnBufTypeConstraintUptoRow, standIns := [], harness := (true, "375db5e49be74259305eac9b52c318c6de3a76142f380e7c4b98d2229c7dcc72"), looks := true }, kinds := [], alts := [], laidByText := true, laidKinds := [.data, .data, .data, .data, .pinned], laidTests := true, laidLooks := .later }
def FnBufTypeConstraintUptoCardSaid : Prop := Claim7.holds Tryz.pinned (.plain (OpenSpec.upto fnBufTypeConstraintSpec)) fnBufTypeConstraintUptoCard
end Rows
end Go.Proofs.YtdljkanfebndaaaGreatDoor
