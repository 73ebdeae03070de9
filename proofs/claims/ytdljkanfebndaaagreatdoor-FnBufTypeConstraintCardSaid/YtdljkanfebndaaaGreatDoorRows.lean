/-
  NARROWER THAN 'FOR EVERY INPUT', by the rows' own cells (each row's printed sentence says how): FnBufPipeLiteral: loops, laid · FnBufRegexpLiteral: loops, laid · FnBufBooleanLiteral: loops, laid · FnBufIntegerLiteral: loops, laid · FnBufNamedType: loops, laid · FnBufPackageClause: loops, laid · FnBufDateTimeLiteral: loops, laid · FnBufTypeConstraint: loops, laid.
  DERIVED. THE GIVEN ROWS OF THIS SEAT. 8 by the template 'for every input the law returns true; each argument reads behind the call as it read before'; 0 by the template 'total and deterministic' (their statements: YtdljkanfebndaaaGreatDoorTotals.lean).
  GIVEN WITH THE SEED: the statements are not yours to turn. If you find one false, say at which input.
  Laid BY PROGRAM, IN A SANDBOX (cutbox-rows.mjs): the forced cells as the released guide's own fill.sh prints them over the translation 1228adcdd28333dd… (all of the seat's roots in one cut). By AI agents, Wed Nov 11 2026. No macro, syntax, notation, axiom, sorry.
-/
import Derived.Test.YtdljkanfebndaaaGreatDoorChecked
import GoSem.PinnedTables
import GoSem.Claim
import GoSem.ClaimJoined
import GoSem.ClaimMapViews
import Derived.JoinedTies
import Derived.KernelRfl
namespace Go.Proofs.YtdljkanfebndaaaGreatDoor
/- THE CELL 'sum', in the pinned program and in every row, IS THE sha256 OF THE DUMP (.gsa) THAT YtdljkanfebndaaaGreatDoorProg.lean LOADS. Nothing in Lean hashes anything: it is a label: what it is worth is what the hold of that sum in a sandbox is worth. -/
noncomputable def Tryz.pinned : Pinned := { name := "ytdljkanfebndaaagreatdoor", sum := "1228adcdd28333dd6685409c74a208f4bf9f256e7882e702704cc014fea8de51", checked := Tryz.checked }
namespace Rows
def none {H : Type} : Left H := { results := [], args := [] }

/- WHAT THE LISTED PACKAGE-LEVEL VARIABLES READ AS WHEN THE CALL BEGINS. Each datum BY PROGRAM (the guide's laid-datum.mjs) off the statement by which the dump's own 'gosem.cut.vars' lays the variable. In a bare row this is a premise. The card (YtdljkanfebndaaaGreatDoorCards.lean) ties it to the program's text. -/
def laid_unicode_utf8_acceptRanges {H : Type} : DataW H := .agg [.agg [.lit (.int .u8 128), .lit (.int .u8 191)], .agg [.lit (.int .u8 160), .lit (.int .u8 191)], .agg [.lit (.int .u8 128), .lit (.int .u8 159)], .agg [.lit (.int .u8 144), .lit (.int .u8 191)], .agg [.lit (.int .u8 128), .lit (.int .u8 143)], .agg [.lit (.int .u8 0), .lit (.int .u8 0)], .agg [.lit (.int .u8 0), .lit (.int .u8 0)], .agg [.lit (.int .u8 0), .lit (.int .u8 0)], .agg [.lit (.int .u8 0), .lit (.int .u8 0)], .agg [.lit (.int .u8 0), .lit (.int .u8 0)], .agg [.lit (.int .u8 0), .lit (.int .u8 0)], .agg [.lit (.int .u8 0), .lit (.int .u8 0)], .agg [.lit (.int .u8 0), .lit (.int .u8 0)], .agg [.lit (.int .u8 0), .lit (.int .u8 0)], .agg [.lit (.int .u8 0), .lit (.int .u8 0)], .agg [.lit (.int .u8 0), .lit (.int .u8 0)]]
/-- One of Go's own tables, pinned by name: the form's constant. -/
def laid_unicode_utf8_first : DataW Unit := Go.Pinned.utf8First
def laid_math_bits_deBruijn32tab {H : Type} : DataW H := .agg [.lit (.int .u8 0), .lit (.int .u8 1), .lit (.int .u8 28), .lit (.int .u8 2), .lit (.int .u8 29), .lit (.int .u8 14), .lit (.int .u8 24), .lit (.int .u8 3), .lit (.int .u8 30), .lit (.int .u8 22), .lit (.int .u8 20), .lit (.int .u8 15), .lit (.int .u8 25), .lit (.int .u8 17), .lit (.int .u8 4), .lit (.int .u8 8), .lit (.int .u8 31), .lit (.int .u8 27), .lit (.int .u8 13), .lit (.int .u8 23), .lit (.int .u8 21), .lit (.int .u8 19), .lit (.int .u8 16), .lit (.int .u8 7), .lit (.int .u8 26), .lit (.int .u8 12), .lit (.int .u8 18), .lit (.int .u8 6), .lit (.int .u8 11), .lit (.int .u8 5), .lit (.int .u8 10), .lit (.int .u8 9)]
def laid_math_bits_deBruijn64tab {H : Type} : DataW H := .agg [.lit (.int .u8 0), .lit (.int .u8 1), .lit (.int .u8 56), .lit (.int .u8 2), .lit (.int .u8 57), .lit (.int .u8 49), .lit (.int .u8 28), .lit (.int .u8 3), .lit (.int .u8 61), .lit (.int .u8 58), .lit (.int .u8 42), .lit (.int .u8 50), .lit (.int .u8 38), .lit (.int .u8 29), .lit (.int .u8 17), .lit (.int .u8 4), .lit (.int .u8 62), .lit (.int .u8 47), .lit (.int .u8 59), .lit (.int .u8 36), .lit (.int .u8 45), .lit (.int .u8 43), .lit (.int .u8 51), .lit (.int .u8 22), .lit (.int .u8 53), .lit (.int .u8 39), .lit (.int .u8 33), .lit (.int .u8 30), .lit (.int .u8 24), .lit (.int .u8 18), .lit (.int .u8 12), .lit (.int .u8 5), .lit (.int .u8 63), .lit (.int .u8 55), .lit (.int .u8 48), .lit (.int .u8 27), .lit (.int .u8 60), .lit (.int .u8 41), .lit (.int .u8 37), .lit (.int .u8 16), .lit (.int .u8 46), .lit (.int .u8 35), .lit (.int .u8 44), .lit (.int .u8 21), .lit (.int .u8 52), .lit (.int .u8 32), .lit (.int .u8 23), .lit (.int .u8 11), .lit (.int .u8 54), .lit (.int .u8 26), .lit (.int .u8 40), .lit (.int .u8 15), .lit (.int .u8 34), .lit (.int .u8 20), .lit (.int .u8 31), .lit (.int .u8 10), .lit (.int .u8 25), .lit (.int .u8 14), .lit (.int .u8 19), .lit (.int .u8 9), .lit (.int .u8 13), .lit (.int .u8 8), .lit (.int .u8 7), .lit (.int .u8 6)]
def laid_internal_strconv_uint64pow10 {H : Type} : DataW H := .agg [.lit (.int .u64 1), .lit (.int .u64 10), .lit (.int .u64 100), .lit (.int .u64 1000), .lit (.int .u64 10000), .lit (.int .u64 100000), .lit (.int .u64 1000000), .lit (.int .u64 10000000), .lit (.int .u64 100000000), .lit (.int .u64 1000000000), .lit (.int .u64 10000000000), .lit (.int .u64 100000000000), .lit (.int .u64 1000000000000), .lit (.int .u64 10000000000000), .lit (.int .u64 100000000000000), .lit (.int .u64 1000000000000000), .lit (.int .u64 10000000000000000), .lit (.int .u64 100000000000000000), .lit (.int .u64 1000000000000000000), .lit (.int .u64 10000000000000000000)]

/-- 'laws.FnBufPipeLiteral': WHATEVER THE INPUT: true; the input reads as it did. -/
def fnBufPipeLiteralSpec : ChangeSpec := { name := "fnBufPipeLiteral", fn := fun _ => fun
  | [d1, d2] => { results := [.lit (.bool true)], args := [d1, d2] }
  | _ => none }
def fnBufPipeLiteralRow : OpenClaim := { program := "ytdljkanfebndaaagreatdoor", sum := "1228adcdd28333dd6685409c74a208f4bf9f256e7882e702704cc014fea8de51", func := "given.example/pub-brazing/laws.FnBufPipeLiteral", spec := "fnBufPipeLiteral", inPlace := ["math.Float64frombits", "math.archFloor", "math.Float64bits", "math.archTrunc"], unfollowed := true, recurses := true, named := ["unicode/utf8.first", "unicode/utf8.acceptRanges"], loops := true, apart := false, laid := [("unicode/utf8.acceptRanges", laid_unicode_utf8_acceptRanges), ("unicode/utf8.first", laid_unicode_utf8_first)] }
def FnBufPipeLiteralSaid : Prop := fnBufPipeLiteralRow.holds Tryz.pinned (OpenSpec.ofChange fnBufPipeLiteralSpec)

/-- ITS FALSE NEIGHBOUR: 'it returns false'. Refute it at one input. -/
def fnBufPipeLiteralWrong : ChangeSpec := { name := "fnBufPipeLiteral", fn := fun _ => fun
  | [d1, d2] => { results := [.lit (.bool false)], args := [d1, d2] }
  | _ => none }
def FnBufPipeLiteralWrongFalsely : Prop := fnBufPipeLiteralRow.holds Tryz.pinned (OpenSpec.ofChange fnBufPipeLiteralWrong)

/-- 'laws.FnBufRegexpLiteral': WHATEVER THE INPUT: true; the input reads as it did. -/
def fnBufRegexpLiteralSpec : ChangeSpec := { name := "fnBufRegexpLiteral", fn := fun _ => fun
  | [d1, d2] => { results := [.lit (.bool true)], args := [d1, d2] }
  | _ => none }
def fnBufRegexpLiteralRow : OpenClaim := { program := "ytdljkanfebndaaagreatdoor", sum := "1228adcdd28333dd6685409c74a208f4bf9f256e7882e702704cc014fea8de51", func := "given.example/pub-brazing/laws.FnBufRegexpLiteral", spec := "fnBufRegexpLiteral", inPlace := ["math.Float64frombits", "math.archFloor", "math.Float64bits", "math.archTrunc"], unfollowed := true, recurses := true, named := ["unicode/utf8.first", "unicode/utf8.acceptRanges"], loops := true, apart := false, laid := [("unicode/utf8.acceptRanges", laid_unicode_utf8_acceptRanges), ("unicode/utf8.first", laid_unicode_utf8_first)] }
def FnBufRegexpLiteralSaid : Prop := fnBufRegexpLiteralRow.holds Tryz.pinned (OpenSpec.ofChange fnBufRegexpLiteralSpec)

/-- ITS FALSE NEIGHBOUR: 'it returns false'. Refute it at one input. -/
def fnBufRegexpLiteralWrong : ChangeSpec := { name := "fnBufRegexpLiteral", fn := fun _ => fun
  | [d1, d2] => { results := [.lit (.bool false)], args := [d1, d2] }
  | _ => none }
def FnBufRegexpLiteralWrongFalsely : Prop := fnBufRegexpLiteralRow.holds Tryz.pinned (OpenSpec.ofChange fnBufRegexpLiteralWrong)

/-- 'laws.FnBufBooleanLiteral': WHATEVER THE INPUT: true; the input reads as it did. -/
def fnBufBooleanLiteralSpec : ChangeSpec := { name := "fnBufBooleanLiteral", fn := fun _ => fun
  | [d1, d2] => { results := [.lit (.bool true)], args := [d1, d2] }
  | _ => none }
def fnBufBooleanLiteralRow : OpenClaim := { program := "ytdljkanfebndaaagreatdoor", sum := "1228adcdd28333dd6685409c74a208f4bf9f256e7882e702704cc014fea8de51", func := "given.example/pub-brazing/laws.FnBufBooleanLiteral", spec := "fnBufBooleanLiteral", inPlace := ["math.Float64frombits", "math.archFloor", "math.Float64bits", "math.archTrunc"], unfollowed := true, recurses := true, named := ["unicode/utf8.first", "unicode/utf8.acceptRanges"], loops := true, apart := false, laid := [("unicode/utf8.acceptRanges", laid_unicode_utf8_acceptRanges), ("unicode/utf8.first", laid_unicode_utf8_first)] }
def FnBufBooleanLiteralSaid : Prop := fnBufBooleanLiteralRow.holds Tryz.pinned (OpenSpec.ofChange fnBufBooleanLiteralSpec)

/-- ITS FALSE NEIGHBOUR: 'it returns false'. Refute it at one input. -/
def fnBufBooleanLiteralWrong : ChangeSpec := { name := "fnBufBooleanLiteral", fn := fun _ => fun
  | [d1, d2] => { results := [.lit (.bool false)], args := [d1, d2] }
  | _ => none }
def FnBufBooleanLiteralWrongFalsely : Prop := fnBufBooleanLiteralRow.holds Tryz.pinned (OpenSpec.ofChange fnBufBooleanLiteralWrong)

/-- 'laws.FnBufIntegerLiteral': WHATEVER THE INPUT: true; the input reads as it did. -/
def fnBufIntegerLiteralSpec : ChangeSpec := { name := "fnBufIntegerLiteral", fn := fun _ => fun
  | [d1, d2] => { results := [.lit (.bool true)], args := [d1, d2] }
  | _ => none }
def fnBufIntegerLiteralRow : OpenClaim := { program := "ytdljkanfebndaaagreatdoor", sum := "1228adcdd28333dd6685409c74a208f4bf9f256e7882e702704cc014fea8de51", func := "given.example/pub-brazing/laws.FnBufIntegerLiteral", spec := "fnBufIntegerLiteral", inPlace := ["math.Float64frombits", "math.archFloor", "math.Float64bits", "math.archTrunc"], unfollowed := true, recurses := true, named := ["unicode/utf8.first", "unicode/utf8.acceptRanges"], loops := true, apart := false, laid := [("unicode/utf8.acceptRanges", laid_unicode_utf8_acceptRanges), ("unicode/utf8.first", laid_unicode_utf8_first)] }
def FnBufIntegerLiteralSaid : Prop := fnBufIntegerLiteralRow.holds Tryz.pinned (OpenSpec.ofChange fnBufIntegerLiteralSpec)

/-- ITS FALSE NEIGHBOUR: 'it returns false'. Refute it at one input. -/
def fnBufIntegerLiteralWrong : ChangeSpec := { name := "fnBufIntegerLiteral", fn := fun _ => fun
  | [d1, d2] => { results := [.lit (.bool false)], args := [d1, d2] }
  | _ => none }
def FnBufIntegerLiteralWrongFalsely : Prop := fnBufIntegerLiteralRow.holds Tryz.pinned (OpenSpec.ofChange fnBufIntegerLiteralWrong)

/-- 'laws.FnBufNamedType': WHATEVER THE INPUT: true; the input reads as it did. -/
def fnBufNamedTypeSpec : ChangeSpec := { name := "fnBufNamedType", fn := fun _ => fun
  | [d1, d2] => { results := [.lit (.bool true)], args := [d1, d2] }
  | _ => none }
def fnBufNamedTypeRow : OpenClaim := { program := "ytdljkanfebndaaagreatdoor", sum := "1228adcdd28333dd6685409c74a208f4bf9f256e7882e702704cc014fea8de51", func := "given.example/pub-brazing/laws.FnBufNamedType", spec := "fnBufNamedType", inPlace := ["math.Float64frombits", "math.archFloor", "math.Float64bits", "math.archTrunc"], unfollowed := true, recurses := true, named := ["unicode/utf8.first", "unicode/utf8.acceptRanges"], loops := true, apart := false, laid := [("unicode/utf8.acceptRanges", laid_unicode_utf8_acceptRanges), ("unicode/utf8.first", laid_unicode_utf8_first)] }
def FnBufNamedTypeSaid : Prop := fnBufNamedTypeRow.holds Tryz.pinned (OpenSpec.ofChange fnBufNamedTypeSpec)

/-- ITS FALSE NEIGHBOUR: 'it returns false'. Refute it at one input. -/
def fnBufNamedTypeWrong : ChangeSpec := { name := "fnBufNamedType", fn := fun _ => fun
  | [d1, d2] => { results := [.lit (.bool false)], args := [d1, d2] }
  | _ => none }
def FnBufNamedTypeWrongFalsely : Prop := fnBufNamedTypeRow.holds Tryz.pinned (OpenSpec.ofChange fnBufNamedTypeWrong)

/-- 'laws.FnBufPackageClause': WHATEVER THE INPUT: true; the input reads as it did. -/
def fnBufPackageClauseSpec : ChangeSpec := { name := "fnBufPackageClause", fn := fun _ => fun
  | [d1, d2] => { results := [.lit (.bool true)], args := [d1, d2] }
  | _ => none }
def fnBufPackageClauseRow : OpenClaim := { program := "ytdljkanfebndaaagreatdoor", sum := "1228adcdd28333dd6685409c74a208f4bf9f256e7882e702704cc014fea8de51", func := "given.example/pub-brazing/laws.FnBufPackageClause", spec := "fnBufPackageClause", inPlace := ["math.Float64frombits", "math.archFloor", "math.Float64bits", "math.archTrunc"], unfollowed := true, recurses := true, named := ["unicode/utf8.first", "unicode/utf8.acceptRanges"], loops := true, apart := false, laid := [("unicode/utf8.acceptRanges", laid_unicode_utf8_acceptRanges), ("unicode/utf8.first", laid_unicode_utf8_first)] }
def FnBufPackageClauseSaid : Prop := fnBufPackageClauseRow.holds Tryz.pinned (OpenSpec.ofChange fnBufPackageClauseSpec)

/-- ITS FALSE NEIGHBOUR: 'it returns false'. Refute it at one input. -/
def fnBufPackageClauseWrong : ChangeSpec := { name := "fnBufPackageClause", fn := fun _ => fun
  | [d1, d2] => { results := [.lit (.bool false)], args := [d1, d2] }
  | _ => none }
def FnBufPackageClauseWrongFalsely : Prop := fnBufPackageClauseRow.holds Tryz.pinned (OpenSpec.ofChange fnBufPackageClauseWrong)

/-- 'laws.FnBufDateTimeLiteral': WHATEVER THE INPUT: true; the input reads as it did. -/
def fnBufDateTimeLiteralSpec : ChangeSpec := { name := "fnBufDateTimeLiteral", fn := fun _ => fun
  | [d1, d2] => { results := [.lit (.bool true)], args := [d1, d2] }
  | _ => none }
def fnBufDateTimeLiteralRow : OpenClaim := { program := "ytdljkanfebndaaagreatdoor", sum := "1228adcdd28333dd6685409c74a208f4bf9f256e7882e702704cc014fea8de51", func := "given.example/pub-brazing/laws.FnBufDateTimeLiteral", spec := "fnBufDateTimeLiteral", inPlace := ["math.Float64frombits", "math.archFloor", "math.Float64bits", "math.archTrunc"], unfollowed := true, recurses := true, named := ["unicode/utf8.first", "unicode/utf8.acceptRanges"], loops := true, apart := false, laid := [("unicode/utf8.acceptRanges", laid_unicode_utf8_acceptRanges), ("unicode/utf8.first", laid_unicode_utf8_first)] }
def FnBufDateTimeLiteralSaid : Prop := fnBufDateTimeLiteralRow.holds Tryz.pinned (OpenSpec.ofChange fnBufDateTimeLiteralSpec)

/-- ITS FALSE NEIGHBOUR: 'it returns false'. Refute it at one input. -/
def fnBufDateTimeLiteralWrong : ChangeSpec := { name := "fnBufDateTimeLiteral", fn := fun _ => fun
  | [d1, d2] => { results := [.lit (.bool false)], args := [d1, d2] }
  | _ => none }
def FnBufDateTimeLiteralWrongFalsely : Prop := fnBufDateTimeLiteralRow.holds Tryz.pinned (OpenSpec.ofChange fnBufDateTimeLiteralWrong)

/-- 'laws.FnBufTypeConstraint': WHATEVER THE INPUT: true; the input reads as it did. -/
def fnBufTypeConstraintSpec : ChangeSpec := { name := "fnBufTypeConstraint", fn := fun _ => fun
  | [d1, d2] => { results := [.lit (.bool true)], args := [d1, d2] }
  | _ => none }
def fnBufTypeConstraintRow : OpenClaim := { program := "ytdljkanfebndaaagreatdoor", sum := "1228adcdd28333dd6685409c74a208f4bf9f256e7882e702704cc014fea8de51", func := "given.example/pub-brazing/laws.FnBufTypeConstraint", spec := "fnBufTypeConstraint", inPlace := ["math.Float64frombits", "math.archFloor", "math.Float64bits", "math.archTrunc"], unfollowed := true, recurses := true, named := ["unicode/utf8.first", "unicode/utf8.acceptRanges", "internal/strconv.uint64pow10", "math/bits.deBruijn32tab", "math/bits.deBruijn64tab"], loops := true, apart := false, laid := [("math/bits.deBruijn32tab", laid_math_bits_deBruijn32tab), ("math/bits.deBruijn64tab", laid_math_bits_deBruijn64tab), ("internal/strconv.uint64pow10", laid_internal_strconv_uint64pow10), ("unicode/utf8.acceptRanges", laid_unicode_utf8_acceptRanges), ("unicode/utf8.first", laid_unicode_utf8_first)] }
def FnBufTypeConstraintSaid : Prop := fnBufTypeConstraintRow.holds Tryz.pinned (OpenSpec.ofChange fnBufTypeConstraintSpec)

/-- ITS FALSE NEIGHBOUR: 'it returns false'. Refute it at one input. -/
def fnBufTypeConstraintWrong : ChangeSpec := { name := "fnBufTypeConstraint", fn := fun _ => fun
  | [d1, d2] => { results := [.lit (.bool false)], args := [d1, d2] }
  | _ => none }
def FnBufTypeConstraintWrongFalsely : Prop := fnBufTypeConstraintRow.holds Tryz.pinned (OpenSpec.ofChange fnBufTypeConstraintWrong)

/- THE SECOND FORM. 'bulk': how many values and letters a reading holds, each counted each time it is reached (what is shared counts as often as it is met; a slice's spare places count too). A statement '..UptoSaid' is the law's where the arguments, and the package variables that the reading takes, are together of bulk at most 1048576: NARROWER than '..Said'. Prove '..Said' where nothing that the law and all that it calls make is longer than what came in: it says more and counts as full. Else prove '..UptoSaid'. A law counts once. -/
mutual
def uptoBulk {H : Type} : DataW H → Nat
  | .lit (.string bytes) => bytes.length + 1
  | .lit _ => 1
  | .nil => 1
  | .ptr d => uptoBulk d + 1
  | .slice elems spare => uptoBulkAll elems + uptoBulkAll spare + 1
  | .agg parts => uptoBulkAll parts + 1
  | .iface _ d => uptoBulk d + 1
  | .map entries => uptoBulkEntries entries + 1
  | .held _ => 1
def uptoBulkAll {H : Type} : List (DataW H) → Nat
  | [] => 0
  | d :: r => uptoBulk d + uptoBulkAll r
def uptoBulkEntries {H : Type} : List (Lit × DataW H) → Nat
  | [] => 0
  | x :: r => uptoBulkEntry x + uptoBulkEntries r
def uptoBulkEntry {H : Type} : Lit × DataW H → Nat
  | (.string bytes, d) => bytes.length + uptoBulk d + 1
  | (_, d) => uptoBulk d + 1
 end
def uptoSmall : (H : Type) → List (DataW H) → Bool := fun _ ds => decide (uptoBulkAll ds ≤ 1048576)
def OpenSpec.upto (s : _root_.Go.ChangeSpec) : _root_.Go.OpenSpec := { _root_.Go.OpenSpec.ofChange s with cond := some uptoSmall }

/-- 'laws.FnBufPipeLiteral', WHERE WHAT IT READS IS OF BULK AT MOST 1048576: true; the input reads as it did. -/
def fnBufPipeLiteralUptoRow : OpenClaim := { program := "ytdljkanfebndaaagreatdoor", sum := "1228adcdd28333dd6685409c74a208f4bf9f256e7882e702704cc014fea8de51", func := "given.example/pub-brazing/laws.FnBufPipeLiteral", spec := "fnBufPipeLiteral", inPlace := ["math.Float64frombits", "math.archFloor", "math.Float64bits", "math.archTrunc"], unfollowed := true, recurses := true, named := ["unicode/utf8.first", "unicode/utf8.acceptRanges"], loops := true, apart := false, laid := [("unicode/utf8.acceptRanges", laid_unicode_utf8_acceptRanges), ("unicode/utf8.first", laid_unicode_utf8_first)], narrowed := true }
def FnBufPipeLiteralUptoSaid : Prop := fnBufPipeLiteralUptoRow.holds Tryz.pinned (OpenSpec.upto fnBufPipeLiteralSpec)

/-- 'laws.FnBufRegexpLiteral', WHERE WHAT IT READS IS OF BULK AT MOST 1048576: true; the input reads as it did. -/
def fnBufRegexpLiteralUptoRow : OpenClaim := { program := "ytdljkanfebndaaagreatdoor", sum := "1228adcdd28333dd6685409c74a208f4bf9f256e7882e702704cc014fea8de51", func := "given.example/pub-brazing/laws.FnBufRegexpLiteral", spec := "fnBufRegexpLiteral", inPlace := ["math.Float64frombits", "math.archFloor", "math.Float64bits", "math.archTrunc"], unfollowed := true, recurses := true, named := ["unicode/utf8.first", "unicode/utf8.acceptRanges"], loops := true, apart := false, laid := [("unicode/utf8.acceptRanges", laid_unicode_utf8_acceptRanges), ("unicode/utf8.first", laid_unicode_utf8_first)], narrowed := true }
def FnBufRegexpLiteralUptoSaid : Prop := fnBufRegexpLiteralUptoRow.holds Tryz.pinned (OpenSpec.upto fnBufRegexpLiteralSpec)

/-- 'laws.FnBufBooleanLiteral', WHERE WHAT IT READS IS OF BULK AT MOST 1048576: true; the input reads as it did. -/
def fnBufBooleanLiteralUptoRow : OpenClaim := { program := "ytdljkanfebndaaagreatdoor", sum := "1228adcdd28333dd6685409c74a208f4bf9f256e7882e702704cc014fea8de51", func := "given.example/pub-brazing/laws.FnBufBooleanLiteral", spec := "fnBufBooleanLiteral", inPlace := ["math.Float64frombits", "math.archFloor", "math.Float64bits", "math.archTrunc"], unfollowed := true, recurses := true, named := ["unicode/utf8.first", "unicode/utf8.acceptRanges"], loops := true, apart := false, laid := [("unicode/utf8.acceptRanges", laid_unicode_utf8_acceptRanges), ("unicode/utf8.first", laid_unicode_utf8_first)], narrowed := true }
def FnBufBooleanLiteralUptoSaid : Prop := fnBufBooleanLiteralUptoRow.holds Tryz.pinned (OpenSpec.upto fnBufBooleanLiteralSpec)

/-- 'laws.FnBufIntegerLiteral', WHERE WHAT IT READS IS OF BULK AT MOST 1048576: true; the input reads as it did. -/
def fnBufIntegerLiteralUptoRow : OpenClaim := { program := "ytdljkanfebndaaagreatdoor", sum := "1228adcdd28333dd6685409c74a208f4bf9f256e7882e702704cc014fea8de51", func := "given.example/pub-brazing/laws.FnBufIntegerLiteral", spec := "fnBufIntegerLiteral", inPlace := ["math.Float64frombits", "math.archFloor", "math.Float64bits", "math.archTrunc"], unfollowed := true, recurses := true, named := ["unicode/utf8.first", "unicode/utf8.acceptRanges"], loops := true, apart := false, laid := [("unicode/utf8.acceptRanges", laid_unicode_utf8_acceptRanges), ("unicode/utf8.first", laid_unicode_utf8_first)], narrowed := true }
def FnBufIntegerLiteralUptoSaid : Prop := fnBufIntegerLiteralUptoRow.holds Tryz.pinned (OpenSpec.upto fnBufIntegerLiteralSpec)

/-- 'laws.FnBufNamedType', WHERE WHAT IT READS IS OF BULK AT MOST 1048576: true; the input reads as it did. -/
def fnBufNamedTypeUptoRow : OpenClaim := { program := "ytdljkanfebndaaagreatdoor", sum := "1228adcdd28333dd6685409c74a208f4bf9f256e7882e702704cc014fea8de51", func := "given.example/pub-brazing/laws.FnBufNamedType", spec := "fnBufNamedType", inPlace := ["math.Float64frombits", "math.archFloor", "math.Float64bits", "math.archTrunc"], unfollowed := true, recurses := true, named := ["unicode/utf8.first", "unicode/utf8.acceptRanges"], loops := true, apart := false, laid := [("unicode/utf8.acceptRanges", laid_unicode_utf8_acceptRanges), ("unicode/utf8.first", laid_unicode_utf8_first)], narrowed := true }
def FnBufNamedTypeUptoSaid : Prop := fnBufNamedTypeUptoRow.holds Tryz.pinned (OpenSpec.upto fnBufNamedTypeSpec)

/-- 'laws.FnBufPackageClause', WHERE WHAT IT READS IS OF BULK AT MOST 1048576: true; the input reads as it did. -/
def fnBufPackageClauseUptoRow : OpenClaim := { program := "ytdljkanfebndaaagreatdoor", sum := "1228adcdd28333dd6685409c74a208f4bf9f256e7882e702704cc014fea8de51", func := "given.example/pub-brazing/laws.FnBufPackageClause", spec := "fnBufPackageClause", inPlace := ["math.Float64frombits", "math.archFloor", "math.Float64bits", "math.archTrunc"], unfollowed := true, recurses := true, named := ["unicode/utf8.first", "unicode/utf8.acceptRanges"], loops := true, apart := false, laid := [("unicode/utf8.acceptRanges", laid_unicode_utf8_acceptRanges), ("unicode/utf8.first", laid_unicode_utf8_first)], narrowed := true }
def FnBufPackageClauseUptoSaid : Prop := fnBufPackageClauseUptoRow.holds Tryz.pinned (OpenSpec.upto fnBufPackageClauseSpec)

/-- 'laws.FnBufDateTimeLiteral', WHERE WHAT IT READS IS OF BULK AT MOST 1048576: true; the input reads as it did. -/
def fnBufDateTimeLiteralUptoRow : OpenClaim := { program := "ytdljkanfebndaaagreatdoor", sum := "1228adcdd28333dd6685409c74a208f4bf9f256e7882e702704cc014fea8de51", func := "given.example/pub-brazing/laws.FnBufDateTimeLiteral", spec := "fnBufDateTimeLiteral", inPlace := ["math.Float64frombits", "math.archFloor", "math.Float64bits", "math.archTrunc"], unfollowed := true, recurses := true, named := ["unicode/utf8.first", "unicode/utf8.acceptRanges"], loops := true, apart := false, laid := [("unicode/utf8.acceptRanges", laid_unicode_utf8_acceptRanges), ("unicode/utf8.first", laid_unicode_utf8_first)], narrowed := true }
def FnBufDateTimeLiteralUptoSaid : Prop := fnBufDateTimeLiteralUptoRow.holds Tryz.pinned (OpenSpec.upto fnBufDateTimeLiteralSpec)

/-- 'laws.FnBufTypeConstraint', WHERE WHAT IT READS IS OF BULK AT MOST 1048576: true; the input reads as it did. -/
def fnBufTypeConstraintUptoRow : OpenClaim := { program := "ytdljkanfebndaaagreatdoor", sum := "1228adcdd28333dd6685409c74a208f4bf9f256e7882e702704cc014fea8de51", func := "given.example/pub-brazing/laws.FnBufTypeConstraint", spec := "fnBufTypeConstraint", inPlace := ["math.Float64frombits", "math.archFloor", "math.Float64bits", "math.archTrunc"], unfollowed := true, recurses := true, named := ["unicode/utf8.first", "unicode/utf8.acceptRanges", "internal/strconv.uint64pow10", "math/bits.deBruijn32tab", "math/bits.deBruijn64tab"], loops := true, apart := false, laid := [("math/bits.deBruijn32tab", laid_math_bits_deBruijn32tab), ("math/bits.deBruijn64tab", laid_math_bits_deBruijn64tab), ("internal/strconv.uint64pow10", laid_internal_strconv_uint64pow10), ("unicode/utf8.acceptRanges", laid_unicode_utf8_acceptRanges), ("unicode/utf8.first", laid_unicode_utf8_first)], narrowed := true }
def FnBufTypeConstraintUptoSaid : Prop := fnBufTypeConstraintUptoRow.holds Tryz.pinned (OpenSpec.upto fnBufTypeConstraintSpec)

end Rows
end Go.Proofs.YtdljkanfebndaaaGreatDoor
