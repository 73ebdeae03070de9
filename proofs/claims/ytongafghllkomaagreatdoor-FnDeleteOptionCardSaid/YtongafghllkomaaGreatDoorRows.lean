/-
  NARROWER THAN 'FOR EVERY INPUT', by the rows' own cells (each row's printed sentence says how): FnTypeName: loops, laid · FnLiteral: loops, laid · FnDeleteOption: loops, laid · FnGetOption: loops, laid · FnDeleteProperty: loops, laid · FnGetProperty: loops, laid.
  DERIVED. THE GIVEN ROWS OF THIS SEAT. 6 by the template 'for every input the law returns true; each argument reads behind the call as it read before'; 0 by the template 'total and deterministic' (their statements: YtongafghllkomaaGreatDoorTotals.lean).
  GIVEN WITH THE SEED: the statements are not yours to turn. If you find one false, say at which input.
  Laid BY PROGRAM, IN A SANDBOX (cutbox-rows.mjs): the forced cells as the released guide's own fill.sh prints them over the translation fac4409d7083e80c… (all of the seat's roots in one cut). By AI agents, Wed Nov 11 2026. No macro, syntax, notation, axiom, sorry.
-/
import Derived.Test.YtongafghllkomaaGreatDoorChecked
import GoSem.PinnedTables
import GoSem.Claim
import GoSem.ClaimJoined
import GoSem.ClaimMapViews
import Derived.JoinedTies
import Derived.KernelRfl
namespace Go.Proofs.YtongafghllkomaaGreatDoor
/- THE CELL 'sum', in the pinned program and in every row, IS THE sha256 OF THE DUMP (.gsa) THAT YtongafghllkomaaGreatDoorProg.lean LOADS. Nothing in Lean hashes anything: it is a label: what it is worth is what the hold of that sum in a sandbox is worth. -/
noncomputable def Tryz.pinned : Pinned := { name := "ytongafghllkomaagreatdoor", sum := "fac4409d7083e80cb60cadfd8753c99a4d88e305534bde40cc55b260015eefcf", checked := Tryz.checked }
namespace Rows
def none {H : Type} : Left H := { results := [], args := [] }

/- WHAT THE LISTED PACKAGE-LEVEL VARIABLES READ AS WHEN THE CALL BEGINS. Each datum BY PROGRAM (the guide's laid-datum.mjs) off the statement by which the dump's own 'gosem.cut.vars' lays the variable. In a bare row this is a premise. The card (YtongafghllkomaaGreatDoorCards.lean) ties it to the program's text. -/
def laid_unicode_utf8_acceptRanges {H : Type} : DataW H := .agg [.agg [.lit (.int .u8 128), .lit (.int .u8 191)], .agg [.lit (.int .u8 160), .lit (.int .u8 191)], .agg [.lit (.int .u8 128), .lit (.int .u8 159)], .agg [.lit (.int .u8 144), .lit (.int .u8 191)], .agg [.lit (.int .u8 128), .lit (.int .u8 143)], .agg [.lit (.int .u8 0), .lit (.int .u8 0)], .agg [.lit (.int .u8 0), .lit (.int .u8 0)], .agg [.lit (.int .u8 0), .lit (.int .u8 0)], .agg [.lit (.int .u8 0), .lit (.int .u8 0)], .agg [.lit (.int .u8 0), .lit (.int .u8 0)], .agg [.lit (.int .u8 0), .lit (.int .u8 0)], .agg [.lit (.int .u8 0), .lit (.int .u8 0)], .agg [.lit (.int .u8 0), .lit (.int .u8 0)], .agg [.lit (.int .u8 0), .lit (.int .u8 0)], .agg [.lit (.int .u8 0), .lit (.int .u8 0)], .agg [.lit (.int .u8 0), .lit (.int .u8 0)]]
/-- One of Go's own tables, pinned by name: the form's constant. -/
def laid_unicode_utf8_first : DataW Unit := Go.Pinned.utf8First

/-- 'laws.FnTypeName': WHATEVER THE INPUT: true; the input reads as it did. -/
def fnTypeNameSpec : ChangeSpec := { name := "fnTypeName", fn := fun _ => fun
  | [d] => { results := [.lit (.bool true)], args := [d] }
  | _ => none }
def fnTypeNameRow : OpenClaim := { program := "ytongafghllkomaagreatdoor", sum := "fac4409d7083e80cb60cadfd8753c99a4d88e305534bde40cc55b260015eefcf", func := "given.example/pub-brazing/laws.FnTypeName", spec := "fnTypeName", inPlace := ["math.Float64frombits", "math.archFloor", "math.Float64bits", "math.archTrunc"], unfollowed := true, recurses := true, named := ["unicode/utf8.first", "unicode/utf8.acceptRanges"], loops := true, apart := false, laid := [("unicode/utf8.acceptRanges", laid_unicode_utf8_acceptRanges), ("unicode/utf8.first", laid_unicode_utf8_first)] }
def FnTypeNameSaid : Prop := fnTypeNameRow.holds Tryz.pinned (OpenSpec.ofChange fnTypeNameSpec)

/-- ITS FALSE NEIGHBOUR: 'it returns false'. Refute it at one input. -/
def fnTypeNameWrong : ChangeSpec := { name := "fnTypeName", fn := fun _ => fun
  | [d] => { results := [.lit (.bool false)], args := [d] }
  | _ => none }
def FnTypeNameWrongFalsely : Prop := fnTypeNameRow.holds Tryz.pinned (OpenSpec.ofChange fnTypeNameWrong)

/-- 'laws.FnLiteral': WHATEVER THE INPUT: true; the input reads as it did. -/
def fnLiteralSpec : ChangeSpec := { name := "fnLiteral", fn := fun _ => fun
  | [d] => { results := [.lit (.bool true)], args := [d] }
  | _ => none }
def fnLiteralRow : OpenClaim := { program := "ytongafghllkomaagreatdoor", sum := "fac4409d7083e80cb60cadfd8753c99a4d88e305534bde40cc55b260015eefcf", func := "given.example/pub-brazing/laws.FnLiteral", spec := "fnLiteral", inPlace := ["math.Float64frombits", "math.Float64bits"], unfollowed := true, recurses := true, named := ["unicode/utf8.first", "unicode/utf8.acceptRanges"], loops := true, apart := false, laid := [("unicode/utf8.acceptRanges", laid_unicode_utf8_acceptRanges), ("unicode/utf8.first", laid_unicode_utf8_first)] }
def FnLiteralSaid : Prop := fnLiteralRow.holds Tryz.pinned (OpenSpec.ofChange fnLiteralSpec)

/-- ITS FALSE NEIGHBOUR: 'it returns false'. Refute it at one input. -/
def fnLiteralWrong : ChangeSpec := { name := "fnLiteral", fn := fun _ => fun
  | [d] => { results := [.lit (.bool false)], args := [d] }
  | _ => none }
def FnLiteralWrongFalsely : Prop := fnLiteralRow.holds Tryz.pinned (OpenSpec.ofChange fnLiteralWrong)

/-- 'laws.FnDeleteOption': WHATEVER THE INPUT: true; the input reads as it did. -/
def fnDeleteOptionSpec : ChangeSpec := { name := "fnDeleteOption", fn := fun _ => fun
  | [d1, d2] => { results := [.lit (.bool true)], args := [d1, d2] }
  | _ => none }
def fnDeleteOptionRow : OpenClaim := { program := "ytongafghllkomaagreatdoor", sum := "fac4409d7083e80cb60cadfd8753c99a4d88e305534bde40cc55b260015eefcf", func := "given.example/pub-brazing/laws.FnDeleteOption", spec := "fnDeleteOption", inPlace := ["math.Float64frombits", "math.Float64bits", "math.archFloor", "math.archTrunc"], recurses := true, named := ["unicode/utf8.first", "unicode/utf8.acceptRanges"], loops := true, apart := false, laid := [("unicode/utf8.acceptRanges", laid_unicode_utf8_acceptRanges), ("unicode/utf8.first", laid_unicode_utf8_first)] }
def FnDeleteOptionSaid : Prop := fnDeleteOptionRow.holds Tryz.pinned (OpenSpec.ofChange fnDeleteOptionSpec)

/-- ITS FALSE NEIGHBOUR: 'it returns false'. Refute it at one input. -/
def fnDeleteOptionWrong : ChangeSpec := { name := "fnDeleteOption", fn := fun _ => fun
  | [d1, d2] => { results := [.lit (.bool false)], args := [d1, d2] }
  | _ => none }
def FnDeleteOptionWrongFalsely : Prop := fnDeleteOptionRow.holds Tryz.pinned (OpenSpec.ofChange fnDeleteOptionWrong)

/-- 'laws.FnGetOption': WHATEVER THE INPUT: true; the input reads as it did. -/
def fnGetOptionSpec : ChangeSpec := { name := "fnGetOption", fn := fun _ => fun
  | [d1, d2] => { results := [.lit (.bool true)], args := [d1, d2] }
  | _ => none }
def fnGetOptionRow : OpenClaim := { program := "ytongafghllkomaagreatdoor", sum := "fac4409d7083e80cb60cadfd8753c99a4d88e305534bde40cc55b260015eefcf", func := "given.example/pub-brazing/laws.FnGetOption", spec := "fnGetOption", inPlace := ["math.Float64frombits", "math.Float64bits", "math.archFloor", "math.archTrunc"], recurses := true, named := ["unicode/utf8.first", "unicode/utf8.acceptRanges"], loops := true, apart := false, laid := [("unicode/utf8.acceptRanges", laid_unicode_utf8_acceptRanges), ("unicode/utf8.first", laid_unicode_utf8_first)] }
def FnGetOptionSaid : Prop := fnGetOptionRow.holds Tryz.pinned (OpenSpec.ofChange fnGetOptionSpec)

/-- ITS FALSE NEIGHBOUR: 'it returns false'. Refute it at one input. -/
def fnGetOptionWrong : ChangeSpec := { name := "fnGetOption", fn := fun _ => fun
  | [d1, d2] => { results := [.lit (.bool false)], args := [d1, d2] }
  | _ => none }
def FnGetOptionWrongFalsely : Prop := fnGetOptionRow.holds Tryz.pinned (OpenSpec.ofChange fnGetOptionWrong)

/-- 'laws.FnDeleteProperty': WHATEVER THE INPUT: true; the input reads as it did. -/
def fnDeletePropertySpec : ChangeSpec := { name := "fnDeleteProperty", fn := fun _ => fun
  | [d1, d2] => { results := [.lit (.bool true)], args := [d1, d2] }
  | _ => none }
def fnDeletePropertyRow : OpenClaim := { program := "ytongafghllkomaagreatdoor", sum := "fac4409d7083e80cb60cadfd8753c99a4d88e305534bde40cc55b260015eefcf", func := "given.example/pub-brazing/laws.FnDeleteProperty", spec := "fnDeleteProperty", inPlace := ["math.Float64frombits", "math.Float64bits", "math.archFloor", "math.archTrunc"], unfollowed := true, recurses := true, named := ["unicode/utf8.first", "unicode/utf8.acceptRanges"], loops := true, apart := false, laid := [("unicode/utf8.acceptRanges", laid_unicode_utf8_acceptRanges), ("unicode/utf8.first", laid_unicode_utf8_first)] }
def FnDeletePropertySaid : Prop := fnDeletePropertyRow.holds Tryz.pinned (OpenSpec.ofChange fnDeletePropertySpec)

/-- ITS FALSE NEIGHBOUR: 'it returns false'. Refute it at one input. -/
def fnDeletePropertyWrong : ChangeSpec := { name := "fnDeleteProperty", fn := fun _ => fun
  | [d1, d2] => { results := [.lit (.bool false)], args := [d1, d2] }
  | _ => none }
def FnDeletePropertyWrongFalsely : Prop := fnDeletePropertyRow.holds Tryz.pinned (OpenSpec.ofChange fnDeletePropertyWrong)

/-- 'laws.FnGetProperty': WHATEVER THE INPUT: true; the input reads as it did. -/
def fnGetPropertySpec : ChangeSpec := { name := "fnGetProperty", fn := fun _ => fun
  | [d1, d2] => { results := [.lit (.bool true)], args := [d1, d2] }
  | _ => none }
def fnGetPropertyRow : OpenClaim := { program := "ytongafghllkomaagreatdoor", sum := "fac4409d7083e80cb60cadfd8753c99a4d88e305534bde40cc55b260015eefcf", func := "given.example/pub-brazing/laws.FnGetProperty", spec := "fnGetProperty", inPlace := ["math.Float64frombits", "math.Float64bits", "math.archFloor", "math.archTrunc"], unfollowed := true, recurses := true, named := ["unicode/utf8.first", "unicode/utf8.acceptRanges"], loops := true, apart := false, laid := [("unicode/utf8.acceptRanges", laid_unicode_utf8_acceptRanges), ("unicode/utf8.first", laid_unicode_utf8_first)] }
def FnGetPropertySaid : Prop := fnGetPropertyRow.holds Tryz.pinned (OpenSpec.ofChange fnGetPropertySpec)

/-- ITS FALSE NEIGHBOUR: 'it returns false'. Refute it at one input. -/
def fnGetPropertyWrong : ChangeSpec := { name := "fnGetProperty", fn := fun _ => fun
  | [d1, d2] => { results := [.lit (.bool false)], args := [d1, d2] }
  | _ => none }
def FnGetPropertyWrongFalsely : Prop := fnGetPropertyRow.holds Tryz.pinned (OpenSpec.ofChange fnGetPropertyWrong)

/- THE SECOND FORM. 'bulk': how many values and letters a reading holds, each counted each time it is reached (what is shared counts as often as it is met; a slice's spare places count too). A statement '..UptoSaid' is the law's where the arguments, and the package variables that the reading takes, are together of bulk at most 1048576: NARROWER than '..Said'. Prove '..Said' where nothing that the law and all that it calls make is longer than what came in: it says more and counts as full. Else prove '..UptoSaid'. A law counts once. -/
mutual
def uptoBulk {H : Type} : DataW H → Nat
  | .lit (.string bytes) => bytes.length + 1
  | .lit _ => 1
  | .nil => 1
  | .ptr d => uptoBulk d + 1
  | .slice elems spare => uptoBulkAll elems + uptoBulkAll spare + 1
  | .agg parts => uptoBulkAll parts + 1
  | .iface _ d => uptoBulk d + 1
  | .map entries => uptoBulkEntries entries + 1
  | .held _ => 1
def uptoBulkAll {H : Type} : List (DataW H) → Nat
  | [] => 0
  | d :: r => uptoBulk d + uptoBulkAll r
def uptoBulkEntries {H : Type} : List (Lit × DataW H) → Nat
  | [] => 0
  | x :: r => uptoBulkEntry x + uptoBulkEntries r
def uptoBulkEntry {H : Type} : Lit × DataW H → Nat
  | (.string bytes, d) => bytes.length + uptoBulk d + 1
  | (_, d) => uptoBulk d + 1
 end
def uptoSmall : (H : Type) → List (DataW H) → Bool := fun _ ds => decide (uptoBulkAll ds ≤ 1048576)
def OpenSpec.upto (s : _root_.Go.ChangeSpec) : _root_.Go.OpenSpec := { _root_.Go.OpenSpec.ofChange s with cond := some uptoSmall }

/-- 'laws.FnTypeName', WHERE WHAT IT READS IS OF BULK AT MOST 1048576: true; the input reads as it did. -/
def fnTypeNameUptoRow : OpenClaim := { program := "ytongafghllkomaagreatdoor", sum := "fac4409d7083e80cb60cadfd8753c99a4d88e305534bde40cc55b260015eefcf", func := "given.example/pub-brazing/laws.FnTypeName", spec := "fnTypeName", inPlace := ["math.Float64frombits", "math.archFloor", "math.Float64bits", "math.archTrunc"], unfollowed := true, recurses := true, named := ["unicode/utf8.first", "unicode/utf8.acceptRanges"], loops := true, apart := false, laid := [("unicode/utf8.acceptRanges", laid_unicode_utf8_acceptRanges), ("unicode/utf8.first", laid_unicode_utf8_first)], narrowed := true }
def FnTypeNameUptoSaid : Prop := fnTypeNameUptoRow.holds Tryz.pinned (OpenSpec.upto fnTypeNameSpec)

/-- 'laws.FnLiteral', WHERE WHAT IT READS IS OF BULK AT MOST 1048576: true; the input reads as it did. -/
def fnLiteralUptoRow : OpenClaim := { program := "ytongafghllkomaagreatdoor", sum := "fac4409d7083e80cb60cadfd8753c99a4d88e305534bde40cc55b260015eefcf", func := "given.example/pub-brazing/laws.FnLiteral", spec := "fnLiteral", inPlace := ["math.Float64frombits", "math.Float64bits"], unfollowed := true, recurses := true, named := ["unicode/utf8.first", "unicode/utf8.acceptRanges"], loops := true, apart := false, laid := [("unicode/utf8.acceptRanges", laid_unicode_utf8_acceptRanges), ("unicode/utf8.first", laid_unicode_utf8_first)], narrowed := true }
def FnLiteralUptoSaid : Prop := fnLiteralUptoRow.holds Tryz.pinned (OpenSpec.upto fnLiteralSpec)

/-- 'laws.FnDeleteOption', WHERE WHAT IT READS IS OF BULK AT MOST 1048576: true; the input reads as it did. -/
def fnDeleteOptionUptoRow : OpenClaim := { program := "ytongafghllkomaagreatdoor", sum := "fac4409d7083e80cb60cadfd8753c99a4d88e305534bde40cc55b260015eefcf", func := "given.example/pub-brazing/laws.FnDeleteOption", spec := "fnDeleteOption", inPlace := ["math.Float64frombits", "math.Float64bits", "math.archFloor", "math.archTrunc"], recurses := true, named := ["unicode/utf8.first", "unicode/utf8.acceptRanges"], loops := true, apart := false, laid := [("unicode/utf8.acceptRanges", laid_unicode_utf8_acceptRanges), ("unicode/utf8.first", laid_unicode_utf8_first)], narrowed := true }
def FnDeleteOptionUptoSaid : Prop := fnDeleteOptionUptoRow.holds Tryz.pinned (OpenSpec.upto fnDeleteOptionSpec)

/-- 'laws.FnGetOption', WHERE WHAT IT READS IS OF BULK AT MOST 1048576: true; the input reads as it did. -/
def fnGetOptionUptoRow : OpenClaim := { program := "ytongafghllkomaagreatdoor", sum := "fac4409d7083e80cb60cadfd8753c99a4d88e305534bde40cc55b260015eefcf", func := "given.example/pub-brazing/laws.FnGetOption", spec := "fnGetOption", inPlace := ["math.Float64frombits", "math.Float64bits", "math.archFloor", "math.archTrunc"], recurses := true, named := ["unicode/utf8.first", "unicode/utf8.acceptRanges"], loops := true, apart := false, laid := [("unicode/utf8.acceptRanges", laid_unicode_utf8_acceptRanges), ("unicode/utf8.first", laid_unicode_utf8_first)], narrowed := true }
def FnGetOptionUptoSaid : Prop := fnGetOptionUptoRow.holds Tryz.pinned (OpenSpec.upto fnGetOptionSpec)

/-- 'laws.FnDeleteProperty', WHERE WHAT IT READS IS OF BULK AT MOST 1048576: true; the input reads as it did. -/
def fnDeletePropertyUptoRow : OpenClaim := { program := "ytongafghllkomaagreatdoor", sum := "fac4409d7083e80cb60cadfd8753c99a4d88e305534bde40cc55b260015eefcf", func := "given.example/pub-brazing/laws.FnDeleteProperty", spec := "fnDeleteProperty", inPlace := ["math.Float64frombits", "math.Float64bits", "math.archFloor", "math.archTrunc"], unfollowed := true, recurses := true, named := ["unicode/utf8.first", "unicode/utf8.acceptRanges"], loops := true, apart := false, laid := [("unicode/utf8.acceptRanges", laid_unicode_utf8_acceptRanges), ("unicode/utf8.first", laid_unicode_utf8_first)], narrowed := true }
def FnDeletePropertyUptoSaid : Prop := fnDeletePropertyUptoRow.holds Tryz.pinned (OpenSpec.upto fnDeletePropertySpec)

/-- 'laws.FnGetProperty', WHERE WHAT IT READS IS OF BULK AT MOST 1048576: true; the input reads as it did. -/
def fnGetPropertyUptoRow : OpenClaim := { program := "ytongafghllkomaagreatdoor", sum := "fac4409d7083e80cb60cadfd8753c99a4d88e305534bde40cc55b260015eefcf", func := "given.example/pub-brazing/laws.FnGetProperty", spec := "fnGetProperty", inPlace := ["math.Float64frombits", "math.Float64bits", "math.archFloor", "math.archTrunc"], unfollowed := true, recurses := true, named := ["unicode/utf8.first", "unicode/utf8.acceptRanges"], loops := true, apart := false, laid := [("unicode/utf8.acceptRanges", laid_unicode_utf8_acceptRanges), ("unicode/utf8.first", laid_unicode_utf8_first)], narrowed := true }
def FnGetPropertyUptoSaid : Prop := fnGetPropertyUptoRow.holds Tryz.pinned (OpenSpec.upto fnGetPropertySpec)

end Rows
end Go.Proofs.YtongafghllkomaaGreatDoor
