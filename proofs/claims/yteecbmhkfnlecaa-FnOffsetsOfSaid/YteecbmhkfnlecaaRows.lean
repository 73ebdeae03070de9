/-
  No cell of these rows narrows 'for every input' (looked for: loops, veiled, ifaces, maps, wideKeys, modest, calm, conditions, laid).
  DERIVED. THE GIVEN ROWS OF THIS SEAT. 6 by the template 'for every input the law returns true; each argument reads behind the call as it read before'; 0 by the template 'total and deterministic' (their statements: YteecbmhkfnlecaaTotals.lean).
  GIVEN WITH THE SEED: the statements are not yours to turn. If you find one false, say at which input.
  Laid BY PROGRAM, IN A SANDBOX (cutbox-rows.mjs): the forced cells as the released guide's own fill.sh prints them over the translation 44a3e0f895969846… (all of the seat's roots in one cut). By AI agents, Wed Nov 11 2026. No macro, syntax, notation, axiom, sorry.
-/
import Derived.Test.YteecbmhkfnlecaaChecked
import GoSem.Claim
import GoSem.ClaimJoined
import GoSem.ClaimMapViews
import Derived.JoinedTies
import Derived.KernelRfl
namespace Go.Proofs.Yteecbmhkfnlecaa
/- THE CELL 'sum', in the pinned program and in every row, IS THE sha256 OF THE DUMP (.gsa) THAT YteecbmhkfnlecaaProg.lean LOADS. Nothing in Lean hashes anything: it is a label: what it is worth is what the hold of that sum in a sandbox is worth. -/
noncomputable def Try.pinned : Pinned := { name := "yteecbmhkfnlecaa", sum := "44a3e0f8959698469fbdbba98a881ebf6a06ba36e29bd7f5cab61c6cf683bbd2", checked := Try.checked }
namespace Rows
def none {H : Type} : Left H := { results := [], args := [] }

/-- 'laws.FnParenthesized': WHATEVER THE INPUT: true; the input reads as it did. -/
def fnParenthesizedSpec : ChangeSpec := { name := "fnParenthesized", fn := fun _ => fun
  | [d1, d2, d3] => { results := [.lit (.bool true)], args := [d1, d2, d3] }
  | _ => none }
def fnParenthesizedRow : OpenClaim := { program := "yteecbmhkfnlecaa", sum := "44a3e0f8959698469fbdbba98a881ebf6a06ba36e29bd7f5cab61c6cf683bbd2", func := "given.example/pub-brazing/laws.FnParenthesized", spec := "fnParenthesized", apart := false }
def FnParenthesizedSaid : Prop := fnParenthesizedRow.holds Try.pinned (OpenSpec.ofChange fnParenthesizedSpec)

/-- ITS FALSE NEIGHBOUR: 'it returns false'. Refute it at one input. -/
def fnParenthesizedWrong : ChangeSpec := { name := "fnParenthesized", fn := fun _ => fun
  | [d1, d2, d3] => { results := [.lit (.bool false)], args := [d1, d2, d3] }
  | _ => none }
def FnParenthesizedWrongFalsely : Prop := fnParenthesizedRow.holds Try.pinned (OpenSpec.ofChange fnParenthesizedWrong)

/-- 'laws.FnPlaceLess': WHATEVER THE INPUT: true; the input reads as it did. -/
def fnPlaceLessSpec : ChangeSpec := { name := "fnPlaceLess", fn := fun _ => fun
  | [d1, d2] => { results := [.lit (.bool true)], args := [d1, d2] }
  | _ => none }
def fnPlaceLessRow : OpenClaim := { program := "yteecbmhkfnlecaa", sum := "44a3e0f8959698469fbdbba98a881ebf6a06ba36e29bd7f5cab61c6cf683bbd2", func := "given.example/pub-brazing/laws.FnPlaceLess", spec := "fnPlaceLess", apart := false }
def FnPlaceLessSaid : Prop := fnPlaceLessRow.holds Try.pinned (OpenSpec.ofChange fnPlaceLessSpec)

/-- ITS FALSE NEIGHBOUR: 'it returns false'. Refute it at one input. -/
def fnPlaceLessWrong : ChangeSpec := { name := "fnPlaceLess", fn := fun _ => fun
  | [d1, d2] => { results := [.lit (.bool false)], args := [d1, d2] }
  | _ => none }
def FnPlaceLessWrongFalsely : Prop := fnPlaceLessRow.holds Try.pinned (OpenSpec.ofChange fnPlaceLessWrong)

/-- 'laws.FnSpanValid': WHATEVER THE INPUT: true; the input reads as it did. -/
def fnSpanValidSpec : ChangeSpec := { name := "fnSpanValid", fn := fun _ => fun
  | [d] => { results := [.lit (.bool true)], args := [d] }
  | _ => none }
def fnSpanValidRow : OpenClaim := { program := "yteecbmhkfnlecaa", sum := "44a3e0f8959698469fbdbba98a881ebf6a06ba36e29bd7f5cab61c6cf683bbd2", func := "given.example/pub-brazing/laws.FnSpanValid", spec := "fnSpanValid", apart := false }
def FnSpanValidSaid : Prop := fnSpanValidRow.holds Try.pinned (OpenSpec.ofChange fnSpanValidSpec)

/-- ITS FALSE NEIGHBOUR: 'it returns false'. Refute it at one input. -/
def fnSpanValidWrong : ChangeSpec := { name := "fnSpanValid", fn := fun _ => fun
  | [d] => { results := [.lit (.bool false)], args := [d] }
  | _ => none }
def FnSpanValidWrongFalsely : Prop := fnSpanValidRow.holds Try.pinned (OpenSpec.ofChange fnSpanValidWrong)

/-- 'laws.FnOffsetsOf': WHATEVER THE INPUT: true; the input reads as it did. -/
def fnOffsetsOfSpec : ChangeSpec := { name := "fnOffsetsOf", fn := fun _ => fun
  | [d1, d2] => { results := [.lit (.bool true)], args := [d1, d2] }
  | _ => none }
def fnOffsetsOfRow : OpenClaim := { program := "yteecbmhkfnlecaa", sum := "44a3e0f8959698469fbdbba98a881ebf6a06ba36e29bd7f5cab61c6cf683bbd2", func := "given.example/pub-brazing/laws.FnOffsetsOf", spec := "fnOffsetsOf", apart := false }
def FnOffsetsOfSaid : Prop := fnOffsetsOfRow.holds Try.pinned (OpenSpec.ofChange fnOffsetsOfSpec)

/-- ITS FALSE NEIGHBOUR: 'it returns false'. Refute it at one input. -/
def fnOffsetsOfWrong : ChangeSpec := { name := "fnOffsetsOf", fn := fun _ => fun
  | [d1, d2] => { results := [.lit (.bool false)], args := [d1, d2] }
  | _ => none }
def FnOffsetsOfWrongFalsely : Prop := fnOffsetsOfRow.holds Try.pinned (OpenSpec.ofChange fnOffsetsOfWrong)

/-- 'laws.FnFormatBoolean': WHATEVER THE INPUT: true; the input reads as it did. -/
def fnFormatBooleanSpec : ChangeSpec := { name := "fnFormatBoolean", fn := fun _ => fun
  | [d] => { results := [.lit (.bool true)], args := [d] }
  | _ => none }
def fnFormatBooleanRow : OpenClaim := { program := "yteecbmhkfnlecaa", sum := "44a3e0f8959698469fbdbba98a881ebf6a06ba36e29bd7f5cab61c6cf683bbd2", func := "given.example/pub-brazing/laws.FnFormatBoolean", spec := "fnFormatBoolean", inPlace := ["internal/abi.NoEscape"], unfollowed := true, recurses := true, apart := false }
def FnFormatBooleanSaid : Prop := fnFormatBooleanRow.holds Try.pinned (OpenSpec.ofChange fnFormatBooleanSpec)

/-- ITS FALSE NEIGHBOUR: 'it returns false'. Refute it at one input. -/
def fnFormatBooleanWrong : ChangeSpec := { name := "fnFormatBoolean", fn := fun _ => fun
  | [d] => { results := [.lit (.bool false)], args := [d] }
  | _ => none }
def FnFormatBooleanWrongFalsely : Prop := fnFormatBooleanRow.holds Try.pinned (OpenSpec.ofChange fnFormatBooleanWrong)

/-- 'laws.FnOperator': WHATEVER THE INPUT: true; the input reads as it did. -/
def fnOperatorSpec : ChangeSpec := { name := "fnOperator", fn := fun _ => fun
  | [d1, d2] => { results := [.lit (.bool true)], args := [d1, d2] }
  | _ => none }
def fnOperatorRow : OpenClaim := { program := "yteecbmhkfnlecaa", sum := "44a3e0f8959698469fbdbba98a881ebf6a06ba36e29bd7f5cab61c6cf683bbd2", func := "given.example/pub-brazing/laws.FnOperator", spec := "fnOperator", apart := false }
def FnOperatorSaid : Prop := fnOperatorRow.holds Try.pinned (OpenSpec.ofChange fnOperatorSpec)

/-- ITS FALSE NEIGHBOUR: 'it returns false'. Refute it at one input. -/
def fnOperatorWrong : ChangeSpec := { name := "fnOperator", fn := fun _ => fun
  | [d1, d2] => { results := [.lit (.bool false)], args := [d1, d2] }
  | _ => none }
def FnOperatorWrongFalsely : Prop := fnOperatorRow.holds Try.pinned (OpenSpec.ofChange fnOperatorWrong)

/- THE SECOND FORM. 'bulk': how many values and letters a reading holds, each counted each time it is reached (what is shared counts as often as it is met; a slice's spare places count too). A statement '..UptoSaid' is the law's where the arguments, and the package variables that the reading takes, are together of bulk at most 1048576: NARROWER than '..Said'. Prove '..Said' where nothing that the law and all that it calls make is longer than what came in: it says more and counts as full. Else prove '..UptoSaid'. A law counts once. -/
mutual
def uptoBulk {H : Type} : DataW H → Nat
  | .lit (.string bytes) => bytes.length + 1
  | .lit _ => 1
  | .nil => 1
  | .ptr d => uptoBulk d + 1
  | .slice elems spare => uptoBulkAll elems + uptoBulkAll spare + 1
  | .agg parts => uptoBulkAll parts + 1
  | .iface _ d => uptoBulk d + 1
  | .map entries => uptoBulkEntries entries + 1
  | .held _ => 1
def uptoBulkAll {H : Type} : List (DataW H) → Nat
  | [] => 0
  | d :: r => uptoBulk d + uptoBulkAll r
def uptoBulkEntries {H : Type} : List (Lit × DataW H) → Nat
  | [] => 0
  | x :: r => uptoBulkEntry x + uptoBulkEntries r
def uptoBulkEntry {H : Type} : Lit × DataW H → Nat
  | (.string bytes, d) => bytes.length + uptoBulk d + 1
  | (_, d) => uptoBulk d + 1
 end
def uptoSmall : (H : Type) → List (DataW H) → Bool := fun _ ds => decide (uptoBulkAll ds ≤ 1048576)
def OpenSpec.upto (s : _root_.Go.ChangeSpec) : _root_.Go.OpenSpec := { _root_.Go.OpenSpec.ofChange s with cond := some uptoSmall }

/-- 'laws.FnParenthesized', WHERE WHAT IT READS IS OF BULK AT MOST 1048576: true; the input reads as it did. -/
def fnParenthesizedUptoRow : OpenClaim := { program := "yteecbmhkfnlecaa", sum := "44a3e0f8959698469fbdbba98a881ebf6a06ba36e29bd7f5cab61c6cf683bbd2", func := "given.example/pub-brazing/laws.FnParenthesized", spec := "fnParenthesized", apart := false, narrowed := true }
def FnParenthesizedUptoSaid : Prop := fnParenthesizedUptoRow.holds Try.pinned (OpenSpec.upto fnParenthesizedSpec)

/-- 'laws.FnPlaceLess', WHERE WHAT IT READS IS OF BULK AT MOST 1048576: true; the input reads as it did. -/
def fnPlaceLessUptoRow : OpenClaim := { program := "yteecbmhkfnlecaa", sum := "44a3e0f8959698469fbdbba98a881ebf6a06ba36e29bd7f5cab61c6cf683bbd2", func := "given.example/pub-brazing/laws.FnPlaceLess", spec := "fnPlaceLess", apart := false, narrowed := true }
def FnPlaceLessUptoSaid : Prop := fnPlaceLessUptoRow.holds Try.pinned (OpenSpec.upto fnPlaceLessSpec)

/-- 'laws.FnSpanValid', WHERE WHAT IT READS IS OF BULK AT MOST 1048576: true; the input reads as it did. -/
def fnSpanValidUptoRow : OpenClaim := { program := "yteecbmhkfnlecaa", sum := "44a3e0f8959698469fbdbba98a881ebf6a06ba36e29bd7f5cab61c6cf683bbd2", func := "given.example/pub-brazing/laws.FnSpanValid", spec := "fnSpanValid", apart := false, narrowed := true }
def FnSpanValidUptoSaid : Prop := fnSpanValidUptoRow.holds Try.pinned (OpenSpec.upto fnSpanValidSpec)

/-- 'laws.FnOffsetsOf', WHERE WHAT IT READS IS OF BULK AT MOST 1048576: true; the input reads as it did. -/
def fnOffsetsOfUptoRow : OpenClaim := { program := "yteecbmhkfnlecaa", sum := "44a3e0f8959698469fbdbba98a881ebf6a06ba36e29bd7f5cab61c6cf683bbd2", func := "given.example/pub-brazing/laws.FnOffsetsOf", spec := "fnOffsetsOf", apart := false, narrowed := true }
def FnOffsetsOfUptoSaid : Prop := fnOffsetsOfUptoRow.holds Try.pinned (OpenSpec.upto fnOffsetsOfSpec)

/-- 'laws.FnFormatBoolean', WHERE WHAT IT READS IS OF BULK AT MOST 1048576: true; the input reads as it did. -/
def fnFormatBooleanUptoRow : OpenClaim := { program := "yteecbmhkfnlecaa", sum := "44a3e0f8959698469fbdbba98a881ebf6a06ba36e29bd7f5cab61c6cf683bbd2", func := "given.example/pub-brazing/laws.FnFormatBoolean", spec := "fnFormatBoolean", inPlace := ["internal/abi.NoEscape"], unfollowed := true, recurses := true, apart := false, narrowed := true }
def FnFormatBooleanUptoSaid : Prop := fnFormatBooleanUptoRow.holds Try.pinned (OpenSpec.upto fnFormatBooleanSpec)

/-- 'laws.FnOperator', WHERE WHAT IT READS IS OF BULK AT MOST 1048576: true; the input reads as it did. -/
def fnOperatorUptoRow : OpenClaim := { program := "yteecbmhkfnlecaa", sum := "44a3e0f8959698469fbdbba98a881ebf6a06ba36e29bd7f5cab61c6cf683bbd2", func := "given.example/pub-brazing/laws.FnOperator", spec := "fnOperator", apart := false, narrowed := true }
def FnOperatorUptoSaid : Prop := fnOperatorUptoRow.holds Try.pinned (OpenSpec.upto fnOperatorSpec)

end Rows
end Go.Proofs.Yteecbmhkfnlecaa
