/-
  What stands in which node: the classes, the shapes, and the trees that fit, in plain terms. No conditions.
-/
import Derived.Test.YteecbmhkfnlecaaGreatDoorNd
namespace Go.Proofs.YteecbmhkfnlecaaGreatDoor
open Go.RowKit
set_option linter.unusedVariables false

def isExprB (k : Int) : Bool := decide (16 ≤ k) && decide (k ≤ 43) && !(k == 29) && !(k == 31) && !(k == 32) && !(k == 40)
def isStmtB (k : Int) : Bool := decide (7 ≤ k) && decide (k ≤ 15)
def isTypeB (k : Int) : Bool := (k == 45) || (k == 46) || (k == 47) || (k == 48) || (k == 49) || (k == 51)

/-- What a table has at a number. -/
def lookT (t : List (Int × List Int)) (c : Int) : List Int := t.foldl (fun acc p => if p.1 = c then p.2 else acc) []
def lookI (t : List (Int × Int)) (c : Int) : Int := t.foldl (fun acc p => if p.1 = c then p.2 else acc) 0

/-- The kinds of a class that has few. -/
def classTab : List (Int × List Int) := [(3, [33]), (4, [33, 0]), (5, [34, 0]), (6, [33, 34]), (9, [16]), (10, [28]), (11, [10]), (12, [10, 11]), (13, [17]), (14, [6]), (15, [34]), (19, [4, 0]), (20, [3]), (21, [29]), (22, [31, 32]), (23, [40]), (24, [44]), (25, [50]), (26, [52]), (27, [53])]
def classL (c : Int) : List Int := lookT classTab c

/-- A node is of a class. -/
def ofClassB (n : Nd) (c : Int) : Bool :=
  if c = 0 then isExprB n.kind else if c = 1 then isStmtB n.kind else if c = 2 then isTypeB n.kind
  else if c = 7 then (n.kind == 6) || isExprB n.kind else if c = 8 then (n.kind == 0) || isExprB n.kind
  else if c = 16 then (n.kind == 1) && n.kids.all (fun x => [(29 : Int)].contains x.kind)
  else if c = 17 then (n.kind == 1) && n.kids.all (fun x => x.kind == 5)
  else if c = 18 then (n.kind == 1) && n.kids.all (fun x => isStmtB x.kind)
  else (classL c).contains n.kind

/-- The classes of what stands in nodes of a kind, and of what may follow. -/
def fixedTab : List (Int × List Int) := [(3, [19, 17, 18]), (4, [3]), (5, [4, 15]), (8, [0]), (9, [0]), (10, [3, 0]), (11, [13, 0]), (12, [12]), (13, [3, 24]), (14, [11]), (15, [3, 5, 14]), (16, [0]), (17, [0, 6]), (18, [0, 0]), (19, [0, 9]), (20, [16, 7]), (21, [0, 0]), (22, [0]), (23, [0, 0]), (24, [0, 0, 0]), (25, [0]), (28, [4]), (29, [6, 8]), (32, [0]), (44, [2]), (45, [3]), (46, [3]), (47, [2]), (48, [2, 2]), (49, [4]), (50, [3, 2]), (51, [2]), (52, [4, 2]), (53, [3])]
def restTab : List (Int × Int) := [(2, 21), (6, 2), (16, 1), (26, 1), (27, 1), (28, 22), (30, 23), (39, 24), (44, 28), (49, 26), (51, 27), (53, 4)]
def fixedL (k : Int) : List Int := lookT fixedTab k
def restL (k : Int) : Int := if lookI restTab k = 0 then 28 else lookI restTab k - 1

def empties : ByteArray := ⟨#[]⟩

def hasText (k : Int) : Bool := [(2 : Int), 3, 7, 21, 22, 23, 31, 33, 34, 40, 42].contains k
def hasNum (k : Int) : Bool := [(35 : Int), 36, 37, 38, 40, 41, 52].contains k

/-- The operators by their numbers less one. -/
def opsL : List ByteArray := [⟨#[42]⟩, ⟨#[47]⟩, ⟨#[37]⟩, ⟨#[94]⟩, ⟨#[43]⟩, ⟨#[45]⟩, ⟨#[60, 61]⟩, ⟨#[60]⟩, ⟨#[62, 61]⟩, ⟨#[62]⟩, ⟨#[115, 116, 97, 114, 116, 115, 119, 105, 116, 104]⟩, ⟨#[105, 110]⟩, ⟨#[110, 111, 116]⟩, ⟨#[101, 120, 105, 115, 116, 115]⟩, ⟨#[110, 111, 116, 32, 101, 109, 112, 116, 121]⟩, ⟨#[101, 109, 112, 116, 121]⟩, ⟨#[61, 61]⟩, ⟨#[33, 61]⟩, ⟨#[61, 126]⟩, ⟨#[33, 126]⟩]
def op (m : Nat) : ByteArray := opsL.getD m ⟨#[]⟩
def unaryL : List ByteArray := [⟨#[45]⟩, ⟨#[43]⟩, ⟨#[110, 111, 116]⟩, ⟨#[101, 120, 105, 115, 116, 115]⟩]
def unitsL : List ByteArray := [⟨#[121]⟩, ⟨#[109, 111]⟩, ⟨#[119]⟩, ⟨#[100]⟩, ⟨#[104]⟩, ⟨#[109]⟩, ⟨#[115]⟩, ⟨#[109, 115]⟩, ⟨#[117, 115]⟩, ⟨#[110, 115]⟩]

/-- A node's texts and number are those that its kind has. -/
def PlainP (n : Nd) : Prop :=
  (hasText n.kind = false → n.text = empties) ∧ (hasNum n.kind = false → n.num = 0) ∧ (n.kind ≠ 2 → n.kind ≠ 3 → n.more = empties) ∧ n.text.size ≤ 300 ∧ n.more.size ≤ 300 ∧
  (n.kind = 21 → ∃ m, m < 20 ∧ m ≠ 12 ∧ m ≠ 13 ∧ n.text = op m) ∧ (n.kind = 22 → n.text ∈ unaryL) ∧ (n.kind = 23 → n.text = ⟨#[97, 110, 100]⟩ ∨ n.text = ⟨#[111, 114]⟩) ∧
  (n.kind = 35 → n.num ≤ 1) ∧ (n.kind = 52 → n.num ≤ 2) ∧ (n.kind = 40 → n.text ∈ unitsL)

/-- A tree that fits, so many levels deep. -/
def FitP : Nat → Nd → Prop
  | 0, _ => False
  | d + 1, n => (n.kind = 0 ∧ n.text = empties ∧ n.more = empties ∧ n.num = 0 ∧ n.kids = []) ∨
      (0 < n.kind ∧ n.kind < 54 ∧ PlainP n ∧ (n.kind ≠ 1 → (fixedL n.kind).length ≤ n.kids.length ∧ (n.kids.length ≤ (fixedL n.kind).length ∨ restL n.kind ≠ 28)) ∧
        (∀ (i : Nat) (x : Nd), n.kids[i]? = some x → (n.kind ≠ 1 → ofClassB x ((fixedL n.kind).getD i (restL n.kind)) = true) ∧ FitP d x) ∧ (n.kind = 27 → n.kids.length % 2 = 0))
end Go.Proofs.YteecbmhkfnlecaaGreatDoor
