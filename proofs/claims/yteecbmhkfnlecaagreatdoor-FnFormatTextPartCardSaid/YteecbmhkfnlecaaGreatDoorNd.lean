/-
  Nodes of trees as plain data, with the places of their kids; how they lie in a world. No conditions.
-/
import Derived.WalkKit
import Derived.Lib.Hide
namespace Go.Proofs.YteecbmhkfnlecaaGreatDoor
open Go.RowKit
set_option linter.unusedVariables false

/-- A node: its kind, texts, number, and its kids with the slice that holds them. -/
inductive Nd where
  | mk (kind : Int) (text more : ByteArray) (num : Int) (ao : Option Addr) (cap : Nat) (kids : List Nd)

namespace Nd
def kind : Nd → Int | mk k _ _ _ _ _ _ => k
def text : Nd → ByteArray | mk _ t _ _ _ _ _ => t
def more : Nd → ByteArray | mk _ _ m _ _ _ _ => m
def num : Nd → Int | mk _ _ _ u _ _ _ => u
def ao : Nd → Option Addr | mk _ _ _ _ a _ _ => a
def cap : Nd → Nat | mk _ _ _ _ _ c _ => c
def kids : Nd → List Nd | mk _ _ _ _ _ _ l => l
/-- The value of a node. -/
def val (n : Nd) : Value := .agg #[.int .i64 n.kind, .string n.text, .string n.more, .int .u64 n.num, .slice n.ao n.kids.length n.cap]
/-- Its sizes and its number are what memory can hold. -/
def wf (n : Nd) : Prop := n.text.size ≤ maxLen ∧ n.more.size ≤ maxLen ∧ n.kids.length ≤ maxLen ∧ 0 ≤ n.num ∧ n.num < 18446744073709551616 ∧ -9223372036854775808 ≤ n.kind ∧ n.kind ≤ 9223372036854775807
end Nd

/-- Five cells hold a node. -/
def NdCells (w : World) (b o : Nat) (n : Nd) : Prop :=
  w.cell? ⟨b, o, none⟩ = some (.int .i64 n.kind) ∧ w.cell? ⟨b, o + 1, none⟩ = some (.string n.text) ∧ w.cell? ⟨b, o + 2, none⟩ = some (.string n.more) ∧ w.cell? ⟨b, o + 3, none⟩ = some (.int .u64 n.num) ∧ w.cell? ⟨b, o + 4, none⟩ = some (.slice n.ao n.kids.length n.cap)

/-- A node's kids lie in a world, and theirs, so many levels down. -/
def LiesD : Nat → World → Nd → Prop
  | 0, _, _ => False
  | d + 1, w, n => n.wf ∧ ∀ (i : Nat) (x : Nd), n.kids[i]? = some x → (∃ b o, n.ao = some ⟨b, o, none⟩ ∧ NdCells w b (o + i * 5) x) ∧ LiesD d w x

theorem NdCells.lt {w : World} {b o : Nat} {n : Nd} (h : NdCells w b o n) : b < w.heap.size := World.block_lt_of_cell? _ _ h.1

theorem NdCells.below {w w' : World} {B b o : Nat} {n : Nd} (h : NdCells w b o n) (hb : Below B w w') (hB : b < B) : NdCells w' b o n := by
  obtain ⟨h0, h1, h2, h3, h4⟩ := h
  refine ⟨?_, ?_, ?_, ?_, ?_⟩
  · exact (hb.cell (p := ⟨b, o, none⟩) hB).trans h0
  · exact (hb.cell (p := ⟨b, o + 1, none⟩) hB).trans h1
  · exact (hb.cell (p := ⟨b, o + 2, none⟩) hB).trans h2
  · exact (hb.cell (p := ⟨b, o + 3, none⟩) hB).trans h3
  · exact (hb.cell (p := ⟨b, o + 4, none⟩) hB).trans h4

theorem LiesD.below {d : Nat} : ∀ {w w' : World} {n : Nd}, LiesD d w n → Below w.heap.size w w' → LiesD d w' n := by
  induction d with
  | zero => intro w w' n h; exact h.elim
  | succ d ih =>
    intro w w' n h hb
    refine ⟨h.1, fun i x hx => ?_⟩
    obtain ⟨⟨b, o, ha, hc⟩, hl⟩ := h.2 i x hx
    exact ⟨⟨b, o, ha, hc.below hb hc.lt⟩, ih hl hb⟩

theorem LiesD.mono {d : Nat} : ∀ {d' : Nat} {w : World} {n : Nd}, LiesD d w n → d ≤ d' → LiesD d' w n := by
  induction d with
  | zero => intro d' w n h; exact h.elim
  | succ d ih =>
    intro d' w n h hd
    obtain ⟨d', rfl⟩ : ∃ e, d' = e + 1 := ⟨d' - 1, by omega⟩
    exact ⟨h.1, fun i x hx => ⟨(h.2 i x hx).1, ih (h.2 i x hx).2 (by omega)⟩⟩

/-- How many nodes there are. -/
def Nd.countD : Nat → Nd → Nat
  | 0, _ => 0
  | d + 1, n => 1 + (n.kids.map (Nd.countD d)).sum

/-- Two nodes are the same but for the places of their kids. -/
def SameD : Nat → Nd → Nd → Prop
  | 0, _, _ => False
  | d + 1, a, b => a.kind = b.kind ∧ a.text = b.text ∧ a.more = b.more ∧ a.num = b.num ∧ a.kids.length = b.kids.length ∧ ∀ (i : Nat) (x y : Nd), a.kids[i]? = some x → b.kids[i]? = some y → SameD d x y

theorem SameD.refl_of {d : Nat} : ∀ {w : World} {n : Nd}, LiesD d w n → SameD d n n := by
  induction d with
  | zero => intro w n h; exact h.elim
  | succ d ih =>
    intro w n h
    refine ⟨rfl, rfl, rfl, rfl, rfl, fun i x y hx hy => ?_⟩
    obtain rfl : x = y := by rw [hx] at hy; exact Option.some.inj hy
    exact ih (h.2 i x hx).2

theorem SameD.symm {d : Nat} : ∀ {a b : Nd}, SameD d a b → SameD d b a := by
  induction d with
  | zero => intro a b h; exact h.elim
  | succ d ih =>
    intro a b h
    obtain ⟨h1, h2, h3, h4, h5, h6⟩ := h
    exact ⟨h1.symm, h2.symm, h3.symm, h4.symm, h5.symm, fun i x y hx hy => ih (h6 i y x hy hx)⟩
end Go.Proofs.YteecbmhkfnlecaaGreatDoor
