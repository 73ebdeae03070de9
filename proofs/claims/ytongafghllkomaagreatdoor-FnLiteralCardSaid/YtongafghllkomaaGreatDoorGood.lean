/-
  What stands in a tree that fits: the kinds of the kids, and that they fit. No conditions.
-/
import Derived.Test.YtongafghllkomaaGreatDoorNodesOf
namespace Go.Proofs.YtongafghllkomaaGreatDoor
open Go.RowKit
set_option linter.unusedVariables false

def exprL : List Int := [16, 17, 18, 19, 20, 21, 22, 23, 24, 25, 26, 27, 28, 30, 33, 34, 35, 36, 37, 38, 39, 41, 42, 43]
def stmtL : List Int := [7, 8, 9, 10, 11, 12, 14, 15]

/-- What a kid of a tree that fits is. -/
def PreD (d : Nat) (x : Nd) : Prop := FitP d x ∧ NoneD d x 13 ∧ SmallD d x

theorem PreD.pos {d : Nat} {x : Nd} (h : PreD d x) : ∃ e, d = e + 1 := by
  cases d with
  | zero => exact h.1.elim
  | succ e => exact ⟨e, rfl⟩

theorem PreD.ne13 {d : Nat} {x : Nd} (h : PreD d x) : x.kind ≠ 13 := by
  obtain ⟨e, rfl⟩ := h.pos
  exact h.2.1.1

theorem GoodD.pre {d : Nat} {n : Nd} (h : GoodD d n) : PreD d n := ⟨h.1, h.2.1, h.2.2.1⟩

theorem PreD.fit {d : Nat} {n : Nd} (h : PreD (d + 1) n) (h0 : n.kind ≠ 0) :
    0 < n.kind ∧ n.kind < 54 ∧ PlainP n ∧ (n.kind ≠ 1 → (fixedL n.kind).length ≤ n.kids.length ∧ (n.kids.length ≤ (fixedL n.kind).length ∨ restL n.kind ≠ 28)) ∧
        (∀ (i : Nat) (x : Nd), n.kids[i]? = some x → (n.kind ≠ 1 → ofClassB x ((fixedL n.kind).getD i (restL n.kind)) = true) ∧ FitP d x) ∧ (n.kind = 27 → n.kids.length % 2 = 0) := by
  rcases h.1 with h1 | h1
  · exact absurd h1.1 h0
  · exact h1

theorem PreD.kid {d : Nat} {n x : Nd} {i : Nat} (h : PreD (d + 1) n) (h0 : n.kind ≠ 0) (hx : n.kids[i]? = some x) : PreD d x ∧ (n.kind ≠ 1 → ofClassB x ((fixedL n.kind).getD i (restL n.kind)) = true) := by
  have h1 := (h.fit h0).2.2.2.2.1 i x hx
  exact ⟨⟨h1.2, h.2.1.2 i x hx, h.2.2.2 i x hx⟩, h1.1⟩

theorem PreD.small {d : Nat} {n : Nd} (h : PreD (d + 1) n) : n.kids.length ≤ 400 := h.2.2.1.1
theorem PreD.room {d : Nat} {n : Nd} (h : PreD (d + 1) n) : n.kids.length ≤ n.cap := h.2.2.1.2

theorem class_0 {x : Nd} (h : ofClassB x 0 = true) : x.kind ∈ exprL := by
  have h : isExprB x.kind = true := h
  unfold isExprB at h
  simp at h
  have : x.kind = 16 ∨ x.kind = 17 ∨ x.kind = 18 ∨ x.kind = 19 ∨ x.kind = 20 ∨ x.kind = 21 ∨ x.kind = 22 ∨ x.kind = 23 ∨ x.kind = 24 ∨ x.kind = 25 ∨ x.kind = 26 ∨ x.kind = 27 ∨ x.kind = 28 ∨ x.kind = 30 ∨ x.kind = 33 ∨ x.kind = 34 ∨ x.kind = 35 ∨ x.kind = 36 ∨ x.kind = 37 ∨ x.kind = 38 ∨ x.kind = 39 ∨ x.kind = 41 ∨ x.kind = 42 ∨ x.kind = 43 := by omega
  unfold exprL
  simpa using this

theorem class_1 {d : Nat} {x : Nd} (hp : PreD d x) (h : ofClassB x 1 = true) : x.kind ∈ stmtL := by
  have h : isStmtB x.kind = true := h
  have := hp.ne13
  unfold isStmtB at h
  simp at h
  have : x.kind = 7 ∨ x.kind = 8 ∨ x.kind = 9 ∨ x.kind = 10 ∨ x.kind = 11 ∨ x.kind = 12 ∨ x.kind = 14 ∨ x.kind = 15 := by omega
  unfold stmtL
  simpa using this

theorem stmt_of {d : Nat} {x : Nd} (hp : PreD d x) (h : isStmtB x.kind = true) : x.kind ∈ stmtL := class_1 hp h

theorem class_few {x : Nd} {c : Int} (l : List Int) (hc : ofClassB x c = l.contains x.kind) (h : ofClassB x c = true) : x.kind ∈ l := by
  rw [hc] at h
  simpa using h

theorem expr_walk {k : Int} (h : k ∈ exprL) : k ∈ walkL := by
  unfold exprL at h; unfold walkL
  simp at h ⊢; omega
theorem stmt_walk {k : Int} (h : k ∈ stmtL) : k ∈ walkL := by
  unfold stmtL at h; unfold walkL
  simp at h ⊢; omega

theorem PreD.good {d : Nat} {x : Nd} (h : PreD d x) (hk : x.kind ∈ walkL) : GoodD d x := ⟨h.1, h.2.1, h.2.2, hk⟩

theorem expr_ne0 {k : Int} (h : k ∈ exprL) : k ≠ 0 := by
  unfold exprL at h; simp at h; omega

/-- A node with so many kids. -/
theorem kids1 {n : Nd} (h : n.kids.length = 1) : ∃ x, n.kids = [x] := by
  match hk : n.kids, h with
  | [x], _ => exact ⟨x, rfl⟩
theorem kids2 {n : Nd} (h : n.kids.length = 2) : ∃ x y, n.kids = [x, y] := by
  match hk : n.kids, h with
  | [x, y], _ => exact ⟨x, y, rfl⟩
theorem kids3 {n : Nd} (h : n.kids.length = 3) : ∃ x y z, n.kids = [x, y, z] := by
  match hk : n.kids, h with
  | [x, y, z], _ => exact ⟨x, y, z, rfl⟩

/-- One level more. -/
theorem RepD.up {A : Nat → Prop} {d : Nat} : ∀ {w : World} {n : Nd} {b : Nat}, RepD A d w n b → RepD A (d + 1) w n b := by
  induction d with
  | zero => intro w n b h; exact h.elim
  | succ d ih =>
    intro w n b h
    obtain ⟨hA, cs, h1, h2⟩ := h
    exact ⟨hA, cs, h1, h2.carry (fun n b hr => ih hr) (fun b o h3 h4 => ⟨h4, h3⟩)⟩
end Go.Proofs.YtongafghllkomaaGreatDoor
