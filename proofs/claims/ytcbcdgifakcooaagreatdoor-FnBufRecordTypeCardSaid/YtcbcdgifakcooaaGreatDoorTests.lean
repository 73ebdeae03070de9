/-
  What a good tree is; what stands in a tree that fits; from the package's nodes back to plain ones; the tests for types. No conditions.
-/
import Derived.Test.YtcbcdgifakcooaaGreatDoorRep
import Derived.Deep.RegionHeld3
import Derived.Deep.Slices
import Derived.ChangeArms
namespace Go.Proofs.YtcbcdgifakcooaaGreatDoor
open Go.RowKit
set_option linter.unusedVariables false

def NoneD : Nat → Nd → Int → Prop
  | 0, _, _ => True
  | d + 1, n, k => n.kind ≠ k ∧ ∀ (i : Nat) (x : Nd), n.kids[i]? = some x → NoneD d x k

def walkL : List Int := [2, 3, 4, 5, 6, 7, 8, 9, 10, 11, 12, 14, 15, 16, 17, 18, 19, 20, 21, 22, 23, 24, 25, 26, 27, 28, 29, 30, 31, 32, 33, 34, 35, 36, 37, 38, 39, 41, 42, 43]

/-- Few kids everywhere, and no more than the slices have room for. -/
def SmallD : Nat → Nd → Prop
  | 0, _ => True
  | d + 1, n => (n.kids.length ≤ 400 ∧ n.kids.length ≤ n.cap) ∧ ∀ (i : Nat) (x : Nd), n.kids[i]? = some x → SmallD d x

/-- A tree that unnode takes. -/
def GoodD (d : Nat) (n : Nd) : Prop := FitP d n ∧ NoneD d n 13 ∧ SmallD d n ∧ n.kind ∈ walkL
theorem ptrTy_2 : pTy 2 = 78 := by decide
theorem ptrTy_3 : pTy 3 = 83 := by decide
theorem ptrTy_4 : pTy 4 = 84 := by decide
theorem ptrTy_5 : pTy 5 = 93 := by decide
theorem ptrTy_6 : pTy 6 = 106 := by decide
theorem ptrTy_7 : pTy 7 = 109 := by decide
theorem ptrTy_8 : pTy 8 = 112 := by decide
theorem ptrTy_9 : pTy 9 = 117 := by decide
theorem ptrTy_10 : pTy 10 = 120 := by decide
theorem ptrTy_11 : pTy 11 = 123 := by decide
theorem ptrTy_12 : pTy 12 = 132 := by decide
theorem ptrTy_14 : pTy 14 = 145 := by decide
theorem ptrTy_15 : pTy 15 = 149 := by decide
theorem ptrTy_16 : pTy 16 = 153 := by decide
theorem ptrTy_17 : pTy 17 = 129 := by decide
theorem ptrTy_18 : pTy 18 = 158 := by decide
theorem ptrTy_19 : pTy 19 = 161 := by decide
theorem ptrTy_20 : pTy 20 = 165 := by decide
theorem ptrTy_21 : pTy 21 = 171 := by decide
theorem ptrTy_22 : pTy 22 = 176 := by decide
theorem ptrTy_23 : pTy 23 = 179 := by decide
theorem ptrTy_24 : pTy 24 = 183 := by decide
theorem ptrTy_25 : pTy 25 = 186 := by decide
theorem ptrTy_26 : pTy 26 = 189 := by decide
theorem ptrTy_27 : pTy 27 = 192 := by decide
theorem ptrTy_28 : pTy 28 = 199 := by decide
theorem ptrTy_29 : pTy 29 = 167 := by decide
theorem ptrTy_30 : pTy 30 = 204 := by decide
theorem ptrTy_31 : pTy 31 = 211 := by decide
theorem ptrTy_32 : pTy 32 = 213 := by decide
theorem ptrTy_33 : pTy 33 = 68 := by decide
theorem ptrTy_34 : pTy 34 = 100 := by decide
theorem ptrTy_35 : pTy 35 = 215 := by decide
theorem ptrTy_36 : pTy 36 = 218 := by decide
theorem ptrTy_37 : pTy 37 = 221 := by decide
theorem ptrTy_38 : pTy 38 = 224 := by decide
theorem ptrTy_39 : pTy 39 = 229 := by decide
theorem ptrTy_41 : pTy 41 = 234 := by decide
theorem ptrTy_42 : pTy 42 = 239 := by decide
theorem ptrTy_43 : pTy 43 = 243 := by decide
end Go.Proofs.YtcbcdgifakcooaaGreatDoor
namespace Go.Proofs.YtcbcdgifakcooaaGreatDoor
open Go.RowKit
set_option linter.unusedVariables false

def exprL : List Int := [16, 17, 18, 19, 20, 21, 22, 23, 24, 25, 26, 27, 28, 30, 33, 34, 35, 36, 37, 38, 39, 41, 42, 43]
def stmtL : List Int := [7, 8, 9, 10, 11, 12, 14, 15]

/-- What a kid of a tree that fits is. -/
def PreD (d : Nat) (x : Nd) : Prop := FitP d x ∧ NoneD d x 13 ∧ SmallD d x

theorem PreD.pos {d : Nat} {x : Nd} (h : PreD d x) : ∃ e, d = e + 1 := by
  cases d with
  | zero => exact h.1.elim
  | succ e => exact ⟨e, rfl⟩

theorem PreD.ne13 {d : Nat} {x : Nd} (h : PreD d x) : x.kind ≠ 13 := by
  obtain ⟨e, rfl⟩ := h.pos
  exact h.2.1.1

theorem GoodD.pre {d : Nat} {n : Nd} (h : GoodD d n) : PreD d n := ⟨h.1, h.2.1, h.2.2.1⟩

theorem PreD.fit {d : Nat} {n : Nd} (h : PreD (d + 1) n) (h0 : n.kind ≠ 0) :
    0 < n.kind ∧ n.kind < 54 ∧ PlainP n ∧ (n.kind ≠ 1 → (fixedL n.kind).length ≤ n.kids.length ∧ (n.kids.length ≤ (fixedL n.kind).length ∨ restL n.kind ≠ 28)) ∧
        (∀ (i : Nat) (x : Nd), n.kids[i]? = some x → (n.kind ≠ 1 → ofClassB x ((fixedL n.kind).getD i (restL n.kind)) = true) ∧ FitP d x) ∧ (n.kind = 27 → n.kids.length % 2 = 0) := by
  rcases h.1 with h1 | h1
  · exact absurd h1.1 h0
  · exact h1

theorem PreD.kid {d : Nat} {n x : Nd} {i : Nat} (h : PreD (d + 1) n) (h0 : n.kind ≠ 0) (hx : n.kids[i]? = some x) : PreD d x ∧ (n.kind ≠ 1 → ofClassB x ((fixedL n.kind).getD i (restL n.kind)) = true) := by
  have h1 := (h.fit h0).2.2.2.2.1 i x hx
  exact ⟨⟨h1.2, h.2.1.2 i x hx, h.2.2.2 i x hx⟩, h1.1⟩

theorem PreD.small {d : Nat} {n : Nd} (h : PreD (d + 1) n) : n.kids.length ≤ 400 := h.2.2.1.1
theorem PreD.room {d : Nat} {n : Nd} (h : PreD (d + 1) n) : n.kids.length ≤ n.cap := h.2.2.1.2

theorem class_0 {x : Nd} (h : ofClassB x 0 = true) : x.kind ∈ exprL := by
  have h : isExprB x.kind = true := h
  unfold isExprB at h
  simp at h
  have : x.kind = 16 ∨ x.kind = 17 ∨ x.kind = 18 ∨ x.kind = 19 ∨ x.kind = 20 ∨ x.kind = 21 ∨ x.kind = 22 ∨ x.kind = 23 ∨ x.kind = 24 ∨ x.kind = 25 ∨ x.kind = 26 ∨ x.kind = 27 ∨ x.kind = 28 ∨ x.kind = 30 ∨ x.kind = 33 ∨ x.kind = 34 ∨ x.kind = 35 ∨ x.kind = 36 ∨ x.kind = 37 ∨ x.kind = 38 ∨ x.kind = 39 ∨ x.kind = 41 ∨ x.kind = 42 ∨ x.kind = 43 := by omega
  unfold exprL
  simpa using this

theorem class_1 {d : Nat} {x : Nd} (hp : PreD d x) (h : ofClassB x 1 = true) : x.kind ∈ stmtL := by
  have h : isStmtB x.kind = true := h
  have := hp.ne13
  unfold isStmtB at h
  simp at h
  have : x.kind = 7 ∨ x.kind = 8 ∨ x.kind = 9 ∨ x.kind = 10 ∨ x.kind = 11 ∨ x.kind = 12 ∨ x.kind = 14 ∨ x.kind = 15 := by omega
  unfold stmtL
  simpa using this

theorem stmt_of {d : Nat} {x : Nd} (hp : PreD d x) (h : isStmtB x.kind = true) : x.kind ∈ stmtL := class_1 hp h

theorem class_few {x : Nd} {c : Int} (l : List Int) (hc : ofClassB x c = l.contains x.kind) (h : ofClassB x c = true) : x.kind ∈ l := by
  rw [hc] at h
  simpa using h

theorem expr_walk {k : Int} (h : k ∈ exprL) : k ∈ walkL := by
  unfold exprL at h; unfold walkL
  simp at h ⊢; omega
theorem stmt_walk {k : Int} (h : k ∈ stmtL) : k ∈ walkL := by
  unfold stmtL at h; unfold walkL
  simp at h ⊢; omega

theorem PreD.good {d : Nat} {x : Nd} (h : PreD d x) (hk : x.kind ∈ walkL) : GoodD d x := ⟨h.1, h.2.1, h.2.2, hk⟩

theorem expr_ne0 {k : Int} (h : k ∈ exprL) : k ≠ 0 := by
  unfold exprL at h; simp at h; omega

/-- A node with so many kids. -/
theorem kids1 {n : Nd} (h : n.kids.length = 1) : ∃ x, n.kids = [x] := by
  match hk : n.kids, h with
  | [x], _ => exact ⟨x, rfl⟩
theorem kids2 {n : Nd} (h : n.kids.length = 2) : ∃ x y, n.kids = [x, y] := by
  match hk : n.kids, h with
  | [x, y], _ => exact ⟨x, y, rfl⟩
theorem kids3 {n : Nd} (h : n.kids.length = 3) : ∃ x y z, n.kids = [x, y, z] := by
  match hk : n.kids, h with
  | [x, y, z], _ => exact ⟨x, y, z, rfl⟩

/-- One level more. -/
theorem RepD.up {A : Nat → Prop} {d : Nat} : ∀ {w : World} {n : Nd} {b : Nat}, RepD A d w n b → RepD A (d + 1) w n b := by
  induction d with
  | zero => intro w n b h; exact h.elim
  | succ d ih =>
    intro w n b h
    obtain ⟨hA, cs, h1, h2⟩ := h
    exact ⟨hA, cs, h1, h2.carry (fun n b hr => ih hr) (fun b o h3 h4 => ⟨h4, h3⟩)⟩
end Go.Proofs.YtcbcdgifakcooaaGreatDoor
namespace Go.Proofs.YtcbcdgifakcooaaGreatDoor
open Go.RowKit
set_option linter.unusedVariables false

/-- A node's kids lie in a world, and theirs, all in blocks that A lets in. -/
def LiesIn (A : Nat → Prop) : Nat → World → Nd → Prop
  | 0, _, _ => False
  | d + 1, w, n => n.wf ∧ ∀ (i : Nat) (x : Nd), n.kids[i]? = some x → (∃ b o, A b ∧ n.ao = some ⟨b, o, none⟩ ∧ NdCells w b (o + i * 5) x) ∧ LiesIn A d w x

theorem LiesIn.lies {A : Nat → Prop} {d : Nat} : ∀ {w : World} {n : Nd}, LiesIn A d w n → LiesD d w n := by
  induction d with
  | zero => intro w n h; exact h.elim
  | succ d ih =>
    intro w n h
    refine ⟨h.1, fun i x hx => ?_⟩
    obtain ⟨⟨b, o, -, ha, hc⟩, hl⟩ := h.2 i x hx
    exact ⟨⟨b, o, ha, hc⟩, ih hl⟩

theorem NdCells.block {w w' : World} {b o : Nat} {n : Nd} (h : NdCells w b o n) (hb : w'.heap[b]? = w.heap[b]?) : NdCells w' b o n := by
  have f : ∀ o, w'.cell? ⟨b, o, none⟩ = w.cell? ⟨b, o, none⟩ := fun o => by unfold World.cell?; rw [hb]
  obtain ⟨h0, h1, h2, h3, h4⟩ := h
  exact ⟨(f _).trans h0, (f _).trans h1, (f _).trans h2, (f _).trans h3, (f _).trans h4⟩

theorem LiesIn.carry {A A' : Nat → Prop} {d : Nat} : ∀ {w w' : World} {n : Nd}, LiesIn A d w n → Carries A A' w w' → LiesIn A' d w' n := by
  induction d with
  | zero => intro w w' n h; exact h.elim
  | succ d ih =>
    intro w w' n h hc
    refine ⟨h.1, fun i x hx => ?_⟩
    obtain ⟨⟨b, o, hA, ha, hn⟩, hl⟩ := h.2 i x hx
    obtain ⟨ob, hob⟩ : ∃ ob, w.heap[b]? = some ob := ⟨_, Array.getElem?_eq_getElem hn.lt⟩
    obtain ⟨h1, h2⟩ := hc b ob hA hob
    exact ⟨⟨b, o, h2, ha, hn.block (h1.trans hob.symm)⟩, ih hl hc⟩

theorem LiesIn.below {A : Nat → Prop} {d : Nat} {w w' : World} {n : Nd} (h : LiesIn A d w n) (hb : Below w.heap.size w w') : LiesIn A d w' n := h.carry (Carries.of_below hb)
theorem LiesIn.mono {A A' : Nat → Prop} {d : Nat} {w : World} {n : Nd} (h : LiesIn A d w n) (hA : ∀ b, A b → A' b) : LiesIn A' d w n := h.carry (fun b o h1 h2 => ⟨h2, hA b h1⟩)

theorem LiesIn.up {A : Nat → Prop} {d : Nat} : ∀ {d' : Nat} {w : World} {n : Nd}, LiesIn A d w n → d ≤ d' → LiesIn A d' w n := by
  induction d with
  | zero => intro d' w n h; exact h.elim
  | succ d ih =>
    intro d' w n h hd
    obtain ⟨d', rfl⟩ : ∃ e, d' = e + 1 := ⟨d' - 1, by omega⟩
    exact ⟨h.1, fun i x hx => ⟨(h.2 i x hx).1, ih (h.2 i x hx).2 (by omega)⟩⟩

theorem SameD.up {d : Nat} : ∀ {d' : Nat} {a b : Nd}, SameD d a b → d ≤ d' → SameD d' a b := by
  induction d with
  | zero => intro d' a b h; exact h.elim
  | succ d ih =>
    intro d' a b h hd
    obtain ⟨d', rfl⟩ : ∃ e, d' = e + 1 := ⟨d' - 1, by omega⟩
    obtain ⟨h1, h2, h3, h4, h5, h6⟩ := h
    exact ⟨h1, h2, h3, h4, h5, fun i x y hx hy => ih (h6 i x y hx hy) (by omega)⟩

theorem LiesIn.wf {A : Nat → Prop} {d : Nat} {w : World} {n : Nd} (h : LiesIn A d w n) : n.wf := by
  cases d with
  | zero => exact h.elim
  | succ d => exact h.1

/-- What node hands back: the same tree, in new memory. -/
def NodePost (n : Nd) (w : World) (e : Ending) (w' : World) : Prop :=
  ∃ (D : Nat) (m : Nd), e = .returned (.agg #[.int .i64 m.kind, .string m.text, .string m.more, .int .u64 m.num, .slice m.ao m.kids.length m.cap]) ∧ SameD D n m ∧ LiesIn (From w.heap.size) D w' m ∧ Below w.heap.size w w'

/-- A node that lies in some world: what it holds is what memory can hold. -/
def WfN (n : Nd) : Prop := ∃ (D : Nat) (w : World), LiesD D w n
theorem WfN.wf {n : Nd} (h : WfN n) : n.wf := by
  obtain ⟨D, w, h⟩ := h
  cases D with
  | zero => exact h.elim
  | succ D => exact h.1
theorem WfN.kid {n x : Nd} {i : Nat} (h : WfN n) (hx : n.kids[i]? = some x) : WfN x := by
  obtain ⟨D, w, h⟩ := h
  cases D with
  | zero => exact h.elim
  | succ D => exact ⟨D, w, (h.2 i x hx).2⟩
def GoodW (e : Nat) (n : Nd) : Prop := GoodD e n ∧ WfN n

/-- node's contract for what lies so many levels down. -/
def NodeC (d : Nat) : Prop := ∀ (e : Nat) (A : Nat → Prop) (n : Nd) (b : Nat) (w : World), GoodW e n → RepD A d w n b →
  Calls Tryz.prog 17 #[.iface (pTy n.kind) (.pointer (some ⟨b, 0, none⟩))] w (NodePost n w)

def Nd.cells5 (m : Nd) : List Value := [.int .i64 m.kind, .string m.text, .string m.more, .int .u64 m.num, .slice m.ao m.kids.length m.cap]

theorem cells5_at : ∀ (ms : List Nd) (i k : Nat) (m : Nd), ms[i]? = some m → k < 5 → (ms.flatMap Nd.cells5)[i * 5 + k]? = m.cells5[k]? := by
  intro ms
  induction ms with
  | nil => intro i k m h; simp at h
  | cons a ms ih =>
    intro i k m h hk
    rw [List.flatMap_cons]
    cases i with
    | zero =>
      simp at h
      subst h
      rw [List.getElem?_append_left (by simp [Nd.cells5]; omega)]
      simp
    | succ i =>
      rw [List.getElem?_append_right (by simp [Nd.cells5]; omega)]
      have := ih i k m (by simpa using h) hk
      rw [← this]
      congr 1
      simp [Nd.cells5]
      omega

theorem cells5_len (ms : List Nd) : (ms.flatMap Nd.cells5).length = ms.length * 5 := by
  induction ms with
  | nil => rfl
  | cons a ms ih => rw [List.flatMap_cons, List.length_append, ih]; simp [Nd.cells5]; omega

/-- What a loop over nodes has made: so many plain ones. -/
def BackOk (B : Nat) (ns : List Nd) (j : Nat) (v : Value) (wr : World) : Prop :=
  ∃ (D : Nat) (ms : List Nd), wr.ownsRow B 25 5 v j (ms.flatMap Nd.cells5) ∧ ms.length = j ∧ ∀ (i : Nat) (n m : Nd), ns[i]? = some n → ms[i]? = some m → SameD D n m ∧ LiesIn (fun b => B ≤ b ∧ some b ≠ v.ownBlock) D wr m

theorem BackOk.start (B : Nat) (ns : List Nd) (w : World) : BackOk B ns 0 (.slice none 0 0) w := ⟨0, [], ⟨rfl, Or.inl ⟨rfl, rfl⟩⟩, rfl, by intro i n x _ h; simp at h⟩

theorem BackOk.below {B : Nat} {ns : List Nd} {j : Nat} {v : Value} {w w' : World} (h : BackOk B ns j v w) (hb : Below w.heap.size w w') : BackOk B ns j v w' := by
  obtain ⟨D, ms, h1, hl, h2⟩ := h
  refine ⟨D, ms, h1.kept ⟨hb.os, hb.tape, hb.output, hb.size, fun i hi _ => hb.block i hi⟩ (row := none) ?_, hl, fun i n x hn hx => ⟨(h2 i n x hn hx).1, (h2 i n x hn hx).2.below hb⟩⟩
  cases hv : v.ownBlock with
  | none => exact Or.inl rfl
  | some g => exact Or.inr (by simp)

theorem ownsRow_unique {w : World} {B E s : Nat} {v : Value} {j : Nat} {xs ys : List Value} (h1 : w.ownsRow B E s v j xs) (h2 : w.ownsRow B E s v j ys) : xs = ys := by
  rcases h1.2 with ⟨hv, h0⟩ | ⟨g1, c1, cur1, hv, _, hg1, _, _, _, ht1⟩
  · have e1 := h1.1; have e2 := h2.1
    rw [h0] at e1 e2
    simp at e1 e2
    rw [e1, e2]
  · rcases h2.2 with ⟨hv2, h0⟩ | ⟨g3, c3, cur3, hv3, _, hg3, _, _, _, ht3⟩
    · rw [hv] at hv2; cases hv2
    · rw [hv] at hv3; cases hv3
      rw [hg1] at hg3; cases hg3
      rw [← ht1, ← ht3]

theorem ownsRow_unique' {w : World} {B E s : Nat} {v : Value} {j : Nat} {xs ys : List Value} {C F : Nat} (h1 : w.ownsRow B E s v j xs) (h2 : w.ownsRow C F s v j ys) : xs = ys := by
  rcases h1.2 with ⟨hv, h0⟩ | ⟨g1, c1, cur1, hv, _, hg1, _, _, _, ht1⟩
  · have e1 := h1.1; have e2 := h2.1
    rw [h0] at e1 e2
    simp at e1 e2
    rw [e1, e2]
  · rcases h2.2 with ⟨hv2, h0⟩ | ⟨g3, c3, cur3, hv3, _, hg3, _, _, _, ht3⟩
    · rw [hv] at hv2; cases hv2
    · rw [hv] at hv3; cases hv3
      rw [hg1] at hg3; cases hg3
      rw [← ht1, ← ht3]

/-- One append more. -/
theorem BackOk.next {B : Nat} {ns : List Nd} {j : Nat} {v v' : Value} {w1 w2 : World} {ob : Obj} {g cap E : Nat} {n m : Nd} {xs : List Value} (h : BackOk B ns j v w1) (hn : ns[j]? = some n) (hs : SameD E n m) (hl : LiesIn (fun b => B ≤ b ∧ some b ≠ v.ownBlock) E w1 m)
    (hxs : w1.ownsRow B 25 5 v j xs) (hown : w2.ownsRow B 25 5 v' (j + 1) (xs ++ m.cells5)) (hv' : v' = .slice (some ⟨g, 0, none⟩) (j + 1) cap) (hg : (w1.alloc ob).grownBy w2 v.ownBlock) (hat : v.ownBlock = some g ∨ g = (w1.alloc ob).heap.size) : BackOk B ns (j + 1) v' w2 := by
  obtain ⟨D, ms, h1, hlen, h2⟩ := h
  obtain rfl := ownsRow_unique h1 hxs
  have hcar : Carries (fun b => B ≤ b ∧ some b ≠ v.ownBlock) (fun b => B ≤ b ∧ some b ≠ v'.ownBlock) w1 w2 := by
    intro b o hA hb
    have hlt : b < w1.heap.size := (Array.getElem?_eq_some_iff.1 hb).1
    have hb1 : (w1.alloc ob).heap[b]? = some o := by rw [heap_alloc_old _ _ hlt]; exact hb
    refine ⟨(hg.block b (by simp; omega) hA.2).trans hb1, hA.1, ?_⟩
    rw [hv']
    simp only [Value.ownBlock]
    rcases hat with h | h
    · rw [← h]; exact hA.2
    · intro e; cases e; simp at h; omega
  refine ⟨D + E, ms ++ [m], by rw [List.flatMap_append]; simpa using hown, by simp [hlen], fun i a y ha hy => ?_⟩
  by_cases hi : i < j
  · rw [List.getElem?_append_left (by omega)] at hy
    have := h2 i a y ha hy
    exact ⟨this.1.up (by omega), (this.2.carry hcar).up (by omega)⟩
  · have hil := (List.getElem?_eq_some_iff.1 hy).1
    simp at hil
    obtain rfl : i = j := by omega
    rw [List.getElem?_append_right (by omega), hlen] at hy
    simp at hy
    subst hy
    rw [hn] at ha; cases ha
    exact ⟨hs.up (by omega), (hl.carry hcar).up (by omega)⟩

/-- Plain nodes lie in a slice, in blocks that A lets in. -/
def ListIn (A : Nat → Prop) (D : Nat) (w : World) (ao : Option Addr) (ms : List Nd) : Prop := ∀ (i : Nat) (x : Nd), ms[i]? = some x → (∃ b o, A b ∧ ao = some ⟨b, o, none⟩ ∧ NdCells w b (o + i * 5) x) ∧ LiesIn A D w x

theorem ListIn.carry {A A' : Nat → Prop} {D : Nat} {w w' : World} {ao : Option Addr} {ms : List Nd} (h : ListIn A D w ao ms) (hc : Carries A A' w w') : ListIn A' D w' ao ms := by
  intro i x hx
  obtain ⟨⟨b, o, hA, ha, hn⟩, hl⟩ := h i x hx
  obtain ⟨ob, hob⟩ : ∃ ob, w.heap[b]? = some ob := ⟨_, Array.getElem?_eq_getElem hn.lt⟩
  obtain ⟨h1, h2⟩ := hc b ob hA hob
  exact ⟨⟨b, o, h2, ha, hn.block (h1.trans hob.symm)⟩, hl.carry hc⟩

theorem row_cells {w : World} {g cap j : Nat} {cur : Array Value} {e : TypeId} {fr : Nat × Nat} {ms : List Nd} (hg : w.heap[g]? = some (.cells cur e fr)) (ht : cur.toList.take (j * 5) = ms.flatMap Nd.cells5) {i : Nat} {m : Nd} (hm : ms[i]? = some m) : NdCells w g (0 + i * 5) m := by
  have key : ∀ k, k < 5 → w.cell? ⟨g, 0 + i * 5 + k, none⟩ = m.cells5[k]? := by
    intro k hk
    rw [Lib.cell_of_heap hg, ← cells5_at ms i k m hm hk, ← ht]
    have hlen : i * 5 + k < (cur.toList.take (j * 5)).length := by
      have hi := (List.getElem?_eq_some_iff.1 hm).1
      rw [ht, cells5_len]; omega
    rw [List.getElem?_take_of_lt (by simp at hlen; omega)]
    simp [Nat.zero_add]
  exact ⟨key 0 (by omega), key 1 (by omega), key 2 (by omega), key 3 (by omega), key 4 (by omega)⟩

/-- A list of plain nodes is handed back: the same trees, in new memory. -/
def BackPost (ns : List Nd) (w : World) (e : Ending) (w' : World) : Prop :=
  ∃ (D : Nat) (ao : Option Addr) (cap : Nat) (ms : List Nd), e = .returned (.slice ao ns.length cap) ∧ ms.length = ns.length ∧ (∀ (i : Nat) (n m : Nd), ns[i]? = some n → ms[i]? = some m → SameD D n m) ∧ ListIn (From w.heap.size) D w' ao ms ∧ Below w.heap.size w w'

theorem BackOk.done {B : Nat} {ns : List Nd} {v : Value} {w : World} (h : BackOk B ns ns.length v w) :
    ∃ (D : Nat) (ao : Option Addr) (cap : Nat) (ms : List Nd), v = .slice ao ns.length cap ∧ ms.length = ns.length ∧ (∀ (i : Nat) (n m : Nd), ns[i]? = some n → ms[i]? = some m → SameD D n m) ∧ ListIn (From B) D w ao ms := by
  obtain ⟨D, ms, h1, hl, h2⟩ := h
  have h3 : ∀ (i : Nat) (m : Nd), ms[i]? = some m → LiesIn (From B) D w m := by
    intro i m hm
    obtain ⟨n, hn⟩ : ∃ n, ns[i]? = some n := ⟨ns[i]'(by have := (List.getElem?_eq_some_iff.1 hm).1; omega), List.getElem?_eq_getElem _⟩
    exact (h2 i n m hn hm).2.mono fun b hb => hb.1
  rcases h1.2 with ⟨rfl, h0⟩ | ⟨g, cap, cur, rfl, hB, hg, hc1, hc2, hc3, hc4⟩
  · exact ⟨D, none, 0, ms, by rw [h0], hl, fun i n m hn hm => (h2 i n m hn hm).1, fun i m hm => by have := (List.getElem?_eq_some_iff.1 hm).1; omega⟩
  · exact ⟨D, _, cap, ms, rfl, hl, fun i n m hn hm => (h2 i n m hn hm).1, fun i m hm => ⟨⟨g, 0, hB, rfl, row_cells (cap := cap) hg hc4 hm⟩, h3 i m hm⟩⟩

theorem BackOk.shape {B : Nat} {ns : List Nd} {j : Nat} {v : Value} {w : World} (h : BackOk B ns j v w) : ∃ ao cap, v = .slice ao j cap := by
  obtain ⟨D, ms, h1, _⟩ := h
  rcases h1.2 with ⟨rfl, h0⟩ | ⟨g, cap, cur, rfl, _⟩
  · exact ⟨none, 0, by rw [h0]⟩
  · exact ⟨_, cap, rfl⟩

theorem class_8 {x : Nd} (h : ofClassB x 8 = true) (h0 : x.kind ≠ 0) : x.kind ∈ exprL := by
  have h1 : ((x.kind == 0) || isExprB x.kind) = true := h
  have h2 : isExprB x.kind = true := by simpa [h0] using h1
  exact class_0 (show ofClassB x 0 = true from h2)

theorem PreD.none0 {d : Nat} {x : Nd} (h : PreD d x) (h0 : x.kind = 0) : x.text = empties ∧ x.more = empties ∧ x.num = 0 ∧ x.kids = [] := by
  obtain ⟨e, rfl⟩ := h.pos
  rcases h.1 with h1 | h1
  · exact h1.2
  · have := h1.1; omega

theorem none_same {x : Nd} (h0 : x.kind = 0) (h : x.text = empties ∧ x.more = empties ∧ x.num = 0 ∧ x.kids = []) : SameD 1 x Nd.none := by
  obtain ⟨h1, h2, h3, h4⟩ := h
  exact ⟨h0, h1, h2, h3, by rw [h4]; rfl, fun i a b ha _ => by rw [h4] at ha; simp at ha⟩

theorem none_lies (A : Nat → Prop) (w : World) : LiesIn A 1 w Nd.none := by
  refine ⟨⟨by decide, by decide, by decide, by decide, by decide, by decide, by decide⟩, fun i x hx => ?_⟩
  have : ([] : List Nd)[i]? = some x := hx
  simp at this

/-- A plain node whose kids have just been laid in a row. -/
theorem back_fin {w W : World} {k : Int} {t mo : ByteArray} {u : Int} {oa : Option Addr} {c : Nat} {kids : List Nd} {g cap : Nat} {T : TypeId} (ms : List Nd) (hlen : ms.length = kids.length) (hwf : (Nd.mk k t mo u oa c kids).wf) (hB : Below w.heap.size w W) (hg : g = W.heap.size)
    (hk : ∀ (i : Nat) (x y : Nd), kids[i]? = some x → ms[i]? = some y → ∃ D, SameD D x y ∧ LiesIn (From w.heap.size) D W y) :
    NodePost (.mk k t mo u oa c kids) w (.returned (.agg #[.int .i64 k, .string t, .string mo, .int .u64 u, .slice (some ⟨g, 0, none⟩) ms.length cap])) (W.alloc (.cells (ms.flatMap Nd.cells5).toArray T)) := by
  subst hg
  obtain ⟨D, hD⟩ := Deep.fuel_lt (n := ms.length) (q := fun i D => ∀ (x y : Nd), kids[i]? = some x → ms[i]? = some y → SameD D x y ∧ LiesIn (From w.heap.size) D W y)
    (fun i a b hab h x y hx hy => ⟨(h x y hx hy).1.up hab, (h x y hx hy).2.up hab⟩)
    (fun i hi => by
      obtain ⟨x, hx⟩ : ∃ x, kids[i]? = some x := ⟨kids[i]'(by omega), List.getElem?_eq_getElem _⟩
      obtain ⟨y, hy⟩ : ∃ y, ms[i]? = some y := ⟨ms[i]'hi, List.getElem?_eq_getElem _⟩
      obtain ⟨E, h1, h2⟩ := hk i x y hx hy
      refine ⟨E, fun x' y' hx' hy' => ?_⟩
      rw [hx] at hx'; cases hx'
      rw [hy] at hy'; cases hy'
      exact ⟨h1, h2⟩)
  obtain ⟨w1, w2, w3, w4, w5, w6, w7⟩ := hwf
  refine ⟨D + 1, .mk k t mo u (some ⟨W.heap.size, 0, none⟩) cap ms, rfl, ⟨rfl, rfl, rfl, rfl, hlen.symm, fun i x y hx hy => (hD i (List.getElem?_eq_some_iff.1 hy).1 x y hx hy).1⟩, ⟨⟨w1, w2, by simp only [Nd.kids] at w3 ⊢; omega, w4, w5, w6, w7⟩, fun i y hy => ?_⟩, hB.alloc hB.size _⟩
  have hy' : ms[i]? = some y := hy
  have hi := (List.getElem?_eq_some_iff.1 hy').1
  obtain ⟨x, hx⟩ : ∃ x, kids[i]? = some x := ⟨kids[i]'(by omega), List.getElem?_eq_getElem _⟩
  refine ⟨⟨W.heap.size, 0, hB.size, rfl, row_cells (j := ms.length) (cap := 0) (heap_alloc_new W _) ?_ hy'⟩, ((hD i hi x y hx hy').2).below ((Below.refl _ _).alloc (Nat.le_refl _) _)⟩
  simp only []
  rw [List.take_of_length_le (by rw [cells5_len]; exact Nat.le_refl _)]

/-- A plain node without kids. -/
theorem back_leaf {w W : World} {k : Int} {t mo : ByteArray} {u : Int} {oa : Option Addr} {c : Nat} (hwf : (Nd.mk k t mo u oa c []).wf) (hB : Below w.heap.size w W) :
    NodePost (.mk k t mo u oa c []) w (.returned (.agg #[.int .i64 k, .string t, .string mo, .int .u64 u, .slice none 0 0])) W := by
  obtain ⟨w1, w2, w3, w4, w5, w6, w7⟩ := hwf
  exact ⟨1, .mk k t mo u none 0 [], rfl, ⟨rfl, rfl, rfl, rfl, rfl, fun i x y hx _ => by have : ([] : List Nd)[i]? = some x := hx; simp at this⟩, ⟨⟨w1, w2, by simp [Nd.kids], w4, w5, w6, w7⟩, fun i y hy => by have : ([] : List Nd)[i]? = some y := hy; simp at this⟩, hB⟩

/-- What a variable that holds a node holds at first. -/
def zN : Obj := .cells #[.int .i64 0, .string ⟨#[]⟩, .string ⟨#[]⟩, .int .u64 0, .slice none 0 0] 25

/-- The result is stored into its variable, and read from there. -/
theorem NodePost.stored {n : Nd} {w W : World} {e : Ending} (v0 v1 v2 v3 v4 : Value) (h : NodePost n (w.alloc zN) e W) :
    NodePost n w e (((((W.setCell ⟨w.heap.size, 0, none⟩ v0).setCell ⟨w.heap.size, 1, none⟩ v1).setCell ⟨w.heap.size, 2, none⟩ v2).setCell ⟨w.heap.size, 3, none⟩ v3).setCell ⟨w.heap.size, 4, none⟩ v4) := by
  obtain ⟨D, m, he, hs, hl, hb⟩ := h
  have hsz : (w.alloc zN).heap.size = w.heap.size + 1 := by simp
  rw [hsz] at hl hb
  refine ⟨D, m, he, hs, hl.carry (fun b o hA ho => ⟨?_, Nat.le_trans (Nat.le_succ _) hA⟩), ?_⟩
  · have hne : b ≠ w.heap.size := fun e => by unfold From at hA; omega
    have hst : ∀ (X : World) (j : Nat) (v : Value), (X.setCell ⟨w.heap.size, j, none⟩ v).heap[b]? = X.heap[b]? := fun X j v => Below.heap_setCell _ _ _ _ hne
    rw [hst, hst, hst, hst, hst]
    exact ho
  · have h0 : Below w.heap.size w W := ((Below.refl w.heap.size w).alloc (Nat.le_refl _) zN).trans (hb.mono (by simp))
    exact ((((h0.setCell (p := ⟨w.heap.size, 0, none⟩) (Nat.le_refl _) _).setCell (p := ⟨w.heap.size, 1, none⟩) (Nat.le_refl _) _).setCell (p := ⟨w.heap.size, 2, none⟩) (Nat.le_refl _) _).setCell (p := ⟨w.heap.size, 3, none⟩) (Nat.le_refl _) _).setCell (p := ⟨w.heap.size, 4, none⟩) (Nat.le_refl _) _

/-- Likewise, where something has been laid behind it. -/
theorem NodePost.stored2 {n : Nd} {w W : World} {e : Ending} {o : Obj} (v0 v1 v2 v3 v4 : Value) (hB : Below (w.alloc zN).heap.size (w.alloc zN) W) (h : NodePost n (w.alloc zN) e (W.alloc o)) :
    NodePost n w e ((((((W.setCell ⟨w.heap.size, 0, none⟩ v0).setCell ⟨w.heap.size, 1, none⟩ v1).setCell ⟨w.heap.size, 2, none⟩ v2).setCell ⟨w.heap.size, 3, none⟩ v3).setCell ⟨w.heap.size, 4, none⟩ v4).alloc o) := by
  obtain ⟨D, m, he, hs, hl, hb⟩ := h
  have hsz : (w.alloc zN).heap.size = w.heap.size + 1 := by simp
  rw [hsz] at hl hb
  have hlt : w.heap.size < W.heap.size := by have := hB.size; rw [hsz] at this; omega
  have h0 : Below w.heap.size w W := ((Below.refl w.heap.size w).alloc (Nat.le_refl _) zN).trans (hB.mono (by simp))
  have h5 := ((((h0.setCell (p := ⟨w.heap.size, 0, none⟩) (Nat.le_refl _) v0).setCell (p := ⟨w.heap.size, 1, none⟩) (Nat.le_refl _) v1).setCell (p := ⟨w.heap.size, 2, none⟩) (Nat.le_refl _) v2).setCell (p := ⟨w.heap.size, 3, none⟩) (Nat.le_refl _) v3).setCell (p := ⟨w.heap.size, 4, none⟩) (Nat.le_refl _) v4
  generalize hX : ((((W.setCell ⟨w.heap.size, 0, none⟩ v0).setCell ⟨w.heap.size, 1, none⟩ v1).setCell ⟨w.heap.size, 2, none⟩ v2).setCell ⟨w.heap.size, 3, none⟩ v3).setCell ⟨w.heap.size, 4, none⟩ v4 = X at h5 ⊢
  have hXs : X.heap.size = W.heap.size := by rw [← hX]; simp [World.setCell]
  have hXb : ∀ b, b ≠ w.heap.size → X.heap[b]? = W.heap[b]? := by
    intro b hne
    have hst : ∀ (Y : World) (j : Nat) (v : Value), (Y.setCell ⟨w.heap.size, j, none⟩ v).heap[b]? = Y.heap[b]? := fun Y j v => Below.heap_setCell _ _ _ _ hne
    rw [← hX, hst, hst, hst, hst, hst]
  refine ⟨D, m, he, hs, hl.carry (fun b ob hA ho => ⟨?_, Nat.le_trans (Nat.le_succ _) hA⟩), h5.alloc h5.size _⟩
  have hne : b ≠ w.heap.size := fun e => by unfold From at hA; omega
  have hbl : b < (W.alloc o).heap.size := (Array.getElem?_eq_some_iff.1 ho).1
  simp at hbl
  by_cases hbW : b < W.heap.size
  · rw [heap_alloc_old _ _ hbW] at ho
    rw [heap_alloc_old _ _ (by omega), hXb b hne]
    exact ho
  · obtain rfl : b = W.heap.size := by omega
    rw [heap_alloc_new] at ho
    rw [← hXs, heap_alloc_new]
    exact ho

/-- A plain node whose kids are a list that has been handed back. -/
theorem back_list {w W : World} {k : Int} {t mo : ByteArray} {u : Int} {oa : Option Addr} {c : Nat} {kids ms : List Nd} {ao : Option Addr} {cap D : Nat} (hlen : ms.length = kids.length) (hwf : (Nd.mk k t mo u oa c kids).wf) (hB : Below w.heap.size w W)
    (hs : ∀ (i : Nat) (x y : Nd), kids[i]? = some x → ms[i]? = some y → SameD D x y) (hl : ListIn (From w.heap.size) D W ao ms) :
    NodePost (.mk k t mo u oa c kids) w (.returned (.agg #[.int .i64 k, .string t, .string mo, .int .u64 u, .slice ao kids.length cap])) W := by
  obtain ⟨w1, w2, w3, w4, w5, w6, w7⟩ := hwf
  rw [← hlen]
  exact ⟨D + 1, .mk k t mo u ao cap ms, rfl, ⟨rfl, rfl, rfl, rfl, hlen.symm, hs⟩, ⟨⟨w1, w2, by simp only [Nd.kids] at w3 ⊢; omega, w4, w5, w6, w7⟩, hl⟩, hB⟩

theorem NodePost.keep {n m : Nd} {E : Nat} {w W : World} (hS : SameD E n m) (hl : LiesIn (From w.heap.size) E W m) (hb : Below w.heap.size w W) :
    NodePost n w (.returned (.agg #[.int .i64 m.kind, .string m.text, .string m.more, .int .u64 m.num, .slice m.ao m.kids.length m.cap])) W := ⟨E, m, rfl, hS, hl, hb⟩
end Go.Proofs.YtcbcdgifakcooaaGreatDoor
namespace Go.Proofs.YtcbcdgifakcooaaGreatDoor
open Go.RowKit
set_option linter.unusedVariables false

theorem no_2 (T : TypeId) (h : T ≠ 78) (p : Value) (w : World) : Sem.run Tryz.prog (Instr.typeAssert (.iface T p) 77 78 true) w = .ok (.tuple #[.pointer none, .bool false]) w := by
  have hz : Sem.run Tryz.prog (zeroValue 78) w = .ok (.pointer none) w := by kernel_rfl
  unfold Instr.typeAssert
  simp [go_sem, hz, h]
theorem yes_2 (p : Value) (w : World) : Sem.run Tryz.prog (Instr.typeAssert (.iface 78 p) 77 78 true) w = .ok (.tuple #[p, .bool true]) w := by kernel_rfl

theorem no_3 (T : TypeId) (h : T ≠ 83) (p : Value) (w : World) : Sem.run Tryz.prog (Instr.typeAssert (.iface T p) 77 83 true) w = .ok (.tuple #[.pointer none, .bool false]) w := by
  have hz : Sem.run Tryz.prog (zeroValue 83) w = .ok (.pointer none) w := by kernel_rfl
  unfold Instr.typeAssert
  simp [go_sem, hz, h]
theorem yes_3 (p : Value) (w : World) : Sem.run Tryz.prog (Instr.typeAssert (.iface 83 p) 77 83 true) w = .ok (.tuple #[p, .bool true]) w := by kernel_rfl

theorem no_4 (T : TypeId) (h : T ≠ 84) (p : Value) (w : World) : Sem.run Tryz.prog (Instr.typeAssert (.iface T p) 77 84 true) w = .ok (.tuple #[.pointer none, .bool false]) w := by
  have hz : Sem.run Tryz.prog (zeroValue 84) w = .ok (.pointer none) w := by kernel_rfl
  unfold Instr.typeAssert
  simp [go_sem, hz, h]
theorem yes_4 (p : Value) (w : World) : Sem.run Tryz.prog (Instr.typeAssert (.iface 84 p) 77 84 true) w = .ok (.tuple #[p, .bool true]) w := by kernel_rfl

theorem no_5 (T : TypeId) (h : T ≠ 93) (p : Value) (w : World) : Sem.run Tryz.prog (Instr.typeAssert (.iface T p) 77 93 true) w = .ok (.tuple #[.pointer none, .bool false]) w := by
  have hz : Sem.run Tryz.prog (zeroValue 93) w = .ok (.pointer none) w := by kernel_rfl
  unfold Instr.typeAssert
  simp [go_sem, hz, h]
theorem yes_5 (p : Value) (w : World) : Sem.run Tryz.prog (Instr.typeAssert (.iface 93 p) 77 93 true) w = .ok (.tuple #[p, .bool true]) w := by kernel_rfl

theorem no_6 (T : TypeId) (h : T ≠ 106) (p : Value) (w : World) : Sem.run Tryz.prog (Instr.typeAssert (.iface T p) 77 106 true) w = .ok (.tuple #[.pointer none, .bool false]) w := by
  have hz : Sem.run Tryz.prog (zeroValue 106) w = .ok (.pointer none) w := by kernel_rfl
  unfold Instr.typeAssert
  simp [go_sem, hz, h]
theorem yes_6 (p : Value) (w : World) : Sem.run Tryz.prog (Instr.typeAssert (.iface 106 p) 77 106 true) w = .ok (.tuple #[p, .bool true]) w := by kernel_rfl

theorem no_7 (T : TypeId) (h : T ≠ 109) (p : Value) (w : World) : Sem.run Tryz.prog (Instr.typeAssert (.iface T p) 77 109 true) w = .ok (.tuple #[.pointer none, .bool false]) w := by
  have hz : Sem.run Tryz.prog (zeroValue 109) w = .ok (.pointer none) w := by kernel_rfl
  unfold Instr.typeAssert
  simp [go_sem, hz, h]
theorem yes_7 (p : Value) (w : World) : Sem.run Tryz.prog (Instr.typeAssert (.iface 109 p) 77 109 true) w = .ok (.tuple #[p, .bool true]) w := by kernel_rfl

theorem no_8 (T : TypeId) (h : T ≠ 112) (p : Value) (w : World) : Sem.run Tryz.prog (Instr.typeAssert (.iface T p) 77 112 true) w = .ok (.tuple #[.pointer none, .bool false]) w := by
  have hz : Sem.run Tryz.prog (zeroValue 112) w = .ok (.pointer none) w := by kernel_rfl
  unfold Instr.typeAssert
  simp [go_sem, hz, h]
theorem yes_8 (p : Value) (w : World) : Sem.run Tryz.prog (Instr.typeAssert (.iface 112 p) 77 112 true) w = .ok (.tuple #[p, .bool true]) w := by kernel_rfl

theorem no_9 (T : TypeId) (h : T ≠ 117) (p : Value) (w : World) : Sem.run Tryz.prog (Instr.typeAssert (.iface T p) 77 117 true) w = .ok (.tuple #[.pointer none, .bool false]) w := by
  have hz : Sem.run Tryz.prog (zeroValue 117) w = .ok (.pointer none) w := by kernel_rfl
  unfold Instr.typeAssert
  simp [go_sem, hz, h]
theorem yes_9 (p : Value) (w : World) : Sem.run Tryz.prog (Instr.typeAssert (.iface 117 p) 77 117 true) w = .ok (.tuple #[p, .bool true]) w := by kernel_rfl

theorem no_10 (T : TypeId) (h : T ≠ 120) (p : Value) (w : World) : Sem.run Tryz.prog (Instr.typeAssert (.iface T p) 77 120 true) w = .ok (.tuple #[.pointer none, .bool false]) w := by
  have hz : Sem.run Tryz.prog (zeroValue 120) w = .ok (.pointer none) w := by kernel_rfl
  unfold Instr.typeAssert
  simp [go_sem, hz, h]
theorem yes_10 (p : Value) (w : World) : Sem.run Tryz.prog (Instr.typeAssert (.iface 120 p) 77 120 true) w = .ok (.tuple #[p, .bool true]) w := by kernel_rfl

theorem no_11 (T : TypeId) (h : T ≠ 123) (p : Value) (w : World) : Sem.run Tryz.prog (Instr.typeAssert (.iface T p) 77 123 true) w = .ok (.tuple #[.pointer none, .bool false]) w := by
  have hz : Sem.run Tryz.prog (zeroValue 123) w = .ok (.pointer none) w := by kernel_rfl
  unfold Instr.typeAssert
  simp [go_sem, hz, h]
theorem yes_11 (p : Value) (w : World) : Sem.run Tryz.prog (Instr.typeAssert (.iface 123 p) 77 123 true) w = .ok (.tuple #[p, .bool true]) w := by kernel_rfl

theorem no_12 (T : TypeId) (h : T ≠ 132) (p : Value) (w : World) : Sem.run Tryz.prog (Instr.typeAssert (.iface T p) 77 132 true) w = .ok (.tuple #[.pointer none, .bool false]) w := by
  have hz : Sem.run Tryz.prog (zeroValue 132) w = .ok (.pointer none) w := by kernel_rfl
  unfold Instr.typeAssert
  simp [go_sem, hz, h]
theorem yes_12 (p : Value) (w : World) : Sem.run Tryz.prog (Instr.typeAssert (.iface 132 p) 77 132 true) w = .ok (.tuple #[p, .bool true]) w := by kernel_rfl

theorem no_13 (T : TypeId) (h : T ≠ 137) (p : Value) (w : World) : Sem.run Tryz.prog (Instr.typeAssert (.iface T p) 77 137 true) w = .ok (.tuple #[.pointer none, .bool false]) w := by
  have hz : Sem.run Tryz.prog (zeroValue 137) w = .ok (.pointer none) w := by kernel_rfl
  unfold Instr.typeAssert
  simp [go_sem, hz, h]
theorem yes_13 (p : Value) (w : World) : Sem.run Tryz.prog (Instr.typeAssert (.iface 137 p) 77 137 true) w = .ok (.tuple #[p, .bool true]) w := by kernel_rfl

theorem no_14 (T : TypeId) (h : T ≠ 145) (p : Value) (w : World) : Sem.run Tryz.prog (Instr.typeAssert (.iface T p) 77 145 true) w = .ok (.tuple #[.pointer none, .bool false]) w := by
  have hz : Sem.run Tryz.prog (zeroValue 145) w = .ok (.pointer none) w := by kernel_rfl
  unfold Instr.typeAssert
  simp [go_sem, hz, h]
theorem yes_14 (p : Value) (w : World) : Sem.run Tryz.prog (Instr.typeAssert (.iface 145 p) 77 145 true) w = .ok (.tuple #[p, .bool true]) w := by kernel_rfl

theorem no_15 (T : TypeId) (h : T ≠ 149) (p : Value) (w : World) : Sem.run Tryz.prog (Instr.typeAssert (.iface T p) 77 149 true) w = .ok (.tuple #[.pointer none, .bool false]) w := by
  have hz : Sem.run Tryz.prog (zeroValue 149) w = .ok (.pointer none) w := by kernel_rfl
  unfold Instr.typeAssert
  simp [go_sem, hz, h]
theorem yes_15 (p : Value) (w : World) : Sem.run Tryz.prog (Instr.typeAssert (.iface 149 p) 77 149 true) w = .ok (.tuple #[p, .bool true]) w := by kernel_rfl

theorem no_16 (T : TypeId) (h : T ≠ 153) (p : Value) (w : World) : Sem.run Tryz.prog (Instr.typeAssert (.iface T p) 77 153 true) w = .ok (.tuple #[.pointer none, .bool false]) w := by
  have hz : Sem.run Tryz.prog (zeroValue 153) w = .ok (.pointer none) w := by kernel_rfl
  unfold Instr.typeAssert
  simp [go_sem, hz, h]
theorem yes_16 (p : Value) (w : World) : Sem.run Tryz.prog (Instr.typeAssert (.iface 153 p) 77 153 true) w = .ok (.tuple #[p, .bool true]) w := by kernel_rfl

theorem no_17 (T : TypeId) (h : T ≠ 129) (p : Value) (w : World) : Sem.run Tryz.prog (Instr.typeAssert (.iface T p) 77 129 true) w = .ok (.tuple #[.pointer none, .bool false]) w := by
  have hz : Sem.run Tryz.prog (zeroValue 129) w = .ok (.pointer none) w := by kernel_rfl
  unfold Instr.typeAssert
  simp [go_sem, hz, h]
theorem yes_17 (p : Value) (w : World) : Sem.run Tryz.prog (Instr.typeAssert (.iface 129 p) 77 129 true) w = .ok (.tuple #[p, .bool true]) w := by kernel_rfl

theorem no_18 (T : TypeId) (h : T ≠ 158) (p : Value) (w : World) : Sem.run Tryz.prog (Instr.typeAssert (.iface T p) 77 158 true) w = .ok (.tuple #[.pointer none, .bool false]) w := by
  have hz : Sem.run Tryz.prog (zeroValue 158) w = .ok (.pointer none) w := by kernel_rfl
  unfold Instr.typeAssert
  simp [go_sem, hz, h]
theorem yes_18 (p : Value) (w : World) : Sem.run Tryz.prog (Instr.typeAssert (.iface 158 p) 77 158 true) w = .ok (.tuple #[p, .bool true]) w := by kernel_rfl

theorem no_19 (T : TypeId) (h : T ≠ 161) (p : Value) (w : World) : Sem.run Tryz.prog (Instr.typeAssert (.iface T p) 77 161 true) w = .ok (.tuple #[.pointer none, .bool false]) w := by
  have hz : Sem.run Tryz.prog (zeroValue 161) w = .ok (.pointer none) w := by kernel_rfl
  unfold Instr.typeAssert
  simp [go_sem, hz, h]
theorem yes_19 (p : Value) (w : World) : Sem.run Tryz.prog (Instr.typeAssert (.iface 161 p) 77 161 true) w = .ok (.tuple #[p, .bool true]) w := by kernel_rfl

theorem no_20 (T : TypeId) (h : T ≠ 165) (p : Value) (w : World) : Sem.run Tryz.prog (Instr.typeAssert (.iface T p) 77 165 true) w = .ok (.tuple #[.pointer none, .bool false]) w := by
  have hz : Sem.run Tryz.prog (zeroValue 165) w = .ok (.pointer none) w := by kernel_rfl
  unfold Instr.typeAssert
  simp [go_sem, hz, h]
theorem yes_20 (p : Value) (w : World) : Sem.run Tryz.prog (Instr.typeAssert (.iface 165 p) 77 165 true) w = .ok (.tuple #[p, .bool true]) w := by kernel_rfl

theorem no_21 (T : TypeId) (h : T ≠ 171) (p : Value) (w : World) : Sem.run Tryz.prog (Instr.typeAssert (.iface T p) 77 171 true) w = .ok (.tuple #[.pointer none, .bool false]) w := by
  have hz : Sem.run Tryz.prog (zeroValue 171) w = .ok (.pointer none) w := by kernel_rfl
  unfold Instr.typeAssert
  simp [go_sem, hz, h]
theorem yes_21 (p : Value) (w : World) : Sem.run Tryz.prog (Instr.typeAssert (.iface 171 p) 77 171 true) w = .ok (.tuple #[p, .bool true]) w := by kernel_rfl

theorem no_22 (T : TypeId) (h : T ≠ 176) (p : Value) (w : World) : Sem.run Tryz.prog (Instr.typeAssert (.iface T p) 77 176 true) w = .ok (.tuple #[.pointer none, .bool false]) w := by
  have hz : Sem.run Tryz.prog (zeroValue 176) w = .ok (.pointer none) w := by kernel_rfl
  unfold Instr.typeAssert
  simp [go_sem, hz, h]
theorem yes_22 (p : Value) (w : World) : Sem.run Tryz.prog (Instr.typeAssert (.iface 176 p) 77 176 true) w = .ok (.tuple #[p, .bool true]) w := by kernel_rfl

theorem no_23 (T : TypeId) (h : T ≠ 179) (p : Value) (w : World) : Sem.run Tryz.prog (Instr.typeAssert (.iface T p) 77 179 true) w = .ok (.tuple #[.pointer none, .bool false]) w := by
  have hz : Sem.run Tryz.prog (zeroValue 179) w = .ok (.pointer none) w := by kernel_rfl
  unfold Instr.typeAssert
  simp [go_sem, hz, h]
theorem yes_23 (p : Value) (w : World) : Sem.run Tryz.prog (Instr.typeAssert (.iface 179 p) 77 179 true) w = .ok (.tuple #[p, .bool true]) w := by kernel_rfl

theorem no_24 (T : TypeId) (h : T ≠ 183) (p : Value) (w : World) : Sem.run Tryz.prog (Instr.typeAssert (.iface T p) 77 183 true) w = .ok (.tuple #[.pointer none, .bool false]) w := by
  have hz : Sem.run Tryz.prog (zeroValue 183) w = .ok (.pointer none) w := by kernel_rfl
  unfold Instr.typeAssert
  simp [go_sem, hz, h]
theorem yes_24 (p : Value) (w : World) : Sem.run Tryz.prog (Instr.typeAssert (.iface 183 p) 77 183 true) w = .ok (.tuple #[p, .bool true]) w := by kernel_rfl

theorem no_25 (T : TypeId) (h : T ≠ 186) (p : Value) (w : World) : Sem.run Tryz.prog (Instr.typeAssert (.iface T p) 77 186 true) w = .ok (.tuple #[.pointer none, .bool false]) w := by
  have hz : Sem.run Tryz.prog (zeroValue 186) w = .ok (.pointer none) w := by kernel_rfl
  unfold Instr.typeAssert
  simp [go_sem, hz, h]
theorem yes_25 (p : Value) (w : World) : Sem.run Tryz.prog (Instr.typeAssert (.iface 186 p) 77 186 true) w = .ok (.tuple #[p, .bool true]) w := by kernel_rfl

theorem no_26 (T : TypeId) (h : T ≠ 189) (p : Value) (w : World) : Sem.run Tryz.prog (Instr.typeAssert (.iface T p) 77 189 true) w = .ok (.tuple #[.pointer none, .bool false]) w := by
  have hz : Sem.run Tryz.prog (zeroValue 189) w = .ok (.pointer none) w := by kernel_rfl
  unfold Instr.typeAssert
  simp [go_sem, hz, h]
theorem yes_26 (p : Value) (w : World) : Sem.run Tryz.prog (Instr.typeAssert (.iface 189 p) 77 189 true) w = .ok (.tuple #[p, .bool true]) w := by kernel_rfl

theorem no_27 (T : TypeId) (h : T ≠ 192) (p : Value) (w : World) : Sem.run Tryz.prog (Instr.typeAssert (.iface T p) 77 192 true) w = .ok (.tuple #[.pointer none, .bool false]) w := by
  have hz : Sem.run Tryz.prog (zeroValue 192) w = .ok (.pointer none) w := by kernel_rfl
  unfold Instr.typeAssert
  simp [go_sem, hz, h]
theorem yes_27 (p : Value) (w : World) : Sem.run Tryz.prog (Instr.typeAssert (.iface 192 p) 77 192 true) w = .ok (.tuple #[p, .bool true]) w := by kernel_rfl

theorem no_28 (T : TypeId) (h : T ≠ 199) (p : Value) (w : World) : Sem.run Tryz.prog (Instr.typeAssert (.iface T p) 77 199 true) w = .ok (.tuple #[.pointer none, .bool false]) w := by
  have hz : Sem.run Tryz.prog (zeroValue 199) w = .ok (.pointer none) w := by kernel_rfl
  unfold Instr.typeAssert
  simp [go_sem, hz, h]
theorem yes_28 (p : Value) (w : World) : Sem.run Tryz.prog (Instr.typeAssert (.iface 199 p) 77 199 true) w = .ok (.tuple #[p, .bool true]) w := by kernel_rfl

theorem no_29 (T : TypeId) (h : T ≠ 167) (p : Value) (w : World) : Sem.run Tryz.prog (Instr.typeAssert (.iface T p) 77 167 true) w = .ok (.tuple #[.pointer none, .bool false]) w := by
  have hz : Sem.run Tryz.prog (zeroValue 167) w = .ok (.pointer none) w := by kernel_rfl
  unfold Instr.typeAssert
  simp [go_sem, hz, h]
theorem yes_29 (p : Value) (w : World) : Sem.run Tryz.prog (Instr.typeAssert (.iface 167 p) 77 167 true) w = .ok (.tuple #[p, .bool true]) w := by kernel_rfl

theorem no_30 (T : TypeId) (h : T ≠ 204) (p : Value) (w : World) : Sem.run Tryz.prog (Instr.typeAssert (.iface T p) 77 204 true) w = .ok (.tuple #[.pointer none, .bool false]) w := by
  have hz : Sem.run Tryz.prog (zeroValue 204) w = .ok (.pointer none) w := by kernel_rfl
  unfold Instr.typeAssert
  simp [go_sem, hz, h]
theorem yes_30 (p : Value) (w : World) : Sem.run Tryz.prog (Instr.typeAssert (.iface 204 p) 77 204 true) w = .ok (.tuple #[p, .bool true]) w := by kernel_rfl

theorem no_31 (T : TypeId) (h : T ≠ 211) (p : Value) (w : World) : Sem.run Tryz.prog (Instr.typeAssert (.iface T p) 77 211 true) w = .ok (.tuple #[.pointer none, .bool false]) w := by
  have hz : Sem.run Tryz.prog (zeroValue 211) w = .ok (.pointer none) w := by kernel_rfl
  unfold Instr.typeAssert
  simp [go_sem, hz, h]
theorem yes_31 (p : Value) (w : World) : Sem.run Tryz.prog (Instr.typeAssert (.iface 211 p) 77 211 true) w = .ok (.tuple #[p, .bool true]) w := by kernel_rfl

theorem no_32 (T : TypeId) (h : T ≠ 213) (p : Value) (w : World) : Sem.run Tryz.prog (Instr.typeAssert (.iface T p) 77 213 true) w = .ok (.tuple #[.pointer none, .bool false]) w := by
  have hz : Sem.run Tryz.prog (zeroValue 213) w = .ok (.pointer none) w := by kernel_rfl
  unfold Instr.typeAssert
  simp [go_sem, hz, h]
theorem yes_32 (p : Value) (w : World) : Sem.run Tryz.prog (Instr.typeAssert (.iface 213 p) 77 213 true) w = .ok (.tuple #[p, .bool true]) w := by kernel_rfl

theorem no_33 (T : TypeId) (h : T ≠ 68) (p : Value) (w : World) : Sem.run Tryz.prog (Instr.typeAssert (.iface T p) 77 68 true) w = .ok (.tuple #[.pointer none, .bool false]) w := by
  have hz : Sem.run Tryz.prog (zeroValue 68) w = .ok (.pointer none) w := by kernel_rfl
  unfold Instr.typeAssert
  simp [go_sem, hz, h]
theorem yes_33 (p : Value) (w : World) : Sem.run Tryz.prog (Instr.typeAssert (.iface 68 p) 77 68 true) w = .ok (.tuple #[p, .bool true]) w := by kernel_rfl

theorem no_34 (T : TypeId) (h : T ≠ 100) (p : Value) (w : World) : Sem.run Tryz.prog (Instr.typeAssert (.iface T p) 77 100 true) w = .ok (.tuple #[.pointer none, .bool false]) w := by
  have hz : Sem.run Tryz.prog (zeroValue 100) w = .ok (.pointer none) w := by kernel_rfl
  unfold Instr.typeAssert
  simp [go_sem, hz, h]
theorem yes_34 (p : Value) (w : World) : Sem.run Tryz.prog (Instr.typeAssert (.iface 100 p) 77 100 true) w = .ok (.tuple #[p, .bool true]) w := by kernel_rfl

theorem no_35 (T : TypeId) (h : T ≠ 215) (p : Value) (w : World) : Sem.run Tryz.prog (Instr.typeAssert (.iface T p) 77 215 true) w = .ok (.tuple #[.pointer none, .bool false]) w := by
  have hz : Sem.run Tryz.prog (zeroValue 215) w = .ok (.pointer none) w := by kernel_rfl
  unfold Instr.typeAssert
  simp [go_sem, hz, h]
theorem yes_35 (p : Value) (w : World) : Sem.run Tryz.prog (Instr.typeAssert (.iface 215 p) 77 215 true) w = .ok (.tuple #[p, .bool true]) w := by kernel_rfl

theorem no_36 (T : TypeId) (h : T ≠ 218) (p : Value) (w : World) : Sem.run Tryz.prog (Instr.typeAssert (.iface T p) 77 218 true) w = .ok (.tuple #[.pointer none, .bool false]) w := by
  have hz : Sem.run Tryz.prog (zeroValue 218) w = .ok (.pointer none) w := by kernel_rfl
  unfold Instr.typeAssert
  simp [go_sem, hz, h]
theorem yes_36 (p : Value) (w : World) : Sem.run Tryz.prog (Instr.typeAssert (.iface 218 p) 77 218 true) w = .ok (.tuple #[p, .bool true]) w := by kernel_rfl

theorem no_37 (T : TypeId) (h : T ≠ 221) (p : Value) (w : World) : Sem.run Tryz.prog (Instr.typeAssert (.iface T p) 77 221 true) w = .ok (.tuple #[.pointer none, .bool false]) w := by
  have hz : Sem.run Tryz.prog (zeroValue 221) w = .ok (.pointer none) w := by kernel_rfl
  unfold Instr.typeAssert
  simp [go_sem, hz, h]
theorem yes_37 (p : Value) (w : World) : Sem.run Tryz.prog (Instr.typeAssert (.iface 221 p) 77 221 true) w = .ok (.tuple #[p, .bool true]) w := by kernel_rfl

theorem no_38 (T : TypeId) (h : T ≠ 224) (p : Value) (w : World) : Sem.run Tryz.prog (Instr.typeAssert (.iface T p) 77 224 true) w = .ok (.tuple #[.pointer none, .bool false]) w := by
  have hz : Sem.run Tryz.prog (zeroValue 224) w = .ok (.pointer none) w := by kernel_rfl
  unfold Instr.typeAssert
  simp [go_sem, hz, h]
theorem yes_38 (p : Value) (w : World) : Sem.run Tryz.prog (Instr.typeAssert (.iface 224 p) 77 224 true) w = .ok (.tuple #[p, .bool true]) w := by kernel_rfl

theorem no_39 (T : TypeId) (h : T ≠ 229) (p : Value) (w : World) : Sem.run Tryz.prog (Instr.typeAssert (.iface T p) 77 229 true) w = .ok (.tuple #[.pointer none, .bool false]) w := by
  have hz : Sem.run Tryz.prog (zeroValue 229) w = .ok (.pointer none) w := by kernel_rfl
  unfold Instr.typeAssert
  simp [go_sem, hz, h]
theorem yes_39 (p : Value) (w : World) : Sem.run Tryz.prog (Instr.typeAssert (.iface 229 p) 77 229 true) w = .ok (.tuple #[p, .bool true]) w := by kernel_rfl

theorem no_41 (T : TypeId) (h : T ≠ 234) (p : Value) (w : World) : Sem.run Tryz.prog (Instr.typeAssert (.iface T p) 77 234 true) w = .ok (.tuple #[.pointer none, .bool false]) w := by
  have hz : Sem.run Tryz.prog (zeroValue 234) w = .ok (.pointer none) w := by kernel_rfl
  unfold Instr.typeAssert
  simp [go_sem, hz, h]
theorem yes_41 (p : Value) (w : World) : Sem.run Tryz.prog (Instr.typeAssert (.iface 234 p) 77 234 true) w = .ok (.tuple #[p, .bool true]) w := by kernel_rfl

theorem no_42 (T : TypeId) (h : T ≠ 239) (p : Value) (w : World) : Sem.run Tryz.prog (Instr.typeAssert (.iface T p) 77 239 true) w = .ok (.tuple #[.pointer none, .bool false]) w := by
  have hz : Sem.run Tryz.prog (zeroValue 239) w = .ok (.pointer none) w := by kernel_rfl
  unfold Instr.typeAssert
  simp [go_sem, hz, h]
theorem yes_42 (p : Value) (w : World) : Sem.run Tryz.prog (Instr.typeAssert (.iface 239 p) 77 239 true) w = .ok (.tuple #[p, .bool true]) w := by kernel_rfl

theorem no_43 (T : TypeId) (h : T ≠ 243) (p : Value) (w : World) : Sem.run Tryz.prog (Instr.typeAssert (.iface T p) 77 243 true) w = .ok (.tuple #[.pointer none, .bool false]) w := by
  have hz : Sem.run Tryz.prog (zeroValue 243) w = .ok (.pointer none) w := by kernel_rfl
  unfold Instr.typeAssert
  simp [go_sem, hz, h]
theorem yes_43 (p : Value) (w : World) : Sem.run Tryz.prog (Instr.typeAssert (.iface 243 p) 77 243 true) w = .ok (.tuple #[p, .bool true]) w := by kernel_rfl
end Go.Proofs.YtcbcdgifakcooaaGreatDoor
