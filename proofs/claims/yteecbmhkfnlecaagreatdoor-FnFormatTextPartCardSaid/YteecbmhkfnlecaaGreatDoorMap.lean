/-
  Maps that a call makes out of literals: integers as keys, values of any kind; and maps of lists of integers. No conditions.
-/
import Derived.Test.YteecbmhkfnlecaaGreatDoorSmall
import Derived.Maps.OwnOps
import Derived.Maps.Views
namespace Go.Proofs.YteecbmhkfnlecaaGreatDoor
open Go.RowKit
open Go.Maps (Keyed)
set_option linter.unusedVariables false

theorem und3 : Tryz.prog.underlying 3 = some (.int .i64) := by kernel_rfl
theorem law3 : Keyed Tryz.prog 3 := Maps.int_keyed und3

/-- A value stands for itself. -/
def heldR (v : Value) : Option (DataW Value × List MemPlace) := some (.held v, [])
def datL (l : List (Int × Value)) : DataW Value := l.foldl (fun D p => D.put (.int .i64 p.1) (.held p.2)) (.map [])
def lookV (l : List (Int × Value)) (z : Value) (c : Int) : Value := l.foldl (fun acc p => if p.1 = c then p.2 else acc) z

theorem datL_map (l : List (Int × Value)) : Maps.IsMap (datL l) := by
  unfold datL
  have : ∀ (l : List (Int × Value)) (D : DataW Value), Maps.IsMap D → Maps.IsMap (l.foldl (fun D p => D.put (.int .i64 p.1) (.held p.2)) D) := by
    intro l
    induction l with
    | nil => intro D h; exact h
    | cons p l ih =>
      intro D h
      refine ih _ ?_
      obtain ⟨es, rfl⟩ := h
      exact ⟨_, rfl⟩
  exact this l _ ⟨_, rfl⟩

theorem datL_snoc (l : List (Int × Value)) (k : Int) (v : Value) : datL (l ++ [(k, v)]) = (datL l).put (.int .i64 k) (.held v) := by simp [datL, List.foldl_append]
theorem lookV_snoc (l : List (Int × Value)) (z : Value) (c k : Int) (v : Value) : lookV (l ++ [(k, v)]) z c = if k = c then v else lookV l z c := by simp [lookV, List.foldl_append]

theorem atKey_datL (z : Value) (c : Int) : ∀ (n : Nat) (l : List (Int × Value)), l.length = n → (datL l).atKey (.int .i64 c) (.held z) = .held (lookV l z c) := by
  intro n
  induction n with
  | zero => intro l hl; obtain rfl : l = [] := List.eq_nil_of_length_eq_zero hl; rfl
  | succ n ih =>
    intro l hl
    have hne : l ≠ [] := by intro e; subst e; simp at hl
    have e : l = l.dropLast ++ [l.getLast hne] := (List.dropLast_concat_getLast hne).symm
    obtain ⟨l', p, rfl⟩ : ∃ l' p, l = l' ++ [p] := ⟨_, _, e⟩
    obtain ⟨k, v⟩ := p
    have hl' : l'.length = n := by simp at hl; omega
    rw [datL_snoc, lookV_snoc]
    by_cases hk : k = c
    · subst hk
      rw [if_pos rfl, Maps.atKey_put_same (datL_map l') (by exact trivial)]
    · rw [if_neg hk, Maps.atKey_put_other (by intro e; cases e; exact hk rfl)]
      exact ih l' hl'

/-- A block is a map whose entries are these. -/
def LitMap (w : World) (b : Nat) (l : List (Int × Value)) : Prop := w.ownsMap Tryz.prog 3 heldR b l.length (datL l)

theorem LitMap.made (w : World) : LitMap (w.alloc (.map #[] 0)) w.heap.size [] := World.ownsMap_made w _ _ _

theorem LitMap.insert {w : World} {b : Nat} {l : List (Int × Value)} {t e : TypeId} (h : LitMap w b l) (ht : Tryz.prog.underlying t = some (.map 3 e)) (hl : l.length < 1000) (k : Int) (v : Value) (hk : (Lit.int .i64 k).wf = true) :
    ∃ w', (Instr.mapUpdate t (.map (some b)) (.int .i64 k) v).run Tryz.prog w = .ok () w' ∧ LitMap w' b (l ++ [(k, v)]) ∧ w.grownBy w' (some b) := by
  obtain ⟨w', h1, h2, h3⟩ := World.ownsMap.update h law3 ht (by unfold maxLen; omega) (Maps.keyOf_int_mk und3 hk) (d := .held v) (ps := []) rfl
  refine ⟨w', h1, ?_, h3⟩
  unfold LitMap
  rw [datL_snoc]
  simpa using h2

theorem LitMap.lookup {w : World} {b : Nat} {l : List (Int × Value)} {t e : TypeId} (h : LitMap w b l) (ht : Tryz.prog.underlying t = some (.map 3 e)) (z : Value) (hz : (zeroValue e).run Tryz.prog w = .ok z w) (c : Int) (hc : (Lit.int .i64 c).wf = true) :
    (Instr.lookup t (.map (some b)) (.int .i64 c) false).run Tryz.prog w = .ok (lookV l z c) w := by
  obtain ⟨v, ps, h1, h2⟩ := World.ownsMap.lookup h law3 ht hz (zd := .held z) (zp := []) rfl (Maps.keyOf_int_mk und3 hc)
  rw [atKey_datL z c l.length l rfl] at h2
  simp only [heldR, Option.some.injEq, Prod.mk.injEq, DataW.held.injEq] at h2
  rw [h1, h2.1]

/-- A map of values, and nothing else has turned since w0. -/
def VMap (w0 w : World) (b : Nat) (l : List (Int × Value)) : Prop := Below w0.heap.size w0 w ∧ w0.heap.size ≤ b ∧ LitMap w b l

theorem VMap.made (w : World) : VMap w (w.alloc (.map #[] 0)) w.heap.size [] := ⟨(Below.refl _ _).alloc (Nat.le_refl _) _, Nat.le_refl _, LitMap.made w⟩

theorem VMap.insert {w0 w : World} {b : Nat} {l : List (Int × Value)} {t e : TypeId} (h : VMap w0 w b l) (ht : Tryz.prog.underlying t = some (.map 3 e)) (hl : l.length < 1000) (k : Int) (v : Value) (hk : (Lit.int .i64 k).wf = true) :
    ∃ w', (Instr.mapUpdate t (.map (some b)) (.int .i64 k) v).run Tryz.prog w = .ok () w' ∧ VMap w0 w' b (l ++ [(k, v)]) ∧ w.grownBy w' (some b) := by
  obtain ⟨h1, h2, h3⟩ := h
  obtain ⟨w', hr, hm, hg⟩ := h3.insert ht hl k v hk
  exact ⟨w', hr, ⟨h1.grown hg h1.size (fun j hj => by cases hj; exact h2), h2, hm⟩, hg⟩

/-- At the operation that lays an entry of a map's literal. -/
theorem wpList_insert_v {w0 w : World} {ops : Array Oper} {rest : List Oper} {o : Oper} {a : Act} {Q : Exit → Act → World → Prop}
    (hg : o.guard = none) (m x v : Operand) (t : TypeId) (hop : o.op = Op.insert t m x v) (e : TypeId) (ht : Tryz.prog.underlying t = some (.map 3 e)) (b : Nat) (l : List (Int × Value)) (h : VMap w0 w b l) (hl : l.length < 1000)
    (hm : a.eval m = .map (some b)) (k : Int) (val : Value) (hx : a.eval x = .int .i64 k) (hv : a.eval v = val) (hk : (Lit.int .i64 k).wf = true)
    (hK : ∀ w', VMap w0 w' b (l ++ [(k, val)]) → wpList Tryz.prog ops Q rest (a.put o.dst undef) w') : wpList Tryz.prog ops Q (o :: rest) a w := by
  refine wpList_plain hg fun K' hK' => ?_
  obtain ⟨w', hrun, h1, -⟩ := h.insert ht hl k val hk
  unfold Oper.wp
  simp [execOp, hop, hm, hx, hv, hrun, Result.andThen]
  exact hK' _ _ (hK w' h1)

/-- A value is a slice of these integers. -/
def IntsAt (w : World) (v : Value) (zs : List Int) : Prop := ∃ ao cap, v = .slice ao zs.length cap ∧ IntsIn ao zs w

/-- A map of lists of integers, and nothing else has turned since w0. -/
def SlMap (w0 w : World) (b : Nat) (t : List (Int × List Int)) : Prop :=
  ∃ vs : List Value, vs.length = t.length ∧ VMap w0 w b ((t.map (·.1)).zip vs) ∧ ∀ (i : Nat) (v : Value) (p : Int × List Int), vs[i]? = some v → t[i]? = some p → IntsAt w v p.2

theorem SlMap.made (w : World) : SlMap w (w.alloc (.map #[] 0)) w.heap.size [] := ⟨[], rfl, VMap.made w, by simp⟩

theorem IntsAt.grown {w w' : World} {b : Nat} {v : Value} {zs : List Int} {es : Array MapEntry} {clock : Nat} (h : IntsAt w v zs) (hb : w.heap[b]? = some (.map es clock)) (hg : w.grownBy w' (some b)) : IntsAt w' v zs := by
  obtain ⟨ao, cap, rfl, hi⟩ := h
  refine ⟨ao, cap, rfl, fun k z hk => ?_⟩
  obtain ⟨a, ha, hc⟩ := hi k z hk
  refine ⟨a, ha, ?_⟩
  have hlt := World.block_lt_of_cell? _ _ hc
  have hne : (a.add k).block ≠ b := by
    intro e
    unfold World.cell? at hc
    rw [e, hb] at hc
    simp at hc
  unfold World.cell? at hc ⊢
  rw [hg.block _ hlt (by simpa using hne)]
  exact hc

theorem SlMap.insert {w0 w1 : World} {b : Nat} {t : List (Int × List Int)} {ty e : TypeId} (h : SlMap w0 w1 b t) (ht : Tryz.prog.underlying ty = some (.map 3 e)) (hl : t.length < 1000) (zs : List Int) (E : TypeId) (k : Int) (hk : (Lit.int .i64 k).wf = true) :
    ∃ w', (Instr.mapUpdate ty (.map (some b)) (.int .i64 k) (.slice (some ⟨w1.heap.size, 0, none⟩) zs.length zs.length)).run Tryz.prog (w1.alloc (.cells (zs.map (Value.int .i64)).toArray E)) = .ok () w' ∧ SlMap w0 w' b (t ++ [(k, zs)]) := by
  obtain ⟨vs, hvl, hV, hI⟩ := h
  obtain ⟨hB, hb, hM⟩ := hV
  have hV2 : VMap w0 (w1.alloc (.cells (zs.map (Value.int .i64)).toArray E)) b ((t.map (·.1)).zip vs) := ⟨hB.alloc hB.size _, hb, World.ownsMap.alloc hM _⟩
  have hlen : ((t.map (·.1)).zip vs).length = t.length := by simp [hvl]
  obtain ⟨w', hr, hV', hg⟩ := hV2.insert ht (by omega) k (.slice (some ⟨w1.heap.size, 0, none⟩) zs.length zs.length) hk
  obtain ⟨es, clock, hblk, -⟩ := hV2.2.2
  refine ⟨w', hr, vs ++ [.slice (some ⟨w1.heap.size, 0, none⟩) zs.length zs.length], by simp [hvl], ?_, ?_⟩
  · have e1 : ((t ++ [(k, zs)]).map (·.1)).zip (vs ++ [Value.slice (some ⟨w1.heap.size, 0, none⟩) zs.length zs.length]) = (t.map (·.1)).zip vs ++ [(k, .slice (some ⟨w1.heap.size, 0, none⟩) zs.length zs.length)] := by
      rw [List.map_append, List.zip_append (by simp [hvl])]
      rfl
    rw [e1]; exact hV'
  · intro i v p hv hp
    by_cases hi : i < vs.length
    · rw [List.getElem?_append_left hi] at hv
      rw [List.getElem?_append_left (by omega)] at hp
      have h1 := hI i v p hv hp
      obtain ⟨ao, cap, rfl, h2⟩ := h1
      exact IntsAt.grown ⟨ao, cap, rfl, h2.below ((Below.refl _ _).alloc (Nat.le_refl _) _)⟩ hblk hg
    · obtain rfl : i = vs.length := by
        have := (List.getElem?_eq_some_iff.1 hv).1
        simp at this; omega
      rw [List.getElem?_append_right (Nat.le_refl _)] at hv
      rw [hvl, List.getElem?_append_right (Nat.le_refl _)] at hp
      simp at hv hp
      subst hv hp
      exact IntsAt.grown ⟨_, zs.length, rfl, intsIn_new w1 zs E (0, 0)⟩ hblk hg

def unInts (cs : Array Value) : List Int := cs.toList.map intOf

theorem wpList_insert_sl {w0 w1 : World} {ops : Array Oper} {rest : List Oper} {o : Oper} {a : Act} {Q : Exit → Act → World → Prop} {b : Nat} {l : List (Int × List Int)} {cs : Array Value} {E : TypeId} (h : SlMap w0 w1 b l)
    (hg : o.guard = none) (m x v : Operand) (t : TypeId) (hop : o.op = Op.insert t m x v) (e : TypeId) (ht : Tryz.prog.underlying t = some (.map 3 e)) (hl : l.length < 1000)
    (hm : a.eval m = .map (some b)) (k : Int) (hx : a.eval x = .int .i64 k) (hcs : cs = ((unInts cs).map (Value.int .i64)).toArray) (g : Nat) (hv : a.eval v = .slice (some ⟨g, 0, none⟩) (unInts cs).length (unInts cs).length) (hgs : g = w1.heap.size) (hk : (Lit.int .i64 k).wf = true)
    (hK : ∀ w', SlMap w0 w' b (l ++ [(k, unInts cs)]) → wpList Tryz.prog ops Q rest (a.put o.dst undef) w') : wpList Tryz.prog ops Q (o :: rest) a (w1.alloc (.cells cs E)) := by
  subst hgs
  refine wpList_plain hg fun K' hK' => ?_
  obtain ⟨w', hrun, h1⟩ := h.insert ht hl (unInts cs) E k hk
  rw [← hcs] at hrun
  unfold Oper.wp
  simp [execOp, hop, hm, hx, hv, hrun, Result.andThen]
  exact hK' _ _ (hK w' h1)

theorem lookup_zip (w : World) (c : Int) : ∀ (t : List (Int × List Int)) (vs : List Value) (z : Value) (zs : List Int), vs.length = t.length → IntsAt w z zs → (∀ (i : Nat) (v : Value) (p : Int × List Int), vs[i]? = some v → t[i]? = some p → IntsAt w v p.2) →
    IntsAt w (((t.map (·.1)).zip vs).foldl (fun acc p => if p.1 = c then p.2 else acc) z) (t.foldl (fun acc p => if p.1 = c then p.2 else acc) zs) := by
  intro t
  induction t with
  | nil => intro vs z zs hl hz _; simpa using hz
  | cons p t ih =>
    intro vs z zs hl hz hI
    cases vs with
    | nil => simp at hl
    | cons v vs =>
      simp only [List.map_cons, List.zip_cons_cons, List.foldl_cons]
      refine ih vs _ _ (by simpa using hl) ?_ (fun i v' p' h1 h2 => hI (i + 1) v' p' (by simpa using h1) (by simpa using h2))
      by_cases hp : p.1 = c
      · rw [if_pos hp, if_pos hp]; exact hI 0 v p rfl rfl
      · rw [if_neg hp, if_neg hp]; exact hz

theorem SlMap.lookup {w0 w : World} {b : Nat} {t : List (Int × List Int)} {ty e : TypeId} (h : SlMap w0 w b t) (ht : Tryz.prog.underlying ty = some (.map 3 e)) (hz : (zeroValue e).run Tryz.prog w = .ok (.slice none 0 0) w) (c : Int) (hc : (Lit.int .i64 c).wf = true) :
    ∃ v, (Instr.lookup ty (.map (some b)) (.int .i64 c) false).run Tryz.prog w = .ok v w ∧ IntsAt w v (lookT t c) := by
  obtain ⟨vs, hvl, hV, hI⟩ := h
  refine ⟨_, hV.2.2.lookup ht _ hz c hc, ?_⟩
  exact lookup_zip w c t vs (.slice none 0 0) [] hvl ⟨none, 0, rfl, by intro k z hk; simp at hk⟩ hI

/-- At the look-up. -/
theorem wpList_lookup_sl {w0 w : World} {ops : Array Oper} {rest : List Oper} {o : Oper} {a : Act} {Q : Exit → Act → World → Prop} {b : Nat} {l0 : List (Int × List Int)} (l : List (Int × List Int)) (h : SlMap w0 w b l0) (hl : l0 = l)
    (hg : o.guard = none) (m x : Operand) (t : TypeId) (hop : o.op = Op.lookup t m x false) (e : TypeId) (ht : Tryz.prog.underlying t = some (.map 3 e)) (hz : (zeroValue e).run Tryz.prog w = .ok (.slice none 0 0) w)
    (hm : a.eval m = .map (some b)) (c : Int) (hx : a.eval x = .int .i64 c) (hc : (Lit.int .i64 c).wf = true)
    (hK : ∀ ao cap, IntsIn ao (lookT l c) w → wpList Tryz.prog ops Q rest (a.put o.dst (.slice ao (lookT l c).length cap)) w) : wpList Tryz.prog ops Q (o :: rest) a w := by
  refine wpList_plain hg fun K' hK' => ?_
  subst hl
  obtain ⟨v, hrun, ao, cap, rfl, hI⟩ := h.lookup ht hz c hc
  unfold Oper.wp
  simp [execOp, hop, hm, hx, hrun, Result.andThen]
  exact hK' _ _ (hK ao cap hI)

theorem lookV_ints (c : Int) : ∀ (t : List (Int × Int)) (z : Int), lookV (t.map fun p => (p.1, Value.int .i64 p.2)) (.int .i64 z) c = .int .i64 (t.foldl (fun acc p => if p.1 = c then p.2 else acc) z) := by
  intro t
  induction t with
  | nil => intro z; rfl
  | cons p t ih =>
    intro z
    unfold lookV at ih ⊢
    simp only [List.map_cons, List.foldl_cons]
    rw [← ih]
    by_cases hp : p.1 = c
    · rw [if_pos hp, if_pos hp]
    · rw [if_neg hp, if_neg hp]

theorem wpList_lookup_i {w0 w : World} {ops : Array Oper} {rest : List Oper} {o : Oper} {a : Act} {Q : Exit → Act → World → Prop} {b : Nat} {l : List (Int × Value)} (t0 : List (Int × Int)) (h : VMap w0 w b l) (hl : l = t0.map fun p => (p.1, Value.int .i64 p.2))
    (hg : o.guard = none) (m x : Operand) (t : TypeId) (hop : o.op = Op.lookup t m x false) (e : TypeId) (ht : Tryz.prog.underlying t = some (.map 3 e)) (hz : (zeroValue e).run Tryz.prog w = .ok (.int .i64 0) w)
    (hm : a.eval m = .map (some b)) (c : Int) (hx : a.eval x = .int .i64 c) (hc : (Lit.int .i64 c).wf = true)
    (hK : wpList Tryz.prog ops Q rest (a.put o.dst (.int .i64 (lookI t0 c))) w) : wpList Tryz.prog ops Q (o :: rest) a w := by
  subst hl
  refine wpList_plain hg fun K' hK' => ?_
  have hrun := h.2.2.lookup ht (.int .i64 0) hz c hc
  rw [lookV_ints] at hrun
  unfold Oper.wp
  simp [execOp, hop, hm, hx, hrun, Result.andThen]
  exact hK' _ _ hK
end Go.Proofs.YteecbmhkfnlecaaGreatDoor
