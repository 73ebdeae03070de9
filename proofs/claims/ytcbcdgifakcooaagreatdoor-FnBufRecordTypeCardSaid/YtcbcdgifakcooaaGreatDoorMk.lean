/-
  The maker of flatbuffers in memory: its block, the row of bytes that it has written; what a step of it leaves as it was; the laws of appending and of patching. No conditions.
-/
import Derived.Test.YtcbcdgifakcooaaGreatDoorLittle
import Derived.Laws.CopyOwn
import Derived.Laws.MakeOwn
namespace Go.Proofs.YtcbcdgifakcooaaGreatDoor
open Go.RowKit
set_option linter.unusedVariables false
set_option linter.unusedSimpArgs false

/-- From a world in which the bytes' row is rb to a later one in which it is rb': all blocks but the maker's and that row's are as they were. -/
structure Ext (mb : Nat) (w : World) (rb : Nat) (w' : World) (rb' : Nat) : Prop where
  os : w'.os = w.os
  tape : w'.tape = w.tape
  output : w'.output = w.output
  size : w.heap.size ≤ w'.heap.size
  block : ∀ k, k < w.heap.size → k ≠ mb → k ≠ rb → w'.heap[k]? = w.heap[k]?
  row : rb' = rb ∨ w.heap.size ≤ rb'

theorem Ext.refl (mb : Nat) (w : World) (rb : Nat) : Ext mb w rb w rb := ⟨rfl, rfl, rfl, Nat.le_refl _, fun _ _ _ _ => rfl, .inl rfl⟩
theorem Ext.trans {mb : Nat} {w w1 w2 : World} {rb rb1 rb2 : Nat} (h : Ext mb w rb w1 rb1) (g : Ext mb w1 rb1 w2 rb2) : Ext mb w rb w2 rb2 := by
  refine ⟨g.os.trans h.os, g.tape.trans h.tape, g.output.trans h.output, Nat.le_trans h.size g.size, fun k hk h1 h2 => ?_, ?_⟩
  · refine (g.block k (Nat.lt_of_lt_of_le hk h.size) h1 ?_).trans (h.block k hk h1 h2)
    rcases h.row with e | e
    · rw [e]; exact h2
    · omega
  · rcases g.row with e | e
    · rw [e]; exact h.row
    · exact .inr (Nat.le_trans h.size e)
theorem Ext.of {mb : Nat} {w w' : World} (rb : Nat) (h : Below w.heap.size w w') : Ext mb w rb w' rb := ⟨h.os, h.tape, h.output, h.size, fun k hk _ _ => h.block k hk, .inl rfl⟩
theorem Ext.then {mb : Nat} {w w1 w2 : World} {rb rb1 : Nat} (h : Ext mb w rb w1 rb1) (g : Below w1.heap.size w1 w2) : Ext mb w rb w2 rb1 := h.trans (.of rb1 g)
/-- A step that writes behind w alone. -/
theorem Ext.past {mb : Nat} {w w1 w2 : World} {rb rb1 : Nat} (h : Ext mb w rb w1 rb1) (g : Below w.heap.size w1 w2) : Ext mb w rb w2 rb1 :=
  ⟨g.os.trans h.os, g.tape.trans h.tape, g.output.trans h.output, Nat.le_trans h.size g.size, fun k hk h1 h2 => (g.block k hk).trans (h.block k hk h1 h2), h.row⟩
theorem Ext.blk {mb : Nat} {w w1 : World} {rb rb1 : Nat} (h : Ext mb w rb w1 rb1) {c : Nat} (hc : c < w.heap.size) (h1 : c ≠ mb) (h2 : c ≠ rb) : (∀ o, w1.cell? ⟨c, o, none⟩ = w.cell? ⟨c, o, none⟩) ∧ (∀ o, w1.frozen? ⟨c, o, none⟩ = w.frozen? ⟨c, o, none⟩) :=
  ⟨fun o => World.cell?_of_block (h.block c hc h1 h2), fun o => World.frozen?_of_block (h.block c hc h1 h2)⟩
theorem Ext.below {mb K : Nat} {w w1 : World} {rb rb1 : Nat} (h : Ext mb w rb w1 rb1) (hm : K ≤ mb) (hr : K ≤ rb) (hK : K ≤ w.heap.size) : Below K w w1 :=
  ⟨h.os, h.tape, h.output, h.size, fun k hk => h.block k (by omega) (by omega) (by omega)⟩

/-- A cell of the one block that is free is written. -/
theorem Ext.setPb {pb : Nat} {w w1 : World} (h : Ext pb w pb w1 pb) (o : Nat) (v : Value) : Ext pb w pb (w1.setCell ⟨pb, o, none⟩ v) pb :=
  ⟨h.os, h.tape, h.output, by simpa [World.setCell] using h.size, fun k hk h1 h2 => (Below.heap_setCell _ _ _ _ h1).trans (h.block k hk h1 h2), .inl rfl⟩

/-- A list of bytes as values. -/
def bytesV (O : By) : List Value := O.map fun x => Value.int .u8 (x.toNat : Int)
theorem bytesV_length (O : By) : (bytesV O).length = O.length := by simp [bytesV]
theorem bytesV_append (O X : By) : bytesV (O ++ X) = bytesV O ++ bytesV X := by simp [bytesV]
theorem bytesV_one (O : By) : ∀ u ∈ bytesV O, u.oneCell' = true := by
  intro u hu
  obtain ⟨x, -, rfl⟩ := List.mem_map.1 hu
  rfl

/-- The maker stands at mb, its bytes O in the row rb; both lie from K on. -/
structure Mk (K : Nat) (w : World) (mb rb cap : Nat) (O : By) (bs : Bool) : Prop where
  c0 : w.cell? ⟨mb, 0, none⟩ = some (.slice (some ⟨rb, 0, none⟩) O.length cap)
  c1 : w.cell? ⟨mb, 1, none⟩ = some (.bool bs)
  fz : ∀ o, w.frozen? ⟨mb, o, none⟩ = false
  ne : rb ≠ mb
  km : K ≤ mb
  own : w.ownsRow K 5 1 (.slice (some ⟨rb, 0, none⟩) O.length cap) O.length (bytesV O)

theorem Mk.mlt {K : Nat} {w : World} {mb rb cap : Nat} {O : By} {bs : Bool} (h : Mk K w mb rb cap O bs) : mb < w.heap.size := World.block_lt_of_cell? w _ h.c0
theorem Mk.row {K : Nat} {w : World} {mb rb cap : Nat} {O : By} {bs : Bool} (h : Mk K w mb rb cap O bs) : K ≤ rb ∧ rb < w.heap.size := h.own.lt rb rfl
theorem Mk.room {K : Nat} {w : World} {mb rb cap : Nat} {O : By} {bs : Bool} (h : Mk K w mb rb cap O bs) : O.length ≤ cap ∧ cap ≤ maxLen := by
  rcases h.own.2 with ⟨hv, _⟩ | ⟨g, cap', cur, hv, hb, hg, h1, h2, h3, h4⟩
  · cases hv
  · cases hv
    exact ⟨h1, h2⟩

/-- The two blocks are as they were. -/
theorem Mk.kept {K : Nat} {w w' : World} {mb rb cap : Nat} {O : By} {bs : Bool} (h : Mk K w mb rb cap O bs) (hm : w'.heap[mb]? = w.heap[mb]?) (hr : w'.heap[rb]? = w.heap[rb]?) : Mk K w' mb rb cap O bs := by
  refine ⟨(World.cell?_of_block hm).trans h.c0, (World.cell?_of_block hm).trans h.c1, fun o => (World.frozen?_of_block hm).trans (h.fz o), h.ne, h.km, h.own.1, ?_⟩
  rcases h.own.2 with ⟨hv, _⟩ | ⟨g, cap', cur, hv, hb, hg, h1⟩
  · cases hv
  · cases hv
    exact .inr ⟨rb, cap, cur, rfl, hb, hr.trans hg, h1⟩
theorem Mk.below {K : Nat} {w w' : World} {mb rb cap : Nat} {O : By} {bs : Bool} (h : Mk K w mb rb cap O bs) (hb : Below w.heap.size w w') : Mk K w' mb rb cap O bs :=
  h.kept (hb.block mb h.mlt) (hb.block rb h.row.2)
/-- Only blocks from B on are written; the maker's two lie ahead. -/
theorem Mk.past {K B : Nat} {w w' : World} {mb rb cap : Nat} {O : By} {bs : Bool} (h : Mk K w mb rb cap O bs) (hb : Below B w w') (hm : mb < B) (hr : rb < B) : Mk K w' mb rb cap O bs :=
  h.kept (hb.block mb hm) (hb.block rb hr)
theorem Mk.drew {K : Nat} {w : World} {mb rb cap : Nat} {O : By} {bs : Bool} (h : Mk K w mb rb cap O bs) : Mk K w.drew mb rb cap O bs := h.kept rfl rfl
theorem Mk.cast {K : Nat} {w : World} {mb rb cap : Nat} {O O' : By} {bs : Bool} (h : Mk K w mb rb cap O bs) (e : O = O') : Mk K w mb rb cap O' bs := e ▸ h
theorem Mk.setCell {K : Nat} {w : World} {mb rb cap : Nat} {O : By} {bs : Bool} (h : Mk K w mb rb cap O bs) {p : Addr} (h1 : p.block ≠ mb) (h2 : p.block ≠ rb) (u : Value) : Mk K (w.setCell p u) mb rb cap O bs :=
  h.kept (Below.heap_setCell _ _ _ _ (Ne.symm h1)) (Below.heap_setCell _ _ _ _ (Ne.symm h2))

/-- Behind an append the maker's cell is written. -/
theorem Mk.appended {K : Nat} {w w4 : World} {mb rb cap : Nat} {O X : By} {bs : Bool} (h : Mk K w mb rb cap O bs) {n : Nat} (hX : X.length = n) {g cap' : Nat} (hg : w.grownBy w4 (some rb)) (hr : rb = g ∨ w.heap.size ≤ g)
    (ho : w4.ownsRow K 5 1 (.slice (some ⟨g, 0, none⟩) (O.length + n) cap') (O.length + n) (bytesV O ++ bytesV X)) :
    Mk K (w4.setCell ⟨mb, 0, none⟩ (.slice (some ⟨g, 0, none⟩) (O.length + n : Nat) cap')) mb g cap' (O ++ X) bs ∧ Ext mb w rb (w4.setCell ⟨mb, 0, none⟩ (.slice (some ⟨g, 0, none⟩) (O.length + n : Nat) cap')) g := by
  subst hX
  have hm := h.mlt
  have hb : w4.heap[mb]? = w.heap[mb]? := hg.block mb hm (fun e => h.ne (Option.some.inj e).symm)
  have hgm : g ≠ mb := by
    rcases hr with e | e
    · rw [← e]; exact h.ne
    · omega
  have hl : (O ++ X).length = O.length + X.length := List.length_append
  refine ⟨⟨?_, ?_, ?_, hgm, h.km, ?_⟩, ?_⟩
  · rw [hl]
    exact World.cell?_setCell_same _ _ _ ((World.cell?_of_block hb).trans h.c0)
  · exact (World.cell?_setCell_other _ _ _ _ (by simp)).trans ((World.cell?_of_block hb).trans h.c1)
  · intro o
    exact (World.frozen?_setCell _ _ _ _).trans ((World.frozen?_of_block hb).trans (h.fz o))
  · rw [hl, bytesV_append]
    refine ⟨ho.1, ?_⟩
    rcases ho.2 with ⟨hv, _⟩ | ⟨g', cap2, cur, hv, hbg, hgg, h1⟩
    · cases hv
    · cases hv
      exact .inr ⟨g, cap', cur, rfl, hbg, (Below.heap_setCell _ _ _ _ hgm).trans hgg, h1⟩
  · refine ⟨hg.os, hg.tape, hg.output, by simpa [World.setCell] using hg.size, fun k hk h1 h2 => (Below.heap_setCell _ _ _ _ h1).trans (hg.block k hk (fun e => h2 (Option.some.inj e))), ?_⟩
    rcases hr with e | e
    · exact .inl e.symm
    · exact .inr e

/-- Two appends, one behind the other. -/
theorem grown_two {w5 w6 w7 : World} {rb g6 : Nat} (h : w5.grownBy w6 (some rb)) (hr : rb = g6 ∨ w5.heap.size ≤ g6) (o : Obj) (h' : (w6.alloc o).grownBy w7 (some g6)) : w5.grownBy w7 (some rb) := by
  refine ⟨h'.os.trans h.os, h'.tape.trans h.tape, h'.output.trans h.output, Nat.le_trans h.size (Nat.le_trans (by simp) h'.size), fun k hk hne => ?_⟩
  have hs := h.size
  refine ((h'.block k (by simp; omega) ?_).trans (Below.heap_alloc w6 o k (by omega))).trans (h.block k hk hne)
  intro e
  have e := Option.some.inj e
  rcases hr with e2 | e2
  · exact hne (by rw [e, e2])
  · omega

theorem Mk.grown_cell {K : Nat} {w w4 : World} {mb rb cap : Nat} {O : By} {bs : Bool} (h : Mk K w mb rb cap O bs) (hg : w.grownBy w4 (some rb)) : w4.cell? ⟨mb, 0, none⟩ = some (.slice (some ⟨rb, 0, none⟩) O.length cap) ∧ w4.frozen? ⟨mb, 0, none⟩ = false := by
  have hb : w4.heap[mb]? = w.heap[mb]? := hg.block mb h.mlt (fun e => h.ne (Option.some.inj e).symm)
  exact ⟨(World.cell?_of_block hb).trans h.c0, (World.frozen?_of_block hb).trans (h.fz 0)⟩
theorem Mk.alloc {K : Nat} {w : World} {mb rb cap : Nat} {O : By} {bs : Bool} (h : Mk K w mb rb cap O bs) (o : Obj) : Mk K (w.alloc o) mb rb cap O bs := h.below ((Below.refl _ _).alloc (Nat.le_refl _) o)
theorem Ext.alloc {mb : Nat} {w w1 : World} {rb rb1 : Nat} (h : Ext mb w rb w1 rb1) (o : Obj) : Ext mb w rb (w1.alloc o) rb1 := h.then ((Below.refl _ _).alloc (Nat.le_refl _) o)

theorem splice_put (O X : By) (p : Nat) (L : List Value) : splice (bytesV O ++ L) p (bytesV X) = (bytesV O ++ L).take p ++ (bytesV X ++ (bytesV O ++ L).drop (p + X.length)) := by
  unfold splice
  rw [bytesV_length]

theorem put_bytesV (O X : By) (p : Nat) (h : p + X.length ≤ O.length) (L : List Value) : (bytesV O ++ L).take p ++ bytesV X ++ (bytesV O ++ L).drop (p + X.length) = bytesV (put O p X) ++ L := by
  have e1 : (bytesV O ++ L).take p = bytesV (O.take p) := by
    rw [List.take_append_of_le_length (by rw [bytesV_length]; omega)]
    simp [bytesV, List.map_take]
  have e2 : (bytesV O ++ L).drop (p + X.length) = bytesV (O.drop (p + X.length)) ++ L := by
    rw [List.drop_append_of_le_length (by rw [bytesV_length]; omega)]
    simp [bytesV, List.map_drop]
  rw [e1, e2]
  simp [put, bytesV]

/-- Bytes are patched in the maker's row. -/
theorem Mk.patched {K : Nat} {w : World} {mb rb cap : Nat} {O X : By} {bs : Bool} (h : Mk K w mb rb cap O bs) {p : Nat} (hp : p + X.length ≤ O.length) :
    ∃ cur : Array Value, w.heap[rb]? = some (.cells cur 5 (0, 0)) ∧ p + X.length ≤ cur.size ∧
      Mk K (w.setRow rb (cur.toList.take p ++ bytesV X ++ cur.toList.drop (p + X.length)).toArray) mb rb cap (put O p X) bs ∧
      Ext mb w rb (w.setRow rb (cur.toList.take p ++ bytesV X ++ cur.toList.drop (p + X.length)).toArray) rb := by
  have hl := put_length hp
  rcases h.own.2 with ⟨hv, _⟩ | ⟨g, cap', cur, hv, hb, hg, h1, h2, h3, h4⟩
  · cases hv
  · cases hv
    rw [Nat.mul_one] at h3 h4
    have hcl : cur.toList.length = cap := by simpa using h3
    have e : cur.toList = bytesV O ++ cur.toList.drop O.length := by
      rw [← h4, List.take_append_drop]
    refine ⟨cur, hg, by omega, ⟨?_, ?_, ?_, h.ne, h.km, ?_⟩, ?_⟩
    · rw [hl]
      exact (cell_setRow_other _ _ _ _ (Ne.symm h.ne)).trans h.c0
    · exact (cell_setRow_other _ _ _ _ (Ne.symm h.ne)).trans h.c1
    · intro o
      exact (World.frozen?_of_block (setRow_other w rb mb _ (Ne.symm h.ne))).trans (h.fz o)
    · rw [hl]
      have e3 : cur.toList.take p ++ bytesV X ++ cur.toList.drop (p + X.length) = bytesV (put O p X) ++ cur.toList.drop O.length := by
        have e2 := put_bytesV O X p hp (cur.toList.drop O.length)
        rw [← e] at e2
        exact e2
      rw [e3]
      refine ⟨by rw [bytesV_length, hl, Nat.mul_one], .inr ⟨rb, cap, _, rfl, hb, setRow_heap w rb _ _ _ _ hg, h1, h2, ?_, ?_⟩⟩
      · rw [Nat.mul_one]
        simp [bytesV_length, hl]
        omega
      · rw [Nat.mul_one]
        simp only
        rw [List.take_append_of_le_length (by rw [bytesV_length, hl]; exact Nat.le_refl _), List.take_of_length_le (by rw [bytesV_length, hl]; exact Nat.le_refl _)]
    · refine ⟨rfl, rfl, rfl, by simp [World.setRow], fun k hk h5 h6 => setRow_other w rb k _ h6, .inl rfl⟩

/-- copy(m.out[p:], b), the bytes b in a row of their own: the maker's bytes are patched. As one step of a drawn region, and as one of a list. -/
theorem wp_copy_mk {P : Program} {o : Oper} {a : Act} {w : World} {Kn : Act → World → Prop} {Q : Exit → Act → World → Prop} (d s : Operand) (dT sT : TypeId)
    (ho : o.op = .call { callee := .builtin .copy, args := #[d, s], argTypes := #[dT, sT] }) (hu : P.underlying dT = some (.slice 5)) (hsz : (P.info? 5).map (·.size) = some 1)
    {K B mb rb cap : Nat} {O : By} {bs : Bool} (hm : Mk K w mb rb cap O bs) (X : By) (n p dLen dCap : Nat) (vo : Option Addr) (vc : Nat) (hd : a.eval d = .slice (some ⟨rb, p, none⟩) dLen dCap) (hs : a.eval s = .slice vo n vc)
    (hX : X.length = n) (hn : 0 < n) (hown : w.ownsRow B 5 1 (.slice vo n vc) n (bytesV X)) (hp : p + n ≤ O.length) (hdl : n ≤ dLen)
    (h : ∀ w', Mk K w' mb rb cap (put O p X) bs → Ext mb w rb w' rb → w'.heap.size = w.heap.size → Kn (a.put o.dst (goInt n)) w') : Oper.wp P o a w Kn Q := by
  subst hX
  obtain ⟨cur, hg, hfit, hM, hE⟩ := hm.patched (p := p) (X := X) hp
  have hmin : (bytesV X).length = Nat.min X.length dLen := by rw [bytesV_length]; exact (Nat.min_eq_left hdl).symm
  rcases hown.2 with ⟨hv, h0⟩ | ⟨g, cap', cur', hv, hb, hg', h1⟩
  · omega
  · have hsrc : ∀ j v, (bytesV X)[j]? = some v → w.cell? ((⟨g, 0, none⟩ : Addr).add j) = some v := hown.cells (by rw [hv]; rfl)
    obtain ⟨rfl, rfl⟩ : vo = some ⟨g, 0, none⟩ ∧ vc = cap' := by cases hv; exact ⟨rfl, rfl⟩
    have hrun := run_copy_row (P := P) w dT sT o.type 5 rb p dLen dCap ⟨g, 0, none⟩ X.length vc cur 5 (bytesV X) hu hsz hg hmin hsrc (by rw [bytesV_length]; exact hfit) (bytesV_one X)
    rw [bytesV_length] at hrun
    have hk := h _ hM hE (by simp [World.setRow])
    unfold Oper.wp
    simp [execOp, ho, resolve, invoke, builtin, hd, hs, hrun, Result.andThen]
    rw [List.append_assoc] at hk
    exact hk

theorem step_copy_mk {P : Program} {ops : Array Oper} {o : Oper} {a : Act} {w : World} {Kn : Act → World → Prop} {Q : Exit → Act → World → Prop} {E : Prop} (hgd : o.guard = none) (d s : Operand) (dT sT : TypeId)
    (ho : o.op = .call { callee := .builtin .copy, args := #[d, s], argTypes := #[dT, sT] }) (hu : P.underlying dT = some (.slice 5)) (hsz : (P.info? 5).map (·.size) = some 1)
    {K B mb rb cap : Nat} {O : By} {bs : Bool} (hm : Mk K w mb rb cap O bs) (X : By) (n p dLen dCap : Nat) (vo : Option Addr) (vc : Nat) (hd : a.eval d = .slice (some ⟨rb, p, none⟩) dLen dCap) (hs : a.eval s = .slice vo n vc)
    (hX : X.length = n) (hn : 0 < n) (hown : w.ownsRow B 5 1 (.slice vo n vc) n (bytesV X)) (hp : p + n ≤ O.length) (hdl : n ≤ dLen)
    (h : ∀ w', Mk K w' mb rb cap (put O p X) bs → Ext mb w rb w' rb → w'.heap.size = w.heap.size → Kn (a.put o.dst (goInt n)) w') :
    if Region.wanted o (yielded ops a.tmps) = true then Oper.wp P o a w Kn Q else E := by
  have hw : Region.wanted o (yielded ops a.tmps) = true := by simp [Region.wanted, hgd]
  rw [if_pos hw]
  exact wp_copy_mk d s dT sT ho hu hsz hm X n p dLen dCap vo vc hd hs hX hn hown hp hdl h

theorem wpList_copy_mk {P : Program} {ops : Array Oper} {rest : List Oper} {o : Oper} {a : Act} {w : World} {Q : Exit → Act → World → Prop} (hgd : o.guard = none) (d s : Operand) (dT sT : TypeId)
    (ho : o.op = .call { callee := .builtin .copy, args := #[d, s], argTypes := #[dT, sT] }) (hu : P.underlying dT = some (.slice 5)) (hsz : (P.info? 5).map (·.size) = some 1)
    {K B mb rb cap : Nat} {O : By} {bs : Bool} (hm : Mk K w mb rb cap O bs) (X : By) (n p dLen dCap : Nat) (vo : Option Addr) (vc : Nat) (hd : a.eval d = .slice (some ⟨rb, p, none⟩) dLen dCap) (hs : a.eval s = .slice vo n vc)
    (hX : X.length = n) (hn : 0 < n) (hown : w.ownsRow B 5 1 (.slice vo n vc) n (bytesV X)) (hp : p + n ≤ O.length) (hdl : n ≤ dLen)
    (h : ∀ w', Mk K w' mb rb cap (put O p X) bs → Ext mb w rb w' rb → w'.heap.size = w.heap.size → wpList P ops Q rest (a.put o.dst (goInt n)) w') : wpList P ops Q (o :: rest) a w :=
  wpList_plain hgd fun Kn hK => wp_copy_mk d s dT sT ho hu hsz hm X n p dLen dCap vo vc hd hs hX hn hown hp hdl fun w' h1 h2 h3 => hK _ _ (h w' h1 h2 h3)

/-- append(m.out, b...), the bytes b in a row. -/
theorem wp_append_mk {P : Program} {o : Oper} {a : Act} {w : World} {Kn : Act → World → Prop} {Q : Exit → Act → World → Prop} (s x : Operand) (t : TypeId)
    (ho : o.op = .call { callee := .builtin .append, args := #[s, x], argTypes := #[t, t] }) (ht : P.underlying t = some (.slice 5)) (hi : (P.info? 5).map (fun i => (i.zero, i.size, i.bytes)) = some (some (.int .u8 0), 1, 1))
    {K mb rb cap : Nat} {O : By} {bs : Bool} (hm : Mk K w mb rb cap O bs) (X : By) (n : Nat) (ad : Addr) (vc : Nat) (hs : a.eval s = .slice (some ⟨rb, 0, none⟩) O.length cap) (hx : a.eval x = .slice (some ad) n vc)
    (hX : X.length = n) (hn : 0 < n) (hsrc : ∀ j u, (bytesV X)[j]? = some u → w.cell? (ad.add j) = some u) (hbig : O.length + n ≤ 140737488355328)
    (h : ∀ g cap' w', Hid (w'.ownsRow K 5 1 (.slice (some ⟨g, 0, none⟩) (O.length + n) cap') (O.length + n) (bytesV O ++ bytesV X)) → Hid (w.grownBy w' (some rb)) → Hid (rb = g ∨ w.heap.size ≤ g) → g < w'.heap.size → Kn (a.put o.dst (.slice (some ⟨g, 0, none⟩) (O.length + n) cap')) w') : Oper.wp P o a w Kn Q := by
  subst hX
  obtain ⟨i0, hi, hiz, his, hib⟩ := info_parts' hi
  refine wp_append_lies w s x t ho K 5 i0 (.int .u8 0) 1 1 ht hi hiz his hib rfl (by decide) _ _ _ hs hm.own ad X.length vc (bytesV X) hx (by rw [bytesV_length, Nat.mul_one]) hsrc (bytesV_one X) hn (by unfold maxLen; omega) (by omega) (by have := hm.row; omega) _ rfl ?_
  intro g cap' w' h1 h2 h3 h4
  refine h g cap' w' (Lib.hid h1) (Lib.hid h2) (Lib.hid ?_) h4
  rcases h3 with e | e
  · exact .inl (Option.some.inj e)
  · exact .inr (Nat.le_of_eq e.symm)

theorem step_append_mk {P : Program} {ops : Array Oper} {o : Oper} {a : Act} {w : World} {Kn : Act → World → Prop} {Q : Exit → Act → World → Prop} {E : Prop} (hgd : o.guard = none) (s x : Operand) (t : TypeId)
    (ho : o.op = .call { callee := .builtin .append, args := #[s, x], argTypes := #[t, t] }) (ht : P.underlying t = some (.slice 5)) (hi : (P.info? 5).map (fun i => (i.zero, i.size, i.bytes)) = some (some (.int .u8 0), 1, 1))
    {K mb rb cap : Nat} {O : By} {bs : Bool} (hm : Mk K w mb rb cap O bs) (X : By) (n : Nat) (ad : Addr) (vc : Nat) (hs : a.eval s = .slice (some ⟨rb, 0, none⟩) O.length cap) (hx : a.eval x = .slice (some ad) n vc)
    (hX : X.length = n) (hn : 0 < n) (hsrc : ∀ j u, (bytesV X)[j]? = some u → w.cell? (ad.add j) = some u) (hbig : O.length + n ≤ 140737488355328)
    (h : ∀ g cap' w', Hid (w'.ownsRow K 5 1 (.slice (some ⟨g, 0, none⟩) (O.length + n) cap') (O.length + n) (bytesV O ++ bytesV X)) → Hid (w.grownBy w' (some rb)) → Hid (rb = g ∨ w.heap.size ≤ g) → g < w'.heap.size → Kn (a.put o.dst (.slice (some ⟨g, 0, none⟩) (O.length + n) cap')) w') :
    if Region.wanted o (yielded ops a.tmps) = true then Oper.wp P o a w Kn Q else E := by
  have hw : Region.wanted o (yielded ops a.tmps) = true := by simp [Region.wanted, hgd]
  rw [if_pos hw]
  exact wp_append_mk s x t ho ht hi hm X n ad vc hs hx hX hn hsrc hbig h

theorem wpList_append_mk {P : Program} {ops : Array Oper} {rest : List Oper} {o : Oper} {a : Act} {w : World} {Q : Exit → Act → World → Prop} (hgd : o.guard = none) (s x : Operand) (t : TypeId)
    (ho : o.op = .call { callee := .builtin .append, args := #[s, x], argTypes := #[t, t] }) (ht : P.underlying t = some (.slice 5)) (hi : (P.info? 5).map (fun i => (i.zero, i.size, i.bytes)) = some (some (.int .u8 0), 1, 1))
    {K mb rb cap : Nat} {O : By} {bs : Bool} (hm : Mk K w mb rb cap O bs) (X : By) (n : Nat) (ad : Addr) (vc : Nat) (hs : a.eval s = .slice (some ⟨rb, 0, none⟩) O.length cap) (hx : a.eval x = .slice (some ad) n vc)
    (hX : X.length = n) (hn : 0 < n) (hsrc : ∀ j u, (bytesV X)[j]? = some u → w.cell? (ad.add j) = some u) (hbig : O.length + n ≤ 140737488355328)
    (h : ∀ g cap' w', Hid (w'.ownsRow K 5 1 (.slice (some ⟨g, 0, none⟩) (O.length + n) cap') (O.length + n) (bytesV O ++ bytesV X)) → Hid (w.grownBy w' (some rb)) → Hid (rb = g ∨ w.heap.size ≤ g) → g < w'.heap.size → wpList P ops Q rest (a.put o.dst (.slice (some ⟨g, 0, none⟩) (O.length + n) cap')) w') : wpList P ops Q (o :: rest) a w :=
  wpList_plain hgd fun Kn hK => wp_append_mk s x t ho ht hi hm X n ad vc hs hx hX hn hsrc hbig fun g cap' w' h1 h2 h3 h4 => hK _ _ (h g cap' w' h1 h2 h3 h4)

/-- A row of bytes of one's own, read as bytes to be appended. -/
theorem one_src (w : World) (v : UInt8) (T : TypeId) (n : Nat) (hn : n = w.heap.size) : ∀ j u, (bytesV [v])[j]? = some u → (w.alloc (.cells #[.int .u8 (v.toNat : Int)] T)).cell? ((⟨n, 0, none⟩ : Addr).add j) = some u := by
  subst hn
  intro j u hj
  match j, hj with
  | 0, hj => rw [← Option.some.inj hj]; exact cell_new _ _ _ _ rfl
  | j + 1, hj => simp [bytesV] at hj

theorem own_src {w : World} {B : Nat} {vo : Option Addr} {n vc : Nat} {X : By} (h : w.ownsRow B 5 1 (.slice vo n vc) n (bytesV X)) (hn : 0 < n) : ∃ g, vo = some ⟨g, 0, none⟩ ∧ g < w.heap.size ∧ B ≤ g ∧ ∀ j u, (bytesV X)[j]? = some u → w.cell? ((⟨g, 0, none⟩ : Addr).add j) = some u := by
  rcases h.2 with ⟨hv, h0⟩ | ⟨g, cap', cur', hv, hb, hg', h1⟩
  · omega
  · obtain ⟨rfl, rfl⟩ : vo = some ⟨g, 0, none⟩ ∧ vc = cap' := by cases hv; exact ⟨rfl, rfl⟩
    exact ⟨g, rfl, (h.lt g rfl).2, hb, h.cells rfl⟩

end Go.Proofs.YtcbcdgifakcooaaGreatDoor
