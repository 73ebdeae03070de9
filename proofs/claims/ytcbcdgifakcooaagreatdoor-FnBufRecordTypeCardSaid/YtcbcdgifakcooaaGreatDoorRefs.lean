/-
  What a table's slots hand to the maker: the functions that write what they refer to, by their contracts; the rows of slots in memory. No conditions.
-/
import Derived.Test.YtcbcdgifakcooaaGreatDoorText
import Derived.Laws.EntriesVeiled
namespace Go.Proofs.YtcbcdgifakcooaaGreatDoor
open Go.RowKit
set_option linter.unusedVariables false
set_option linter.unusedSimpArgs false

/-- A function (with what it has captured) writes something that R tells of, in all worlds that come of this one. -/
structure RefC (K mb : Nat) (bs : Bool) (F : Nat) (c : Array Value) (bd : Nat) (R : By → Nat → Prop) (w : World) (rb : Nat) : Prop where
  e : ∀ (args : Array Value) (w' : World), Sem.run Tryz.prog (callFunc F args) w' = .ok (.enter F args) w'
  c : ∀ (w1 : World) (rb1 cap1 : Nat) (O1 : By), Ext mb w rb w1 rb1 → Mk K w1 mb rb1 cap1 O1 bs → O1.length + bd ≤ 1073000000 → Calls Tryz.prog F (#[.pointer (some ⟨mb, 0, none⟩)] ++ c) w1 (PostW K mb bs O1 bd R w1 rb1)

theorem RefC.ext {K mb : Nat} {bs : Bool} {F : Nat} {c : Array Value} {bd : Nat} {R : By → Nat → Prop} {w w1 : World} {rb rb1 : Nat} (h : RefC K mb bs F c bd R w rb) (he : Ext mb w rb w1 rb1) : RefC K mb bs F c bd R w1 rb1 :=
  ⟨h.e, fun w2 rb2 cap2 O2 h2 => h.c w2 rb2 cap2 O2 (he.trans h2)⟩

/-- The slots lie in a row of their own. -/
structure SlotsIn (w : World) (mb rb : Nat) (sp : Option Addr) (sl : List Sl) (sb : Nat) : Prop where
  p : 0 < sl.length → sp = some ⟨sb, 0, none⟩ ∧ sb < w.heap.size ∧ sb ≠ mb ∧ sb ≠ rb
  c : ∀ (i : Nat) (s : Sl), sl[i]? = some s → ∀ (j : Nat) (v : Value), s.cells[j]? = some v → w.cell? ⟨sb, i * 4 + j, none⟩ = some v

theorem SlotsIn.ext {w w1 : World} {mb rb rb1 : Nat} {sp : Option Addr} {sl : List Sl} {sb : Nat} (h : SlotsIn w mb rb sp sl sb) (he : Ext mb w rb w1 rb1) : SlotsIn w1 mb rb1 sp sl sb := by
  refine ⟨fun h0 => ?_, fun i s hs j v hj => ?_⟩
  · obtain ⟨a, b, c, d⟩ := h.p h0
    refine ⟨a, Nat.lt_of_lt_of_le b he.size, c, ?_⟩
    rcases he.row with e | e
    · rw [e]; exact d
    · omega
  · obtain ⟨a, b, c, d⟩ := h.p (by have := (List.getElem?_eq_some_iff.1 hs).1; omega)
    rw [(he.blk b c d).1]
    exact h.c i s hs j v hj

/-- The four cells of a slot. -/
theorem SlotsIn.at {w : World} {mb rb : Nat} {sp : Option Addr} {sl : List Sl} {sb : Nat} (h : SlotsIn w mb rb sp sl sb) {i : Nat} {s : Sl} (hs : sl[i]? = some s) :
    w.cell? ⟨sb, i * 4, none⟩ = some (.int .i64 (s.idx : Nat)) ∧ w.cell? ⟨sb, i * 4 + 1, none⟩ = some (.int .i64 (s.wid : Nat)) ∧ w.cell? ⟨sb, i * 4 + 2, none⟩ = some (.int .u64 (s.u : Nat)) ∧ w.cell? ⟨sb, i * 4 + 3, none⟩ = some s.fv :=
  ⟨h.c i s hs 0 _ rfl, h.c i s hs 1 _ rfl, h.c i s hs 2 _ rfl, h.c i s hs 3 _ rfl⟩

/-- A number is written, the numbers as the walk has them. -/
theorem little_int (u n : Nat) (ui ni : Int) (hn : n ≤ 8) (hu : u < 18446744073709551616) (hui : ui = (u : Int)) (hni : ni = (n : Int)) (w : World) :
    Calls Tryz.prog 21 #[.int .u64 ui, .int .i64 ni] w fun e w' => ∃ (vo : Option Addr) (vc : Nat), e = .returned (.slice vo n vc) ∧ w'.ownsRow w.heap.size 5 1 (.slice vo n vc) n (bytesV (Lib.leBytes n u)) ∧ Below w.heap.size w w' := by
  subst hui
  subst hni
  exact little_any u n hn hu w

theorem belBlk {W w1 : World} {B : Nat} (hb : Below B W w1) {b : Nat} (h : b < B) : (∀ o, w1.cell? ⟨b, o, none⟩ = W.cell? ⟨b, o, none⟩) ∧ (∀ o, w1.frozen? ⟨b, o, none⟩ = W.frozen? ⟨b, o, none⟩) :=
  ⟨fun o => hb.cell (p := ⟨b, o, none⟩) h, fun o => hb.frozen (p := ⟨b, o, none⟩) h⟩

theorem fv_cases (s : Sl) : (s.ref = none ∧ s.fv = .nilFunc) ∨ ∃ F c, s.ref = some (F, c) ∧ s.fv = .func (.func F) #[] c := by
  unfold Sl.fv
  cases h : s.ref with
  | none => exact .inl ⟨rfl, rfl⟩
  | some p => exact .inr ⟨p.1, p.2, rfl, rfl⟩

/-- A slot's function is stored into its copy's last cell. -/
theorem store_slot (P : Program) (w : World) (a b c : Value) (s : Sl) (T : TypeId) : Sem.run P (store ⟨w.heap.size, 3, none⟩ s.fv) (w.alloc (.cells #[a, b, c, .nilFunc] T)) = .ok () (w.alloc (.cells #[a, b, c, s.fv] T)) := by
  rcases fv_cases s with ⟨-, h⟩ | ⟨F, cp, -, h⟩
  · rw [h]
    simp [go_sem]
  · rw [h]
    simp [go_sem]

theorem eql_nil (w : World) : Sem.run Tryz.prog (binOp .eql 263 .nilFunc .nilFunc) w = .ok (.bool true) w := by kernel_rfl
theorem eql_fn (F : Nat) (cp : Array Value) (w : World) : Sem.run Tryz.prog (binOp .eql 263 (.func (.func F) #[] cp) .nilFunc) w = .ok (.bool false) w := by kernel_rfl
theorem neq_nil (w : World) : Sem.run Tryz.prog (binOp .neq 263 .nilFunc .nilFunc) w = .ok (.bool false) w := by kernel_rfl
theorem neq_fn (F : Nat) (cp : Array Value) (w : World) : Sem.run Tryz.prog (binOp .neq 263 (.func (.func F) #[] cp) .nilFunc) w = .ok (.bool true) w := by kernel_rfl

/-- A row of numbers. -/
def NumsAt (w : World) (pb : Nat) (L : List Nat) : Prop := ∀ (i x : Nat), L[i]? = some x → w.cell? ⟨pb, i, none⟩ = some (.int .i64 (x : Nat))

theorem NumsAt.set {w : World} {pb : Nat} {L : List Nat} (h : NumsAt w pb L) {i : Nat} (hi : i < L.length) (v : Nat) : NumsAt (w.setCell ⟨pb, i, none⟩ (.int .i64 (v : Nat))) pb (L.set i v) := by
  intro j x hj
  rw [List.getElem?_set] at hj
  by_cases hij : i = j
  · subst hij
    rw [if_pos rfl, if_pos hi] at hj
    obtain rfl := Option.some.inj hj
    exact World.cell?_setCell_same _ _ _ (h i L[i] (List.getElem?_eq_getElem hi))
  · rw [if_neg hij] at hj
    exact (World.cell?_setCell_other _ _ _ _ (by simp [Ne.symm hij])).trans (h j x hj)

theorem NumsAt.blk {w w1 : World} {pb : Nat} {L : List Nat} (h : NumsAt w pb L) (hb : w1.heap[pb]? = w.heap[pb]?) : NumsAt w1 pb L := fun i x hi => (World.cell?_of_block hb).trans (h i x hi)

theorem infoByteS : (Tryz.prog.info? 5).map (·.size) = some 1 := by kernel_rfl
theorem infoInt' : (Tryz.prog.info? 3).map (fun i => (i.zero, i.size, i.bytes)) = some (some (.int .i64 0), 1, 8) := by kernel_rfl

/-- A row of so many zeros is made. -/
theorem make_ints (w : World) (m : Nat) (hm : m < 1000) : Sem.run Tryz.prog (Instr.makeSlice 291 (.int .i64 (m : Int)) (.int .i64 (m : Int))) w = .ok (.slice (some ⟨w.heap.size, 0, none⟩) m m) (w.alloc (.cells (List.replicate m (Value.int .i64 0)).toArray 3)) := by
  obtain ⟨i, hi, h⟩ := Option.map_eq_some_iff.1 infoInt'
  simp only [Prod.mk.injEq] at h
  have hr := run_make (P := Tryz.prog) w 291 3 i (.int .i64 0) Tryz.underlying291 hi h.1 .i64 .i64 (m : Int) (m : Int) (by omega) (by omega) (by rw [h.2.2]; omega) (by omega)
  rw [hr, h.2.1]
  have e : madeCells (Value.int .i64 0).cells ((m : Int).toNat * 1) = (List.replicate m (Value.int .i64 0)).toArray := by
    apply Array.ext
    · simp [madeCells]
    · intro j h1 h2
      simp [madeCells, Value.cells, Nat.mod_one]
  rw [e]
  simp

theorem made_ints (w : World) (m : Nat) (T : TypeId) : NumsAt (w.alloc (.cells (List.replicate m (Value.int .i64 0)).toArray T)) w.heap.size (List.replicate m 0) ∧ ∀ o, (w.alloc (.cells (List.replicate m (Value.int .i64 0)).toArray T)).frozen? ⟨w.heap.size, o, none⟩ = false := by
  refine ⟨fun i x hx => ?_, fun o => World.frozen?_alloc_at _ _ _ _ rfl⟩
  obtain ⟨hi, rfl⟩ := List.getElem?_eq_some_iff.1 hx
  refine (World.cell?_alloc_at _ _ _ _ rfl).trans ?_
  simp at hi
  simp [hi]

end Go.Proofs.YtcbcdgifakcooaaGreatDoor
