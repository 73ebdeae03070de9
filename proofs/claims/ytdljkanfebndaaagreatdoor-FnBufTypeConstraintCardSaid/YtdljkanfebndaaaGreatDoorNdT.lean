/-
  node at type constraints. No conditions.
-/
import Derived.Test.YtdljkanfebndaaaGreatDoorNdK4
import Derived.Deep.LoopGhost
import Derived.Deep.AppendLies
import Derived.Deep.RegionLaw
import Derived.Deep.RegionHeld3
namespace Go.Proofs.YtdljkanfebndaaaGreatDoor
open Go.RowKit
set_option linter.unusedVariables false
set_option linter.unusedSimpArgs false

theorem infoNode : (Tryz.prog.info? 25).map (fun i => (i.zero, i.size, i.bytes)) = some (some (.agg #[.int .i64 0, .string ⟨#[]⟩, .string ⟨#[]⟩, .int .u64 0, .slice none 0 0]), 5, 72) := by kernel_rfl
theorem undNodes : Tryz.prog.underlying 23 = some (.slice 25) := by kernel_rfl

/-- A row of pointers to the package's nodes, cell by cell. -/
def PtrList (R : World → Nd → Nat → Prop) (w : World) (ao : Option Addr) (ns : List Nd) : Prop :=
  ∀ (j : Nat) (n : Nd), ns[j]? = some n → ∃ g b, ao = some ⟨g, 0, none⟩ ∧ w.cell? ⟨g, j, none⟩ = some (.pointer (some ⟨b, 0, none⟩)) ∧ R w n b

theorem news5 (w : World) (m : Nd) (T : TypeId) : ∀ j u, m.cells5[j]? = some u → (w.alloc (.cells m.cells5.toArray T)).cell? ((⟨w.heap.size, 0, none⟩ : Addr).add j) = some u := by
  intro j u hu
  exact World.news_of_block (heap_alloc_new w _) j u hu

set_option maxRecDepth 100000 in
set_option maxHeartbeats 1000000 in
theorem listIdentifier (d : Nat) (hN : NodeK 33 d) (e : Nat) (A : Nat → Prop) (ns : List Nd) (ao : Option Addr) (cap : Nat) (w : World) (hlen4 : ns.length ≤ 1000) (hL : PtrList (RepD A d) w ao ns) (hk : ∀ x ∈ ns, GoodW e x ∧ x.kind = 33) :
    Calls Tryz.prog 120 #[.slice ao ns.length cap] w (BackPost ns w) := by
  obtain ⟨len, hlen⟩ : ∃ len, ns.length = len := ⟨_, rfl⟩
  rw [hlen] at hlen4 ⊢
  obtain ⟨i0, hi, hz0, hz1, hz2⟩ := info_parts infoNode
  have HN := Lib.hid hlen
  have HL := Lib.hid hL
  have HK := Lib.hid hk
  clear hlen hL hk
  go_enter Tryz.func120, Tryz.ntmps120
  go_wp2_with fail
  go_loopg [3, 8] len (fun gk out i wr => ∃ (j : Nat) (ao' : Option Addr) (cap' : Nat), j ≤ len ∧ gk = len - j ∧ i = .int .i64 (j : Int) ∧ out = .slice ao' j cap' ∧ Hid (BackOk w.heap.size ns j (.slice ao' j cap') wr) ∧ Hid (Below w.heap.size w wr))
  case atStart => exact ⟨0, none, 0, by omega, by omega, rfl, rfl, Lib.hid (BackOk.start _ _ _), Lib.hid (Below.refl _ _)⟩
  case round =>
    obtain ⟨j, ao', cap', hj, rfl, rfl, rfl, hO, hB⟩ := hrel
    by_cases hjn : j < len
    · have hjz : (j : Int) < (len : Int) := by omega
      obtain ⟨x, hx⟩ : ∃ x, ns[j]? = some x := ⟨ns[j]'(by have := HN.out; omega), List.getElem?_eq_getElem _⟩
      obtain ⟨g0, b, rfl, hc, hR⟩ := HL.out j x hx
      have c0 : wr.cell? ⟨g0, j, none⟩ = some _ := (hB.out.cell (World.block_lt_of_cell? _ _ hc)).trans hc
      have HX := Lib.hid hx
      have HR := Lib.hid (hR.below hB.out)
      have HKX := Lib.hid (HK.out x (List.mem_of_getElem? hx))
      clear hx hc hR
      go_wp2_with fail
      refine (show Calls Tryz.prog 27 #[.iface 77 (.pointer (some ⟨b, 0, none⟩))] _ (NodePost x _) from by have h := hN e A x b wr HKX.out.2 HKX.out.1 HR.out; rw [HKX.out.2, ptrTy_33] at h; exact h).mono ?_
      rintro e w1 ⟨E, m, rfl, hS, hl, hb1⟩
      have HB1 := Lib.hid hb1
      have HO1 := Lib.hid (hO.out.below hb1)
      have HS := Lib.hid hS
      have HBw := Lib.hid (hB.out.trans (hb1.mono hB.out.size))
      have hBs : w.heap.size ≤ w1.heap.size := HBw.out.size
      have hwf : m.kids.length ≤ maxLen := hl.wf.2.2.1
      have hlt : ∀ g, (Value.slice ao' j cap').ownBlock = some g → g < wr.heap.size := by
        intro g hg
        obtain ⟨D, ms, h1, _⟩ := hO.out
        exact (World.ownsRow.lt h1 g hg).2
      have HXX := Lib.hid (hl.mono (A' := fun b => w.heap.size ≤ b ∧ some b ≠ (Value.slice ao' j cap').ownBlock) (fun b hb => ⟨Nat.le_trans hB.out.size hb, fun e => by have := hlt b e.symm; unfold From at hb; omega⟩))
      obtain ⟨D, ms, hown, -⟩ := HO1.out
      have HOW0 := Lib.hid hown
      have HOW := Lib.hid (hown.alloc (.cells m.cells5.toArray 25))
      clear hS hl hb1 hlt hown hwf
      go_wp2_with (at_builtin; refine wpList_append_lies _ rfl _ _ 23 rfl w.heap.size 25 i0 _ 5 72 undNodes hi hz0 hz1 hz2 rfl (by decide) _ _ _ rfl HOW.out ⟨w1.heap.size, 0, none⟩ 1 1 m.cells5 rfl rfl ?c1 ?c2 (by decide) ?c3 ?c4 ?c5 _ rfl ?_)
      case c1 => exact news5 _ _ _
      case c2 => intro u hu; simp [Nd.cells5] at hu; rcases hu with rfl | rfl | rfl | rfl | rfl <;> rfl
      case c3 => unfold maxLen; omega
      case c4 => omega
      case c5 => simp; omega
      intro g cap2 w2 hown' hgrow hat hglt
      have HO2 := Lib.hid (BackOk.next HO1.out HX.out HS.out HXX.out HOW0.out hown' rfl hgrow (hat.imp id (fun h => by simpa using h)))
      have HB2 := Lib.hid ((HBw.out.alloc hBs _).grown hgrow (by simp; omega) (by
        intro k hk
        exact (World.ownsRow.lt HOW0.out k hk).1))
      clear hown' hgrow hat
      go_wp2_with fail
      go_roundg (len - (j + 1))
      case measure => omega
      case rel => exact ⟨j + 1, some ⟨g, 0, none⟩, cap2, by omega, rfl, by push_cast; rfl, rfl, HO2, HB2⟩
    · have hjz : ¬ (j : Int) < (len : Int) := by omega
      obtain rfl : j = len := by omega
      go_wp2_with fail
      go_ret
      have hl := HN.out
      have hO2 := hO.out
      rw [← hl] at hO2
      obtain ⟨D, ao2, cap2, ms, he, h1, h2, h3⟩ := hO2.done
      rw [hl] at he h1
      cases he
      unfold BackPost
      rw [hl]
      exact ⟨D, _, _, ms, rfl, h1, h2, h3, hB.out⟩

/-! more -/
theorem PtrList.below {A : Nat → Prop} {d : Nat} {w w' : World} {ao : Option Addr} {ns : List Nd} (h : PtrList (RepD A d) w ao ns) (hb : Below w.heap.size w w') : PtrList (RepD A d) w' ao ns := by
  intro j n hn
  obtain ⟨g, b, a, c, r⟩ := h j n hn
  exact ⟨g, b, a, (hb.cell (World.block_lt_of_cell? _ _ c)).trans c, r.below hb⟩

theorem no_46 (T : TypeId) (h : T ≠ 309) (p : Value) (w : World) : Sem.run Tryz.prog (Instr.typeAssert (.iface T p) 107 309 true) w = .ok (.tuple #[.pointer none, .bool false]) w := by
  have hz : Sem.run Tryz.prog (zeroValue 309) w = .ok (.pointer none) w := by kernel_rfl
  unfold Instr.typeAssert
  simp [go_sem, hz, h]
theorem yes_46 (p : Value) (w : World) : Sem.run Tryz.prog (Instr.typeAssert (.iface 309 p) 107 309 true) w = .ok (.tuple #[p, .bool true]) w := by kernel_rfl
theorem no_47 (T : TypeId) (h : T ≠ 311) (p : Value) (w : World) : Sem.run Tryz.prog (Instr.typeAssert (.iface T p) 107 311 true) w = .ok (.tuple #[.pointer none, .bool false]) w := by
  have hz : Sem.run Tryz.prog (zeroValue 311) w = .ok (.pointer none) w := by kernel_rfl
  unfold Instr.typeAssert
  simp [go_sem, hz, h]
theorem yes_47 (p : Value) (w : World) : Sem.run Tryz.prog (Instr.typeAssert (.iface 311 p) 107 311 true) w = .ok (.tuple #[p, .bool true]) w := by kernel_rfl
theorem no_48 (T : TypeId) (h : T ≠ 314) (p : Value) (w : World) : Sem.run Tryz.prog (Instr.typeAssert (.iface T p) 107 314 true) w = .ok (.tuple #[.pointer none, .bool false]) w := by
  have hz : Sem.run Tryz.prog (zeroValue 314) w = .ok (.pointer none) w := by kernel_rfl
  unfold Instr.typeAssert
  simp [go_sem, hz, h]
theorem yes_48 (p : Value) (w : World) : Sem.run Tryz.prog (Instr.typeAssert (.iface 314 p) 107 314 true) w = .ok (.tuple #[p, .bool true]) w := by kernel_rfl
theorem no_49 (T : TypeId) (h : T ≠ 317) (p : Value) (w : World) : Sem.run Tryz.prog (Instr.typeAssert (.iface T p) 107 317 true) w = .ok (.tuple #[.pointer none, .bool false]) w := by
  have hz : Sem.run Tryz.prog (zeroValue 317) w = .ok (.pointer none) w := by kernel_rfl
  unfold Instr.typeAssert
  simp [go_sem, hz, h]
theorem yes_49 (p : Value) (w : World) : Sem.run Tryz.prog (Instr.typeAssert (.iface 317 p) 107 317 true) w = .ok (.tuple #[p, .bool true]) w := by kernel_rfl
theorem no_50 (T : TypeId) (h : T ≠ 322) (p : Value) (w : World) : Sem.run Tryz.prog (Instr.typeAssert (.iface T p) 107 322 true) w = .ok (.tuple #[.pointer none, .bool false]) w := by
  have hz : Sem.run Tryz.prog (zeroValue 322) w = .ok (.pointer none) w := by kernel_rfl
  unfold Instr.typeAssert
  simp [go_sem, hz, h]
theorem yes_50 (p : Value) (w : World) : Sem.run Tryz.prog (Instr.typeAssert (.iface 322 p) 107 322 true) w = .ok (.tuple #[p, .bool true]) w := by kernel_rfl
theorem no_51 (T : TypeId) (h : T ≠ 325) (p : Value) (w : World) : Sem.run Tryz.prog (Instr.typeAssert (.iface T p) 107 325 true) w = .ok (.tuple #[.pointer none, .bool false]) w := by
  have hz : Sem.run Tryz.prog (zeroValue 325) w = .ok (.pointer none) w := by kernel_rfl
  unfold Instr.typeAssert
  simp [go_sem, hz, h]
theorem yes_51 (p : Value) (w : World) : Sem.run Tryz.prog (Instr.typeAssert (.iface 325 p) 107 325 true) w = .ok (.tuple #[p, .bool true]) w := by kernel_rfl
theorem no_52 (T : TypeId) (h : T ≠ 330) (p : Value) (w : World) : Sem.run Tryz.prog (Instr.typeAssert (.iface T p) 107 330 true) w = .ok (.tuple #[.pointer none, .bool false]) w := by
  have hz : Sem.run Tryz.prog (zeroValue 330) w = .ok (.pointer none) w := by kernel_rfl
  unfold Instr.typeAssert
  simp [go_sem, hz, h]
theorem yes_52 (p : Value) (w : World) : Sem.run Tryz.prog (Instr.typeAssert (.iface 330 p) 107 330 true) w = .ok (.tuple #[p, .bool true]) w := by kernel_rfl
theorem no_53 (T : TypeId) (h : T ≠ 97) (p : Value) (w : World) : Sem.run Tryz.prog (Instr.typeAssert (.iface T p) 107 97 true) w = .ok (.tuple #[.pointer none, .bool false]) w := by
  have hz : Sem.run Tryz.prog (zeroValue 97) w = .ok (.pointer none) w := by kernel_rfl
  unfold Instr.typeAssert
  simp [go_sem, hz, h]
theorem yes_53 (p : Value) (w : World) : Sem.run Tryz.prog (Instr.typeAssert (.iface 97 p) 107 97 true) w = .ok (.tuple #[p, .bool true]) w := by kernel_rfl
set_option maxRecDepth 100000 in
set_option maxHeartbeats 2000000 in
theorem via_TypeConstraint (n : Nd) (b : Nat) (w : World) (H : ∀ w', Below w.heap.size w w' → Calls Tryz.prog 70 #[.iface 97 (.pointer (some ⟨b, 0, none⟩))] w' (NodePost n w')) :
    Calls Tryz.prog 27 #[.iface 97 (.pointer (some ⟨b, 0, none⟩))] w (NodePost n w) := by
  have H := Lib.hid H
  have q2 := no_2 97 (by decide)
  have q3 := no_3 97 (by decide)
  have q4 := no_4 97 (by decide)
  have q5 := no_5 97 (by decide)
  have q6 := no_6 97 (by decide)
  have q7 := no_7 97 (by decide)
  have q8 := no_8 97 (by decide)
  have q9 := no_9 97 (by decide)
  have q10 := no_10 97 (by decide)
  have q11 := no_11 97 (by decide)
  have q12 := no_12 97 (by decide)
  have q13 := no_13 97 (by decide)
  have q14 := no_14 97 (by decide)
  have q15 := no_15 97 (by decide)
  have q16 := no_16 97 (by decide)
  have q17 := no_17 97 (by decide)
  have q18 := no_18 97 (by decide)
  have q19 := no_19 97 (by decide)
  have q20 := no_20 97 (by decide)
  have q21 := no_21 97 (by decide)
  have q22 := no_22 97 (by decide)
  have q23 := no_23 97 (by decide)
  have q24 := no_24 97 (by decide)
  have q25 := no_25 97 (by decide)
  have q26 := no_26 97 (by decide)
  have q27 := no_27 97 (by decide)
  have q28 := no_28 97 (by decide)
  have q29 := no_29 97 (by decide)
  have q30 := no_30 97 (by decide)
  have q31 := no_31 97 (by decide)
  have q32 := no_32 97 (by decide)
  have q33 := no_33 97 (by decide)
  have q34 := no_34 97 (by decide)
  have q35 := no_35 97 (by decide)
  have q36 := no_36 97 (by decide)
  have q37 := no_37 97 (by decide)
  have q38 := no_38 97 (by decide)
  have q39 := no_39 97 (by decide)
  have q41 := no_41 97 (by decide)
  have q42 := no_42 97 (by decide)
  have q43 := no_43 97 (by decide)
  go_enter Tryz.func27, Tryz.ntmps27
  go_wp2_with fail
  refine (H.out _ ((Below.refl _ _).alloc (Nat.le_refl _) _)).mono ?_
  rintro e w1 ⟨E, m, rfl, hS, hl, hb1⟩
  have HS := Lib.hid hS
  have Hl := Lib.hid hl
  have HB := Lib.hid hb1
  obtain ⟨k0, f0⟩ := bblk hb1 (b := w.heap.size) (by simp)
  clear hS hl hb1
  go_wp2_with fail
  refine bodyPost_ret (v := .agg #[.int .i64 m.kind, .string m.text, .string m.more, .int .u64 m.num, .slice m.ao m.kids.length m.cap]) ?_ rfl (NodePost.stored _ _ _ _ _ (NodePost.keep HS.out Hl.out HB.out))
  simp [results, Tryz.f27, go_sem, k0]

/-- A plain node whose kids lie in a row that a call has made. -/
theorem back_row {w0 w2 : World} {k : Int} {t mo : ByteArray} {u : Int} {oa : Option Addr} {c L : Nat} {kids ms : List Nd} {g cap : Nat} (hlen : ms.length = kids.length) (hwf : (Nd.mk k t mo u oa c kids).wf) (hB : Below w0.heap.size w0 w2)
    (hown : w2.ownsRow w0.heap.size 25 5 (.slice (some ⟨g, 0, none⟩) L cap) L (ms.flatMap Nd.cells5)) (hL : L = ms.length)
    (hk : ∀ (i : Nat) (x y : Nd), kids[i]? = some x → ms[i]? = some y → ∃ D, SameD D x y ∧ LiesIn (From w0.heap.size) D w2 y) :
    NodePost (.mk k t mo u oa c kids) w0 (.returned (.agg #[.int .i64 k, .string t, .string mo, .int .u64 u, .slice (some ⟨g, 0, none⟩) L cap])) w2 := by
  subst hL
  obtain ⟨D, hD⟩ := Deep.fuel_lt (n := ms.length) (q := fun i D => ∀ (x y : Nd), kids[i]? = some x → ms[i]? = some y → SameD D x y ∧ LiesIn (From w0.heap.size) D w2 y)
    (fun i a b hab h x y hx hy => ⟨(h x y hx hy).1.up hab, (h x y hx hy).2.up hab⟩)
    (fun i hi => by
      obtain ⟨x, hx⟩ : ∃ x, kids[i]? = some x := ⟨kids[i]'(by omega), List.getElem?_eq_getElem _⟩
      obtain ⟨y, hy⟩ : ∃ y, ms[i]? = some y := ⟨ms[i]'hi, List.getElem?_eq_getElem _⟩
      obtain ⟨E, h1, h2⟩ := hk i x y hx hy
      refine ⟨E, fun x' y' hx' hy' => ?_⟩
      rw [hx] at hx'; cases hx'
      rw [hy] at hy'; cases hy'
      exact ⟨h1, h2⟩)
  obtain ⟨w1, w2', w3, w4, w5, w6, w7⟩ := hwf
  refine ⟨D + 1, .mk k t mo u (some ⟨g, 0, none⟩) cap ms, rfl, ⟨rfl, rfl, rfl, rfl, hlen.symm, fun i x y hx hy => (hD i (List.getElem?_eq_some_iff.1 hy).1 x y hx hy).1⟩, ⟨⟨w1, w2', by simp only [Nd.kids] at w3 ⊢; omega, w4, w5, w6, w7⟩, fun i y hy => ?_⟩, hB⟩
  have hy' : ms[i]? = some y := hy
  have hi := (List.getElem?_eq_some_iff.1 hy').1
  obtain ⟨x, hx⟩ : ∃ x, kids[i]? = some x := ⟨kids[i]'(by omega), List.getElem?_eq_getElem _⟩
  rcases hown.2 with ⟨h, _⟩ | ⟨g', cap', cur, hv, hg, hc, _, _, _, ht⟩
  · cases h
  · cases hv
    exact ⟨⟨g, 0, hg, rfl, row_cells (cap := 0) hc ht hy'⟩, (hD i hi x y hx hy').2⟩

theorem call_row {w0 c0 c1 w2 : World} {k : Int} {t mo : ByteArray} {u : Int} {oa ao : Option Addr} {c L : Nat} {x0 m0 : Nd} {rest ms : List Nd} {g cap E D : Nat} {T : TypeId} (hwf : (Nd.mk k t mo u oa c (x0 :: rest)).wf) (hlm : ms.length = rest.length) (h0 : Below w0.heap.size w0 c0) (h1 : Below c0.heap.size c0 c1)
    (hS0 : SameD E x0 m0) (hl0 : LiesIn (From w0.heap.size) E c0 m0) (hss : ∀ (i : Nat) (n m : Nd), rest[i]? = some n → ms[i]? = some m → SameD D n m) (hli : ListIn (From c0.heap.size) D c1 ao ms)
    (hown : w2.ownsRow w0.heap.size 25 5 (.slice (some ⟨g, 0, none⟩) L cap) L (m0.cells5 ++ ms.flatMap Nd.cells5)) (hL : L = rest.length + 1) (hg : (c1.alloc (.cells m0.cells5.toArray T)).grownBy w2 (some c1.heap.size)) :
    NodePost (.mk k t mo u oa c (x0 :: rest)) w0 (.returned (.agg #[.int .i64 k, .string t, .string mo, .int .u64 u, .slice (some ⟨g, 0, none⟩) L cap])) w2 := by
  have h01 : Below w0.heap.size w0 c1 := h0.trans (h1.mono h0.size)
  have hstay : ∀ b, b < c1.heap.size → w2.heap[b]? = c1.heap[b]? := by
    intro b hb
    rw [hg.block b (by simp; omega) (by simp; omega), heap_alloc_old _ _ hb]
  refine back_row (ms := m0 :: ms) (by simp [hlm]) hwf (((h01.alloc h01.size _).grown hg (by have := h01.size; simp; omega) (fun j hj => by cases hj; exact h01.size))) hown (by simp [hlm, hL]) (fun i x y hx hy => ?_)
  cases i with
  | zero =>
    simp at hx hy
    subst hx hy
    refine ⟨E, hS0, hl0.carry (fun b o hA ho => ⟨?_, hA⟩)⟩
    have hlt : b < c0.heap.size := (Array.getElem?_eq_some_iff.1 ho).1
    rw [hstay b (Nat.lt_of_lt_of_le hlt h1.size), h1.block b hlt]
    exact ho
  | succ i =>
    simp at hx hy
    refine ⟨D, hss i x y hx hy, (hli i y hy).2.carry (fun b o hA ho => ⟨?_, Nat.le_trans h0.size hA⟩)⟩
    have hlt : b < c1.heap.size := (Array.getElem?_eq_some_iff.1 ho).1
    rw [hstay b hlt]
    exact ho

theorem call_row1 {w0 c0 c1 w2 : World} {k : Int} {t mo : ByteArray} {u : Int} {oa ao : Option Addr} {c L : Nat} {x0 m0 : Nd} {rest ms : List Nd} {g cap E D : Nat} (hwf : (Nd.mk k t mo u oa c (x0 :: rest)).wf) (hlm : ms.length = rest.length) (h0 : Below w0.heap.size w0 c0) (h1 : Below c0.heap.size c0 c1)
    (hS0 : SameD E x0 m0) (hl0 : LiesIn (From w0.heap.size) E c0 m0) (hss : ∀ (i : Nat) (n m : Nd), rest[i]? = some n → ms[i]? = some m → SameD D n m) (hli : ListIn (From (c0.heap.size + 1)) D c1 ao ms)
    (hown : w2.ownsRow w0.heap.size 25 5 (.slice (some ⟨g, 0, none⟩) L cap) L (m0.cells5 ++ ms.flatMap Nd.cells5)) (hL : L = rest.length + 1) (hg : c1.grownBy w2 (some c0.heap.size)) :
    NodePost (.mk k t mo u oa c (x0 :: rest)) w0 (.returned (.agg #[.int .i64 k, .string t, .string mo, .int .u64 u, .slice (some ⟨g, 0, none⟩) L cap])) w2 := by
  have h01 : Below w0.heap.size w0 c1 := h0.trans (h1.mono h0.size)
  refine back_row (ms := m0 :: ms) (by simp [hlm]) hwf (h01.grown hg h01.size (fun j hj => by cases hj; exact h0.size)) hown (by simp [hlm, hL]) (fun i x y hx hy => ?_)
  cases i with
  | zero =>
    simp at hx hy
    subst hx hy
    refine ⟨E, hS0, hl0.carry (fun b o hA ho => ⟨?_, hA⟩)⟩
    have hlt : b < c0.heap.size := (Array.getElem?_eq_some_iff.1 ho).1
    rw [hg.block b (Nat.lt_of_lt_of_le hlt h1.size) (by simp; omega), h1.block b hlt]
    exact ho
  | succ i =>
    simp at hx hy
    refine ⟨D, hss i x y hx hy, (hli i y hy).2.carry (fun b o hA ho => ⟨?_, Nat.le_trans (Nat.le_trans h0.size (Nat.le_succ _)) hA⟩)⟩
    have hlt : b < c1.heap.size := (Array.getElem?_eq_some_iff.1 ho).1
    rw [hg.block b hlt (by unfold From at hA; simp; omega)]
    exact ho

theorem cells5_one : ∀ (ms : List Nd) (u : Value), u ∈ ms.flatMap Nd.cells5 → u.oneCell' = true := by
  intro ms u hu
  obtain ⟨m, -, h⟩ := List.mem_flatMap.1 hu
  simp [Nd.cells5] at h
  rcases h with rfl | rfl | rfl | rfl | rfl <;> rfl

theorem list_news {A : Nat → Prop} {D : Nat} {w : World} {b o : Nat} {ms : List Nd} (h : ListIn A D w (some ⟨b, o, none⟩) ms) : ∀ j u, (ms.flatMap Nd.cells5)[j]? = some u → w.cell? ((⟨b, o, none⟩ : Addr).add j) = some u := by
  intro j u hu
  have hj := (List.getElem?_eq_some_iff.1 hu).1
  rw [cells5_len] at hj
  obtain ⟨m, hm⟩ : ∃ m, ms[j / 5]? = some m := ⟨ms[j / 5]'(by omega), List.getElem?_eq_getElem _⟩
  obtain ⟨⟨b', o', -, ha, hc⟩, -⟩ := h (j / 5) m hm
  cases ha
  have e : j = j / 5 * 5 + j % 5 := by omega
  have hlt : j % 5 < 5 := Nat.mod_lt _ (by omega)
  have h5 := cells5_at ms (j / 5) (j % 5) m hm hlt
  rw [← e, hu] at h5
  have hadd : (⟨b, o, none⟩ : Addr).add j = ⟨b, o + j / 5 * 5 + j % 5, none⟩ := by
    unfold Addr.add
    split
    · rename_i h0; subst h0; simp
    · simp; omega
  rw [hadd]
  obtain ⟨h0, h1, h2, h3, h4⟩ := hc
  have : j % 5 = 0 ∨ j % 5 = 1 ∨ j % 5 = 2 ∨ j % 5 = 3 ∨ j % 5 = 4 := by omega
  rcases this with e5 | e5 | e5 | e5 | e5 <;> rw [e5] at h5 ⊢ <;> simp [Nd.cells5] at h5 <;> subst h5
  · exact h0
  · exact h1
  · exact h2
  · exact h3
  · exact h4

theorem headStep2 {P : Program} {ops : Array Oper} {Q : Exit → Act → World → Prop} {md : Region.Mode} {S : World → Prop} {n i j : Nat} {oi oj : Oper} {fuel : Nat} {listed : Array Bool} {a : Act} {w : World} (hoi : ops[i]? = some oi) (hoj : ops[j]? = some oj) (hr : Region.ready md ops listed = [i, j])
    (hi : ∀ K' : Act → World → Prop, Hid (∀ a w, ((i < n → S w) ∧ ((i < n → S w) → HeadH P md ops Q S n fuel (listed.setIfInBounds i true) a w)) → K' a w) → if Region.wanted oi (yielded ops a.tmps) = true then Oper.wp P oi a w K' Q else K' (a.put oi.dst undef) w)
    (hj : ∀ K' : Act → World → Prop, Hid (∀ a w, ((j < n → S w) ∧ ((j < n → S w) → HeadH P md ops Q S n fuel (listed.setIfInBounds j true) a w)) → K' a w) → if Region.wanted oj (yielded ops a.tmps) = true then Oper.wp P oj a w K' Q else K' (a.put oj.dst undef) w) :
    HeadH P md ops Q S n (fuel + 1) listed a w := by
  refine ⟨fun h0 => (by rw [hr] at h0; cases h0), fun k hk => ?_⟩
  rw [hr] at hk
  have hk2 : k = i ∨ k = j := by simpa using hk
  rcases hk2 with rfl | rfl
  · exact wpOp_step hoi (fun K' hK => hi K' (Lib.hid (fun a w h2 => hK a w ⟨h2.1, h2.2 h2.1⟩)))
  · exact wpOp_step hoj (fun K' hK => hj K' (Lib.hid (fun a w h2 => hK a w ⟨h2.1, h2.2 h2.1⟩)))

theorem app_nil (g : Nat) (w : World) : (Builtin.append_ #[23, 23] 23 #[.slice (some ⟨g, 0, none⟩) 1 1, .slice none 0 0]).run Tryz.prog w = .ok (.slice (some ⟨g, 0, none⟩) 1 1) w := by kernel_rfl
theorem step_append_nil {Pr : Program} {w : World} {ops : Array Oper} {o : Oper} {a : Act} {K : Act → World → Prop} {Q : Exit → Act → World → Prop} {E : Prop} {v : Value} (hgd : o.guard = none) (s x : Operand) (t : TypeId)
    (ho : o.op = .call { callee := .builtin .append, args := #[s, x], argTypes := #[t, t] }) (hs : a.eval s = v) (hx : a.eval x = .slice none 0 0) (hrun : (Builtin.append_ #[t, t] o.type #[v, .slice none 0 0]).run Pr w = .ok v w)
    (h : K (a.put o.dst v) w) : if Region.wanted o (yielded ops a.tmps) = true then Oper.wp Pr o a w K Q else E := by
  rw [if_pos (by simp [Region.wanted, hgd])]
  unfold Oper.wp execOp
  simp only [ho, resolve, invoke, builtin, Sem.run_bind, Sem.run_pure, Result.andThen_ok, List.map_toArray, List.map_cons, List.map_nil, hs, hx, hrun]
  exact h

theorem list_some {A : Nat → Prop} {D : Nat} {w : World} {ao : Option Addr} {ms : List Nd} (h : ListIn A D w ao ms) (hm : 0 < ms.length) : ∃ b o, ao = some ⟨b, o, none⟩ := by
  obtain ⟨⟨b, o, -, ha, -⟩, -⟩ := h 0 (ms[0]'hm) (List.getElem?_eq_getElem _)
  exact ⟨b, o, ha⟩

theorem one_row {B g : Nat} {w : World} {m : Nd} (h : w.heap[g]? = some (.cells m.cells5.toArray 25 (0, 0))) (hB : B ≤ g) : w.ownsRow B 25 5 (.slice (some ⟨g, 0, none⟩) 1 1) 1 m.cells5 :=
  ⟨rfl, Or.inr ⟨g, 1, _, rfl, hB, h, Nat.le_refl _, by decide, rfl, rfl⟩⟩

theorem listIdentifier_nil (ao : Option Addr) (cap : Nat) (w : World) : Calls Tryz.prog 120 #[.slice ao 0 cap] w fun e w' => e = .returned (.slice none 0 0) ∧ Below w.heap.size w w' := by
  go_enter Tryz.func120, Tryz.ntmps120
  go_wp2_with fail
  go_loop [3, 8] (fun out i => out = .slice none 0 0 ∧ i = .int .i64 0) (fun _ _ => 0)
  case atStart => exact ⟨rfl, rfl⟩
  case round =>
    obtain ⟨rfl, rfl⟩ := hrel
    go_wp2_with fail
    go_ret
    exact ⟨rfl, Below.refl _ _⟩

set_option maxRecDepth 100000 in
set_option maxHeartbeats 2000000 in
theorem tn_53 (d : Nat) (hN : NodeK 33 d) (e : Nat) (A : Nat → Prop) (n : Nd) (b b0 : Nat) (aoL : Option Addr) (capL : Nat) (w : World) (hG : PreD (e + 1) n) (hW : WfN n) (hk : n.kind = 53) (hb : w.heap[b]? = some (.cells #[.pointer none, .slice none 0 0, .slice none 0 0, .pointer (some ⟨b0, 0, none⟩), .slice aoL (n.kids.length - 1 : Nat) capL] 100 (0, 0))) (hR0 : ∀ x rest, n.kids = x :: rest → RepD A d w x b0) (hHL : ∀ x rest, n.kids = x :: rest → PtrList (RepD A d) w aoL rest) (hr : 1 < n.kids.length) :
    Calls Tryz.prog 70 #[.iface 97 (.pointer (some ⟨b, 0, none⟩))] w (NodePost n w) := by
  obtain ⟨k, t, m, u, ao, cap, kids⟩ := n
  obtain rfl : k = 53 := hk
  have hn0 : (Nd.mk 53 t m u ao cap kids).kind ≠ 0 := by show (53 : Int) ≠ 0; decide
  have hn1 : (Nd.mk 53 t m u ao cap kids).kind ≠ 1 := by show (53 : Int) ≠ 1; decide
  have hPl := (hG.fit hn0).2.2.1
  have HWF := Lib.hid hW.wf
  obtain rfl : t = ⟨#[]⟩ := hPl.1 (show hasText 53 = false by decide)
  obtain rfl : u = 0 := hPl.2.1 (show hasNum 53 = false by decide)
  obtain rfl : m = ⟨#[]⟩ := hPl.2.2.1 (show (53 : Int) ≠ 2 by decide) (show (53 : Int) ≠ 3 by decide)
  have hln : 1 ≤ kids.length := by
    have h1 := ((hG.fit hn0).2.2.2.1 hn1).1
    rw [show (fixedL (Nd.kind (.mk 53 ⟨#[]⟩ ⟨#[]⟩ 0 ao cap kids))).length = 1 from by show (fixedL 53).length = 1; decide] at h1
    exact h1
  obtain ⟨x0, rest, rfl⟩ : ∃ x0 rest, kids = x0 :: rest := by
    cases kids with
    | nil => simp at hln
    | cons x0 rest => exact ⟨x0, rest, rfl⟩
  obtain ⟨hP0, hC0⟩ := hG.kid (i := 0) (x := x0) hn0 rfl
  have hr1 : 1 ≤ rest.length := by have : 1 < (x0 :: rest).length := hr; simp at this; omega
  have hks : ∀ x ∈ rest, GoodW e x ∧ x.kind = 33 := by
    intro x hx
    obtain ⟨i, hi, e1⟩ := List.mem_iff_getElem.1 hx
    have hx2 : (x0 :: rest)[i + 1]? = some x := by rw [List.getElem?_cons_succ, List.getElem?_eq_getElem hi, e1]
    obtain ⟨hP, hC⟩ := hG.kid (i := i + 1) (x := x) hn0 hx2
    have hC1 := hC hn1
    have e1 : (fixedL 53).getD (i + 1) (restL 53) = restL 53 := by rw [show fixedL 53 = [3] from by decide]; simp
    have hC2 : ofClassB x (restL 53) = true := by rw [← e1]; exact hC1
    have hkx : x.kind = 33 := by have h := class_few [33] rfl hC2; simpa using h
    exact ⟨⟨hP.good (by rw [hkx]; decide), hW.kid (i := i + 1) hx2⟩, hkx⟩
  have hsm : rest.length ≤ 1000 := by have := hG.small; simp only [Nd.kids, List.length_cons] at this; omega
  have HKS := Lib.hid hks
  have HSM := Lib.hid hsm
  have hx33 : x0.kind = 33 := by have h := class_few [33] rfl (hC0 hn1); simpa using h
  have HX33 := Lib.hid hx33
  have HG0 := Lib.hid (show GoodW e x0 from ⟨hP0.good (by rw [hx33]; decide), hW.kid (i := 0) rfl⟩)
  have HR0 := Lib.hid (hR0 x0 rest rfl)
  have HHL := Lib.hid (hHL x0 rest rfl)
  have c3 : w.cell? ⟨b, 3, none⟩ = some (.pointer (some ⟨b0, 0, none⟩)) := by rw [Lib.cell_of_heap hb]; rfl
  have c5 : w.cell? ⟨b, 4, none⟩ = some (.slice aoL rest.length capL) := by rw [Lib.cell_of_heap hb]; rfl
  have hblt : b < w.heap.size := World.block_lt_of_cell? _ _ c5
  have hbne : ¬ b = w.heap.size := by omega
  have hbne2 : ¬ w.heap.size = b := by omega
  obtain ⟨i0, hi, hz0, hz1, hz2⟩ := info_parts infoNode
  clear hn0 hn1 hPl hln hG hW hb hR0 hHL hP0 hC0 hr hks hsm hx33
  have q44 := no_44 97 (by decide)
  have q45 := no_45 97 (by decide)
  have q46 := no_46 97 (by decide)
  have q47 := no_47 97 (by decide)
  have q48 := no_48 97 (by decide)
  have q49 := no_49 97 (by decide)
  have q50 := no_50 97 (by decide)
  have q51 := no_51 97 (by decide)
  have q52 := no_52 97 (by decide)
  have q53 := yes_53
  go_enter Tryz.func70, Tryz.ntmps70
  go_wp2_with fail
  have hS0 : ((w.alloc zN).cell? ⟨b, 3, none⟩ = some (.pointer (some ⟨b0, 0, none⟩)) ∧ (w.alloc zN).cell? ⟨b, 4, none⟩ = some (.slice aoL rest.length capL)) := ⟨by rw [((Below.refl w.heap.size w).alloc (Nat.le_refl _) zN).cell (p := ⟨b, 3, none⟩) hblt]; exact c3, by rw [((Below.refl w.heap.size w).alloc (Nat.le_refl _) zN).cell (p := ⟨b, 4, none⟩) hblt]; exact c5⟩
  have HSK := Lib.hid (show ∀ W' : World, (∀ o, W'.cell? ⟨b, o, none⟩ = w.cell? ⟨b, o, none⟩) → (W'.cell? ⟨b, 3, none⟩ = some (.pointer (some ⟨b0, 0, none⟩)) ∧ W'.cell? ⟨b, 4, none⟩ = some (.slice aoL rest.length capL)) from fun W' h => ⟨(h _).trans c3, (h _).trans c5⟩)
  refine headBegin (S := fun w' => (w'.cell? ⟨b, 3, none⟩ = some (.pointer (some ⟨b0, 0, none⟩)) ∧ w'.cell? ⟨b, 4, none⟩ = some (.slice aoL rest.length capL))) 13 (by kernel_rfl) hS0 (fun hHeld => ?_)
  clear hS0
  refine headTake (i := 0) (v := ?_) rfl (by kernel_rfl) (by kernel_rfl) (by kernel_rfl) (by kernel_rfl) (fun _ _ _ h => h) (Or.inl ⟨by rfl, ?_⟩) hHeld ?_
  rotate_left 1
  · intro w hSw
    go_split_ands
    go_simp
    try with_reducible rfl
  simp only [List.getElem_toArray, List.getElem_cons_zero, List.getElem_cons_succ, Act.put, List.setIfInBounds_toArray, List.set_cons_zero, List.set_cons_succ]
  refine headTake (i := 1) (v := ?_) rfl (by kernel_rfl) (by kernel_rfl) (by kernel_rfl) (by kernel_rfl) (fun _ _ _ h => h) (Or.inl ⟨by rfl, ?_⟩) hHeld ?_
  rotate_left 1
  · intro w hSw
    go_split_ands
    go_simp
    try with_reducible rfl
  simp only [List.getElem_toArray, List.getElem_cons_zero, List.getElem_cons_succ, Act.put, List.setIfInBounds_toArray, List.set_cons_zero, List.set_cons_succ]
  refine headTake (i := 2) (v := ?_) rfl (by kernel_rfl) (by kernel_rfl) (by kernel_rfl) (by kernel_rfl) (fun _ _ _ h => h) (Or.inl ⟨by rfl, ?_⟩) hHeld ?_
  rotate_left 1
  · intro w hSw
    go_split_ands
    go_simp
    try with_reducible rfl
  simp only [List.getElem_toArray, List.getElem_cons_zero, List.getElem_cons_succ, Act.put, List.setIfInBounds_toArray, List.set_cons_zero, List.set_cons_succ]
  refine headTake (i := 3) (v := ?_) rfl (by kernel_rfl) (by kernel_rfl) (by kernel_rfl) (by kernel_rfl) (fun _ _ _ h => h) (Or.inl ⟨by rfl, ?_⟩) hHeld ?_
  rotate_left 1
  · intro w hSw
    go_split_ands
    go_simp
    try with_reducible rfl
  simp only [List.getElem_toArray, List.getElem_cons_zero, List.getElem_cons_succ, Act.put, List.setIfInBounds_toArray, List.set_cons_zero, List.set_cons_succ]
  refine headTake (i := 6) (v := ?_) rfl (by kernel_rfl) (by kernel_rfl) (by kernel_rfl) (by kernel_rfl) (fun _ _ _ h => h) (Or.inl ⟨by rfl, ?_⟩) hHeld ?_
  rotate_left 1
  · intro w hSw
    go_split_ands
    go_simp
    try with_reducible rfl
  simp only [List.getElem_toArray, List.getElem_cons_zero, List.getElem_cons_succ, Act.put, List.setIfInBounds_toArray, List.set_cons_zero, List.set_cons_succ]
  refine headTake (i := 7) (v := ?_) rfl (by kernel_rfl) (by kernel_rfl) (by kernel_rfl) (by kernel_rfl) (fun _ _ _ h => h) (Or.inl ⟨by rfl, ?_⟩) hHeld ?_
  rotate_left 1
  · intro w hSw
    go_split_ands
    go_simp
    try with_reducible rfl
  simp only [List.getElem_toArray, List.getElem_cons_zero, List.getElem_cons_succ, Act.put, List.setIfInBounds_toArray, List.set_cons_zero, List.set_cons_succ]
  refine headTake (i := 8) (v := ?_) rfl (by kernel_rfl) (by kernel_rfl) (by kernel_rfl) (by kernel_rfl) (fun _ _ _ h => h) (Or.inl ⟨by rfl, ?_⟩) hHeld ?_
  rotate_left 1
  · intro w hSw
    go_split_ands
    go_simp
    try with_reducible rfl
  simp only [List.getElem_toArray, List.getElem_cons_zero, List.getElem_cons_succ, Act.put, List.setIfInBounds_toArray, List.set_cons_zero, List.set_cons_succ]
  refine headTake (i := 9) (v := ?_) rfl (by kernel_rfl) (by kernel_rfl) (by kernel_rfl) (by kernel_rfl) (fun _ _ _ h => h) (Or.inl ⟨by rfl, ?_⟩) hHeld ?_
  rotate_left 1
  · intro w hSw
    go_split_ands
    go_simp
    try with_reducible rfl
  simp only [List.getElem_toArray, List.getElem_cons_zero, List.getElem_cons_succ, Act.put, List.setIfInBounds_toArray, List.set_cons_zero, List.set_cons_succ]
  refine headStep (i := 4) rfl (by kernel_rfl) (fun K hK => ?_)
  go_simp
  go_at_call 54
  refine (orNoneK_33 d hN e A x0 b0 _ HG0.out (HR0.out.below (Below.drew ((Below.refl _ _).alloc (Nat.le_refl _) _))) HX33.out).mono ?_
  rintro e c0w ⟨E0, m0, rfl, hS0, hl0, hb0⟩
  have HZ0 : Below (w.alloc zN).heap.size (w.alloc zN) c0w := (Below.drew (Below.refl _ _)).trans (hb0.mono (by simp))
  have HY0 : Below w.heap.size w c0w := ((Below.refl w.heap.size w).alloc (Nat.le_refl _) zN).trans (HZ0.mono (by simp))
  have hz00 : w.heap.size < c0w.heap.size := (by have := Below.size HZ0; (try simp at this); omega)
  obtain ⟨kb0, -⟩ := bblk HY0 (b := b) hblt
  obtain ⟨ka0, fa0⟩ := bblk HZ0 (b := w.heap.size) (by simp)
  unfold zN at ka0 fa0
  have HS0 := Lib.hid hS0
  have Hl0 : Hid (LiesIn (From (w.alloc zN).heap.size) E0 c0w m0) := Lib.hid (by have h := hl0; simpa using h)
  clear hS0 hl0
  have HKB0 := Lib.hid kb0
  refine hK.out _ _ ⟨fun _ => HSK.out _ HKB0.out, fun hS => ?_⟩
  have hHeld := hS (by decide)
  clear hS hK K hb0
  refine headStep2 (i := 5) (j := 10) rfl rfl (by kernel_rfl) (fun K hK => ?_) (fun K hK => ?_)
  · go_simp
    have HKBx := Lib.hid (show ∀ o, World.cell? (c0w.alloc (.cells (Nd.cells5 m0).toArray 25)) ⟨b, o, none⟩ = w.cell? ⟨b, o, none⟩ from fun o => (((Below.refl c0w.heap.size c0w).alloc (Nat.le_refl _) (.cells (Nd.cells5 m0).toArray 25)).cell (p := ⟨b, o, none⟩) (show b < _ by omega)).trans (HKB0.out o))
    refine hK.out _ _ ⟨fun _ => HSK.out _ HKBx.out, fun hS => ?_⟩
    have hHeld := hS (by decide)
    clear hS hK K
    refine headStep (i := 10) rfl (by kernel_rfl) (fun K hK => ?_)
    go_simp
    go_at_call 120
    refine (listIdentifier d hN e A rest aoL capL _ HSM.out (HHL.out.below (HY0.alloc HY0.size (.cells (Nd.cells5 m0).toArray 25))) HKS.out).mono ?_
    rintro e c1w ⟨D1, ao3, cap3, ms, rfl, hlm, hss, hli, hb1⟩
    obtain ⟨bq, oq, rfl⟩ : ∃ bq oq, ao3 = some ⟨bq, oq, none⟩ := list_some hli (by omega)
    have HLM := Lib.hid hlm
    have HSS := Lib.hid hss
    have HLI : Hid (ListIn (From (c0w.heap.size + 1)) D1 c1w (some ⟨bq, oq, none⟩) ms) := Lib.hid (by have h := hli; simpa using h)
    clear hlm hss hli
    have HB1 : Below (c0w.alloc (.cells (Nd.cells5 m0).toArray 25)).heap.size (c0w.alloc (.cells (Nd.cells5 m0).toArray 25)) c1w := hb1
    have HZ1 : Below c0w.heap.size c0w c1w := ((Below.refl c0w.heap.size c0w).alloc (Nat.le_refl _) (.cells (Nd.cells5 m0).toArray 25)).trans (HB1.mono (by simp))
    have hz11 : c0w.heap.size ≤ c1w.heap.size := HZ1.size
    have hz13 : w.heap.size < c1w.heap.size := by omega
    have hz14 : ¬ w.heap.size = c1w.heap.size := by omega
    have HBK : Hid (c1w.heap[c0w.heap.size]? = some (.cells (Nd.cells5 m0).toArray 25 (0, 0))) := Lib.hid (by rw [HB1.block c0w.heap.size (by simp)]; exact heap_alloc_new c0w _)
    have hz12 : c0w.heap.size < c1w.heap.size := by have := HB1.size; simp at this; omega
    obtain ⟨kb1, -⟩ := bblk HZ1 (b := b) (by omega)
    obtain ⟨ka1, fa1⟩ := bblk HZ1 (b := w.heap.size) (by omega)
    have HKB1 := Lib.hid (show ∀ o, World.cell? c1w ⟨b, o, none⟩ = w.cell? ⟨b, o, none⟩ from fun o => (kb1 o).trans (HKB0.out o))
    refine hK.out _ _ ⟨fun _ => HSK.out _ HKB1.out, fun hS => ?_⟩
    have hHeld := hS (by decide)
    clear hS hK K hb1
    refine headStep (i := 11) rfl (by kernel_rfl) (fun K hK => ?_)
    refine step_append_lies _ rfl _ _ 23 rfl (w.heap.size + 1) 25 i0 _ 5 72 undNodes hi hz0 hz1 hz2 rfl (by decide) (.slice (some ⟨c0w.heap.size, 0, none⟩) 1 1) 1 (Nd.cells5 m0) rfl (one_row (B := w.heap.size + 1) HBK.out (by omega)) ⟨bq, oq, none⟩ rest.length cap3 (ms.flatMap Nd.cells5) rfl (by rw [cells5_len, HLM.out]) (list_news HLI.out) (cells5_one ms) (by omega) (by have := HSM.out; unfold maxLen; omega) (by have := HSM.out; omega) (by first | omega | (simp; omega)) _ rfl ?_
    intro g cap2 w2 hown' hgrow hat hglt
    have HKB2 := Lib.hid (show ∀ o, World.cell? w2 ⟨b, o, none⟩ = w.cell? ⟨b, o, none⟩ from fun o => (hgrow.cell_far ⟨b, o, none⟩ (by first | (show b < _; omega) | (simp; omega)) (by simp [Value.ownBlock]; omega)).trans (HKB1.out o))
    have kg := fun o => hgrow.cell_far ⟨w.heap.size, o, none⟩ (by first | (show w.heap.size < _; omega) | (simp; omega)) (by simp [Value.ownBlock]; omega)
    have fg := fun o => hgrow.frozen_far ⟨w.heap.size, o, none⟩ (by first | (show w.heap.size < _; omega) | (simp; omega)) (by simp [Value.ownBlock]; omega)
    have HOWN := Lib.hid hown'
    have HGR := Lib.hid hgrow
    clear hown' hgrow hat hglt
    refine hK.out _ _ ⟨fun _ => HSK.out _ HKB2.out, fun hS => ?_⟩
    have hHeld := hS (by decide)
    clear hS hK K
    refine headStep (i := 12) rfl (by kernel_rfl) (fun K hK => ?_)
    go_simp
    refine hK.out _ _ ⟨fun _ => HSK.out _ HKB2.out, fun hS => ?_⟩
    clear hS hK K
    refine headStep (i := 13) rfl (by kernel_rfl) (fun K hK => ?_)
    go_simp
    refine hK.out _ _ ⟨fun h => absurd h (by decide), fun _ => ?_⟩
    clear hK K
    refine headDone (by kernel_rfl) ?_ _
    go_wp2_with fail
    exact bodyPost_ret (v := .agg #[.int .i64 53, .string ⟨#[]⟩, .string ⟨#[]⟩, .int .u64 0, .slice (some ⟨g, 0, none⟩) (1 + rest.length) cap2]) (by simp [results, Tryz.f70, go_sem, kg, ka1, ka0, hz13, hz14, hz00]) rfl (NodePost.stored _ _ _ _ _ (call_row1 (w0 := w.alloc zN) HWF.out HLM.out HZ0 HZ1 HS0.out Hl0.out HSS.out HLI.out (by have h := HOWN.out; simpa using h) (by omega) HGR.out))
  · go_simp
    go_at_call 120
    refine (listIdentifier d hN e A rest aoL capL _ HSM.out (HHL.out.below HY0) HKS.out).mono ?_
    rintro e c1w ⟨D1, ao3, cap3, ms, rfl, hlm, hss, hli, hb1⟩
    obtain ⟨bq, oq, rfl⟩ : ∃ bq oq, ao3 = some ⟨bq, oq, none⟩ := list_some hli (by omega)
    have HLM := Lib.hid hlm
    have HSS := Lib.hid hss
    have HLI : Hid (ListIn (From (c0w.heap.size)) D1 c1w (some ⟨bq, oq, none⟩) ms) := Lib.hid (by have h := hli; simpa using h)
    clear hlm hss hli
    have HB1 : Below c0w.heap.size c0w c1w := hb1
    have HZ1 : Below c0w.heap.size c0w c1w := HB1
    have hz11 : c0w.heap.size ≤ c1w.heap.size := HZ1.size
    have hz13 : w.heap.size < c1w.heap.size := by omega
    have hz14 : ¬ w.heap.size = c1w.heap.size := by omega
    obtain ⟨kb1, -⟩ := bblk HZ1 (b := b) (by omega)
    obtain ⟨ka1, fa1⟩ := bblk HZ1 (b := w.heap.size) (by omega)
    have HKB1 := Lib.hid (show ∀ o, World.cell? c1w ⟨b, o, none⟩ = w.cell? ⟨b, o, none⟩ from fun o => (kb1 o).trans (HKB0.out o))
    refine hK.out _ _ ⟨fun _ => HSK.out _ HKB1.out, fun hS => ?_⟩
    have hHeld := hS (by decide)
    clear hS hK K hb1
    refine headStep (i := 5) rfl (by kernel_rfl) (fun K hK => ?_)
    go_simp
    have HKBx := Lib.hid (show ∀ o, World.cell? (c1w.alloc (.cells (Nd.cells5 m0).toArray 25)) ⟨b, o, none⟩ = w.cell? ⟨b, o, none⟩ from fun o => (((Below.refl c1w.heap.size c1w).alloc (Nat.le_refl _) (.cells (Nd.cells5 m0).toArray 25)).cell (p := ⟨b, o, none⟩) (show b < _ by omega)).trans (HKB1.out o))
    refine hK.out _ _ ⟨fun _ => HSK.out _ HKBx.out, fun hS => ?_⟩
    have hHeld := hS (by decide)
    clear hS hK K
    refine headStep (i := 11) rfl (by kernel_rfl) (fun K hK => ?_)
    refine step_append_lies _ rfl _ _ 23 rfl (w.heap.size + 1) 25 i0 _ 5 72 undNodes hi hz0 hz1 hz2 rfl (by decide) (.slice (some ⟨c1w.heap.size, 0, none⟩) 1 1) 1 (Nd.cells5 m0) rfl (one_row (B := w.heap.size + 1) (m := m0) (heap_alloc_new c1w (.cells (Nd.cells5 m0).toArray 25)) (by omega)) ⟨bq, oq, none⟩ rest.length cap3 (ms.flatMap Nd.cells5) rfl (by rw [cells5_len, HLM.out]) (list_news (HLI.out.carry (Carries.of_below ((Below.refl c1w.heap.size c1w).alloc (Nat.le_refl _) (.cells (Nd.cells5 m0).toArray 25))))) (cells5_one ms) (by omega) (by have := HSM.out; unfold maxLen; omega) (by have := HSM.out; omega) (by first | omega | (simp; omega)) _ rfl ?_
    intro g cap2 w2 hown' hgrow hat hglt
    have HKB2 := Lib.hid (show ∀ o, World.cell? w2 ⟨b, o, none⟩ = w.cell? ⟨b, o, none⟩ from fun o => (hgrow.cell_far ⟨b, o, none⟩ (by first | (show b < _; omega) | (simp; omega)) (by simp [Value.ownBlock]; omega)).trans (HKBx.out o))
    have kg := fun o => hgrow.cell_far ⟨w.heap.size, o, none⟩ (by first | (show w.heap.size < _; omega) | (simp; omega)) (by simp [Value.ownBlock]; omega)
    have fg := fun o => hgrow.frozen_far ⟨w.heap.size, o, none⟩ (by first | (show w.heap.size < _; omega) | (simp; omega)) (by simp [Value.ownBlock]; omega)
    have HOWN := Lib.hid hown'
    have HGR := Lib.hid hgrow
    clear hown' hgrow hat hglt
    refine hK.out _ _ ⟨fun _ => HSK.out _ HKB2.out, fun hS => ?_⟩
    have hHeld := hS (by decide)
    clear hS hK K
    refine headStep (i := 12) rfl (by kernel_rfl) (fun K hK => ?_)
    go_simp
    refine hK.out _ _ ⟨fun _ => HSK.out _ HKB2.out, fun hS => ?_⟩
    clear hS hK K
    refine headStep (i := 13) rfl (by kernel_rfl) (fun K hK => ?_)
    go_simp
    refine hK.out _ _ ⟨fun h => absurd h (by decide), fun _ => ?_⟩
    clear hK K
    refine headDone (by kernel_rfl) ?_ _
    go_wp2_with fail
    exact bodyPost_ret (v := .agg #[.int .i64 53, .string ⟨#[]⟩, .string ⟨#[]⟩, .int .u64 0, .slice (some ⟨g, 0, none⟩) (1 + rest.length) cap2]) (by simp [results, Tryz.f70, go_sem, kg, ka1, ka0, hz13, hz14, hz00]) rfl (NodePost.stored _ _ _ _ _ (call_row (w0 := w.alloc zN) HWF.out HLM.out HZ0 HZ1 HS0.out Hl0.out HSS.out HLI.out (by have h := HOWN.out; simpa using h) (by omega) HGR.out))

set_option maxRecDepth 100000 in
set_option maxHeartbeats 2000000 in
theorem tn_53_one (d : Nat) (hN : NodeK 33 d) (e : Nat) (A : Nat → Prop) (n : Nd) (b b0 : Nat) (aoL : Option Addr) (capL : Nat) (w : World) (hG : PreD (e + 1) n) (hW : WfN n) (hk : n.kind = 53) (hb : w.heap[b]? = some (.cells #[.pointer none, .slice none 0 0, .slice none 0 0, .pointer (some ⟨b0, 0, none⟩), .slice aoL (n.kids.length - 1 : Nat) capL] 100 (0, 0))) (hR0 : ∀ x rest, n.kids = x :: rest → RepD A d w x b0) (hHL : ∀ x rest, n.kids = x :: rest → PtrList (RepD A d) w aoL rest) (hr : n.kids.length = 1) :
    Calls Tryz.prog 70 #[.iface 97 (.pointer (some ⟨b, 0, none⟩))] w (NodePost n w) := by
  obtain ⟨k, t, m, u, ao, cap, kids⟩ := n
  obtain rfl : k = 53 := hk
  have hn0 : (Nd.mk 53 t m u ao cap kids).kind ≠ 0 := by show (53 : Int) ≠ 0; decide
  have hn1 : (Nd.mk 53 t m u ao cap kids).kind ≠ 1 := by show (53 : Int) ≠ 1; decide
  have hPl := (hG.fit hn0).2.2.1
  have HWF := Lib.hid hW.wf
  obtain rfl : t = ⟨#[]⟩ := hPl.1 (show hasText 53 = false by decide)
  obtain rfl : u = 0 := hPl.2.1 (show hasNum 53 = false by decide)
  obtain rfl : m = ⟨#[]⟩ := hPl.2.2.1 (show (53 : Int) ≠ 2 by decide) (show (53 : Int) ≠ 3 by decide)
  have hln : 1 ≤ kids.length := by
    have h1 := ((hG.fit hn0).2.2.2.1 hn1).1
    rw [show (fixedL (Nd.kind (.mk 53 ⟨#[]⟩ ⟨#[]⟩ 0 ao cap kids))).length = 1 from by show (fixedL 53).length = 1; decide] at h1
    exact h1
  obtain ⟨x0, rest, rfl⟩ : ∃ x0 rest, kids = x0 :: rest := by
    cases kids with
    | nil => simp at hln
    | cons x0 rest => exact ⟨x0, rest, rfl⟩
  obtain ⟨hP0, hC0⟩ := hG.kid (i := 0) (x := x0) hn0 rfl
  obtain rfl : rest = [] := by have : (x0 :: rest).length = 1 := hr; simp at this; exact this
  have hx33 : x0.kind = 33 := by have h := class_few [33] rfl (hC0 hn1); simpa using h
  have HX33 := Lib.hid hx33
  have HG0 := Lib.hid (show GoodW e x0 from ⟨hP0.good (by rw [hx33]; decide), hW.kid (i := 0) rfl⟩)
  have HR0 := Lib.hid (hR0 x0 [] rfl)
  have c3 : w.cell? ⟨b, 3, none⟩ = some (.pointer (some ⟨b0, 0, none⟩)) := by rw [Lib.cell_of_heap hb]; rfl
  have c5 : w.cell? ⟨b, 4, none⟩ = some (.slice aoL 0 capL) := by rw [Lib.cell_of_heap hb]; rfl
  have hblt : b < w.heap.size := World.block_lt_of_cell? _ _ c5
  have hbne : ¬ b = w.heap.size := by omega
  have hbne2 : ¬ w.heap.size = b := by omega
  obtain ⟨i0, hi, hz0, hz1, hz2⟩ := info_parts infoNode
  clear hn0 hn1 hPl hln hG hW hb hR0 hHL hP0 hC0 hr hx33
  have q44 := no_44 97 (by decide)
  have q45 := no_45 97 (by decide)
  have q46 := no_46 97 (by decide)
  have q47 := no_47 97 (by decide)
  have q48 := no_48 97 (by decide)
  have q49 := no_49 97 (by decide)
  have q50 := no_50 97 (by decide)
  have q51 := no_51 97 (by decide)
  have q52 := no_52 97 (by decide)
  have q53 := yes_53
  go_enter Tryz.func70, Tryz.ntmps70
  go_wp2_with fail
  have hS0 : ((w.alloc zN).cell? ⟨b, 3, none⟩ = some (.pointer (some ⟨b0, 0, none⟩)) ∧ (w.alloc zN).cell? ⟨b, 4, none⟩ = some (.slice aoL 0 capL)) := ⟨by rw [((Below.refl w.heap.size w).alloc (Nat.le_refl _) zN).cell (p := ⟨b, 3, none⟩) hblt]; exact c3, by rw [((Below.refl w.heap.size w).alloc (Nat.le_refl _) zN).cell (p := ⟨b, 4, none⟩) hblt]; exact c5⟩
  have HSK := Lib.hid (show ∀ W' : World, (∀ o, W'.cell? ⟨b, o, none⟩ = w.cell? ⟨b, o, none⟩) → (W'.cell? ⟨b, 3, none⟩ = some (.pointer (some ⟨b0, 0, none⟩)) ∧ W'.cell? ⟨b, 4, none⟩ = some (.slice aoL 0 capL)) from fun W' h => ⟨(h _).trans c3, (h _).trans c5⟩)
  refine headBegin (S := fun w' => (w'.cell? ⟨b, 3, none⟩ = some (.pointer (some ⟨b0, 0, none⟩)) ∧ w'.cell? ⟨b, 4, none⟩ = some (.slice aoL 0 capL))) 13 (by kernel_rfl) hS0 (fun hHeld => ?_)
  clear hS0
  refine headTake (i := 0) (v := ?_) rfl (by kernel_rfl) (by kernel_rfl) (by kernel_rfl) (by kernel_rfl) (fun _ _ _ h => h) (Or.inl ⟨by rfl, ?_⟩) hHeld ?_
  rotate_left 1
  · intro w hSw
    go_split_ands
    go_simp
    try with_reducible rfl
  simp only [List.getElem_toArray, List.getElem_cons_zero, List.getElem_cons_succ, Act.put, List.setIfInBounds_toArray, List.set_cons_zero, List.set_cons_succ]
  refine headTake (i := 1) (v := ?_) rfl (by kernel_rfl) (by kernel_rfl) (by kernel_rfl) (by kernel_rfl) (fun _ _ _ h => h) (Or.inl ⟨by rfl, ?_⟩) hHeld ?_
  rotate_left 1
  · intro w hSw
    go_split_ands
    go_simp
    try with_reducible rfl
  simp only [List.getElem_toArray, List.getElem_cons_zero, List.getElem_cons_succ, Act.put, List.setIfInBounds_toArray, List.set_cons_zero, List.set_cons_succ]
  refine headTake (i := 2) (v := ?_) rfl (by kernel_rfl) (by kernel_rfl) (by kernel_rfl) (by kernel_rfl) (fun _ _ _ h => h) (Or.inl ⟨by rfl, ?_⟩) hHeld ?_
  rotate_left 1
  · intro w hSw
    go_split_ands
    go_simp
    try with_reducible rfl
  simp only [List.getElem_toArray, List.getElem_cons_zero, List.getElem_cons_succ, Act.put, List.setIfInBounds_toArray, List.set_cons_zero, List.set_cons_succ]
  refine headTake (i := 3) (v := ?_) rfl (by kernel_rfl) (by kernel_rfl) (by kernel_rfl) (by kernel_rfl) (fun _ _ _ h => h) (Or.inl ⟨by rfl, ?_⟩) hHeld ?_
  rotate_left 1
  · intro w hSw
    go_split_ands
    go_simp
    try with_reducible rfl
  simp only [List.getElem_toArray, List.getElem_cons_zero, List.getElem_cons_succ, Act.put, List.setIfInBounds_toArray, List.set_cons_zero, List.set_cons_succ]
  refine headTake (i := 6) (v := ?_) rfl (by kernel_rfl) (by kernel_rfl) (by kernel_rfl) (by kernel_rfl) (fun _ _ _ h => h) (Or.inl ⟨by rfl, ?_⟩) hHeld ?_
  rotate_left 1
  · intro w hSw
    go_split_ands
    go_simp
    try with_reducible rfl
  simp only [List.getElem_toArray, List.getElem_cons_zero, List.getElem_cons_succ, Act.put, List.setIfInBounds_toArray, List.set_cons_zero, List.set_cons_succ]
  refine headTake (i := 7) (v := ?_) rfl (by kernel_rfl) (by kernel_rfl) (by kernel_rfl) (by kernel_rfl) (fun _ _ _ h => h) (Or.inl ⟨by rfl, ?_⟩) hHeld ?_
  rotate_left 1
  · intro w hSw
    go_split_ands
    go_simp
    try with_reducible rfl
  simp only [List.getElem_toArray, List.getElem_cons_zero, List.getElem_cons_succ, Act.put, List.setIfInBounds_toArray, List.set_cons_zero, List.set_cons_succ]
  refine headTake (i := 8) (v := ?_) rfl (by kernel_rfl) (by kernel_rfl) (by kernel_rfl) (by kernel_rfl) (fun _ _ _ h => h) (Or.inl ⟨by rfl, ?_⟩) hHeld ?_
  rotate_left 1
  · intro w hSw
    go_split_ands
    go_simp
    try with_reducible rfl
  simp only [List.getElem_toArray, List.getElem_cons_zero, List.getElem_cons_succ, Act.put, List.setIfInBounds_toArray, List.set_cons_zero, List.set_cons_succ]
  refine headTake (i := 9) (v := ?_) rfl (by kernel_rfl) (by kernel_rfl) (by kernel_rfl) (by kernel_rfl) (fun _ _ _ h => h) (Or.inl ⟨by rfl, ?_⟩) hHeld ?_
  rotate_left 1
  · intro w hSw
    go_split_ands
    go_simp
    try with_reducible rfl
  simp only [List.getElem_toArray, List.getElem_cons_zero, List.getElem_cons_succ, Act.put, List.setIfInBounds_toArray, List.set_cons_zero, List.set_cons_succ]
  refine headStep (i := 4) rfl (by kernel_rfl) (fun K hK => ?_)
  go_simp
  go_at_call 54
  refine (orNoneK_33 d hN e A x0 b0 _ HG0.out (HR0.out.below (Below.drew ((Below.refl _ _).alloc (Nat.le_refl _) _))) HX33.out).mono ?_
  rintro e c0w ⟨E0, m0, rfl, hS0, hl0, hb0⟩
  have HZ0 : Below (w.alloc zN).heap.size (w.alloc zN) c0w := (Below.drew (Below.refl _ _)).trans (hb0.mono (by simp))
  have HY0 : Below w.heap.size w c0w := ((Below.refl w.heap.size w).alloc (Nat.le_refl _) zN).trans (HZ0.mono (by simp))
  have hz00 : w.heap.size < c0w.heap.size := (by have := Below.size HZ0; (try simp at this); omega)
  obtain ⟨kb0, -⟩ := bblk HY0 (b := b) hblt
  obtain ⟨ka0, fa0⟩ := bblk HZ0 (b := w.heap.size) (by simp)
  unfold zN at ka0 fa0
  have HS0 := Lib.hid hS0
  have Hl0 : Hid (LiesIn (From (w.alloc zN).heap.size) E0 c0w m0) := Lib.hid (by have h := hl0; simpa using h)
  clear hS0 hl0
  have HKB0 := Lib.hid kb0
  refine hK.out _ _ ⟨fun _ => HSK.out _ HKB0.out, fun hS => ?_⟩
  have hHeld := hS (by decide)
  clear hS hK K hb0
  refine headStep2 (i := 5) (j := 10) rfl rfl (by kernel_rfl) (fun K hK => ?_) (fun K hK => ?_)
  · go_simp
    have HKBx := Lib.hid (show ∀ o, World.cell? (c0w.alloc (.cells (Nd.cells5 m0).toArray 25)) ⟨b, o, none⟩ = w.cell? ⟨b, o, none⟩ from fun o => (((Below.refl c0w.heap.size c0w).alloc (Nat.le_refl _) (.cells (Nd.cells5 m0).toArray 25)).cell (p := ⟨b, o, none⟩) (show b < _ by omega)).trans (HKB0.out o))
    refine hK.out _ _ ⟨fun _ => HSK.out _ HKBx.out, fun hS => ?_⟩
    have hHeld := hS (by decide)
    clear hS hK K
    refine headStep (i := 10) rfl (by kernel_rfl) (fun K hK => ?_)
    go_simp
    go_at_call 120
    refine (listIdentifier_nil aoL capL _).mono ?_
    rintro e c1w ⟨rfl, hb1⟩
    have HB1 : Below (c0w.alloc (.cells (Nd.cells5 m0).toArray 25)).heap.size (c0w.alloc (.cells (Nd.cells5 m0).toArray 25)) c1w := hb1
    have HZ1 : Below c0w.heap.size c0w c1w := ((Below.refl c0w.heap.size c0w).alloc (Nat.le_refl _) (.cells (Nd.cells5 m0).toArray 25)).trans (HB1.mono (by simp))
    have hz11 : c0w.heap.size ≤ c1w.heap.size := HZ1.size
    have hz13 : w.heap.size < c1w.heap.size := by omega
    have hz14 : ¬ w.heap.size = c1w.heap.size := by omega
    have HBK : Hid (c1w.heap[c0w.heap.size]? = some (.cells (Nd.cells5 m0).toArray 25 (0, 0))) := Lib.hid (by rw [HB1.block c0w.heap.size (by simp)]; exact heap_alloc_new c0w _)
    have hz12 : c0w.heap.size < c1w.heap.size := by have := HB1.size; simp at this; omega
    obtain ⟨kb1, -⟩ := bblk HZ1 (b := b) (by omega)
    obtain ⟨ka1, fa1⟩ := bblk HZ1 (b := w.heap.size) (by omega)
    have HKB1 := Lib.hid (show ∀ o, World.cell? c1w ⟨b, o, none⟩ = w.cell? ⟨b, o, none⟩ from fun o => (kb1 o).trans (HKB0.out o))
    refine hK.out _ _ ⟨fun _ => HSK.out _ HKB1.out, fun hS => ?_⟩
    have hHeld := hS (by decide)
    clear hS hK K hb1
    refine headStep (i := 11) rfl (by kernel_rfl) (fun K hK => ?_)
    refine step_append_nil rfl _ _ 23 rfl rfl rfl (app_nil c0w.heap.size _) ?_
    refine hK.out _ _ ⟨fun _ => HSK.out _ HKB1.out, fun hS => ?_⟩
    have hHeld := hS (by decide)
    clear hS hK K
    refine headStep (i := 12) rfl (by kernel_rfl) (fun K hK => ?_)
    go_simp
    refine hK.out _ _ ⟨fun _ => HSK.out _ HKB1.out, fun hS => ?_⟩
    clear hS hK K
    refine headStep (i := 13) rfl (by kernel_rfl) (fun K hK => ?_)
    go_simp
    refine hK.out _ _ ⟨fun h => absurd h (by decide), fun _ => ?_⟩
    clear hK K
    refine headDone (by kernel_rfl) ?_ _
    have HZ2 : Below (w.alloc zN).heap.size (w.alloc zN) c1w := HZ0.trans (HZ1.mono HZ0.size)
    go_wp2_with fail
    exact bodyPost_ret (v := .agg #[.int .i64 53, .string ⟨#[]⟩, .string ⟨#[]⟩, .int .u64 0, .slice (some ⟨c0w.heap.size, 0, none⟩) 1 1]) (by simp [results, Tryz.f70, go_sem, ka1, ka0, hz13, hz14, hz00]) rfl (NodePost.stored _ _ _ _ _ (back_row (w0 := w.alloc zN) (ms := [m0]) rfl HWF.out HZ2 (by have h := one_row (B := (w.alloc zN).heap.size) HBK.out (by simp; omega); simpa using h) rfl (fun i x y hx hy => by match i with | 0 => (simp at hx hy; subst hx hy; exact ⟨_, HS0.out, (Hl0.out).below HZ1⟩) | _ + 1 => simp at hx)))
  · go_simp
    go_at_call 120
    refine (listIdentifier_nil aoL capL _).mono ?_
    rintro e c1w ⟨rfl, hb1⟩
    have HB1 : Below c0w.heap.size c0w c1w := hb1
    have HZ1 : Below c0w.heap.size c0w c1w := HB1
    have hz11 : c0w.heap.size ≤ c1w.heap.size := HZ1.size
    have hz13 : w.heap.size < c1w.heap.size := by omega
    have hz14 : ¬ w.heap.size = c1w.heap.size := by omega
    obtain ⟨kb1, -⟩ := bblk HZ1 (b := b) (by omega)
    obtain ⟨ka1, fa1⟩ := bblk HZ1 (b := w.heap.size) (by omega)
    have HKB1 := Lib.hid (show ∀ o, World.cell? c1w ⟨b, o, none⟩ = w.cell? ⟨b, o, none⟩ from fun o => (kb1 o).trans (HKB0.out o))
    refine hK.out _ _ ⟨fun _ => HSK.out _ HKB1.out, fun hS => ?_⟩
    have hHeld := hS (by decide)
    clear hS hK K hb1
    refine headStep (i := 5) rfl (by kernel_rfl) (fun K hK => ?_)
    go_simp
    have HKBx := Lib.hid (show ∀ o, World.cell? (c1w.alloc (.cells (Nd.cells5 m0).toArray 25)) ⟨b, o, none⟩ = w.cell? ⟨b, o, none⟩ from fun o => (((Below.refl c1w.heap.size c1w).alloc (Nat.le_refl _) (.cells (Nd.cells5 m0).toArray 25)).cell (p := ⟨b, o, none⟩) (show b < _ by omega)).trans (HKB1.out o))
    refine hK.out _ _ ⟨fun _ => HSK.out _ HKBx.out, fun hS => ?_⟩
    have hHeld := hS (by decide)
    clear hS hK K
    refine headStep (i := 11) rfl (by kernel_rfl) (fun K hK => ?_)
    refine step_append_nil rfl _ _ 23 rfl rfl rfl (app_nil c1w.heap.size _) ?_
    refine hK.out _ _ ⟨fun _ => HSK.out _ HKBx.out, fun hS => ?_⟩
    have hHeld := hS (by decide)
    clear hS hK K
    refine headStep (i := 12) rfl (by kernel_rfl) (fun K hK => ?_)
    go_simp
    refine hK.out _ _ ⟨fun _ => HSK.out _ HKBx.out, fun hS => ?_⟩
    clear hS hK K
    refine headStep (i := 13) rfl (by kernel_rfl) (fun K hK => ?_)
    go_simp
    refine hK.out _ _ ⟨fun h => absurd h (by decide), fun _ => ?_⟩
    clear hK K
    refine headDone (by kernel_rfl) ?_ _
    have HZ2 : Below (w.alloc zN).heap.size (w.alloc zN) c1w := HZ0.trans (HZ1.mono HZ0.size)
    go_wp2_with fail
    first | exact bodyPost_ret (v := .agg #[.int .i64 53, .string ⟨#[]⟩, .string ⟨#[]⟩, .int .u64 0, .slice (some ⟨c1w.heap.size, 0, none⟩) 1 1]) (by simp [results, Tryz.f70, go_sem, ka1, ka0, hz13, hz14, hz00]) rfl (NodePost.stored2 _ _ _ _ _ HZ2 (back_fin [m0] rfl HWF.out HZ2 rfl (fun i x y hx hy => by match i with | 0 => (simp at hx hy; subst hx hy; exact ⟨_, HS0.out, (Hl0.out).below HZ1⟩) | _ + 1 => simp at hx))) | exact bodyPost_ret (v := .agg #[.int .i64 53, .string ⟨#[]⟩, .string ⟨#[]⟩, .int .u64 0, .slice (some ⟨c1w.heap.size, 0, none⟩) 1 1]) (by simp [results, Tryz.f70, go_sem, ka1, ka0, hz13, hz14, hz00]) rfl (NodePost.stored _ _ _ _ _ (back_fin [m0] rfl HWF.out HZ2 rfl (fun i x y hx hy => by match i with | 0 => (simp at hx hy; subst hx hy; exact ⟨_, HS0.out, (Hl0.out).below HZ1⟩) | _ + 1 => simp at hx)))


end Go.Proofs.YtdljkanfebndaaaGreatDoor
