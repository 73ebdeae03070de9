/-
  node kind by kind, part K: it hands back the tree that lies there, given its own contract a level down. No conditions.
-/
import Derived.Test.YtongafghllkomaaGreatDoorNdF
import Derived.Test.YtongafghllkomaaGreatDoorMap
import Derived.Deep.RegionHeld3
import Derived.Deep.LoopGhost
import Derived.Deep.AppendLies
import Derived.Deep.RegionWith
namespace Go.Proofs.YtongafghllkomaaGreatDoor
open Go.RowKit
set_option linter.unusedVariables false
set_option linter.unusedSimpArgs false

/-- A plain node whose kids lie in a row that a call has made. -/
theorem back_row {w0 w2 : World} {k : Int} {t mo : ByteArray} {u : Int} {oa : Option Addr} {c L : Nat} {kids ms : List Nd} {g cap : Nat} (hlen : ms.length = kids.length) (hwf : (Nd.mk k t mo u oa c kids).wf) (hB : Below w0.heap.size w0 w2)
    (hown : w2.ownsRow w0.heap.size 25 5 (.slice (some ⟨g, 0, none⟩) L cap) L (ms.flatMap Nd.cells5)) (hL : L = ms.length)
    (hk : ∀ (i : Nat) (x y : Nd), kids[i]? = some x → ms[i]? = some y → ∃ D, SameD D x y ∧ LiesIn (From w0.heap.size) D w2 y) :
    NodePost (.mk k t mo u oa c kids) w0 (.returned (.agg #[.int .i64 k, .string t, .string mo, .int .u64 u, .slice (some ⟨g, 0, none⟩) L cap])) w2 := by
  subst hL
  obtain ⟨D, hD⟩ := Deep.fuel_lt (n := ms.length) (q := fun i D => ∀ (x y : Nd), kids[i]? = some x → ms[i]? = some y → SameD D x y ∧ LiesIn (From w0.heap.size) D w2 y)
    (fun i a b hab h x y hx hy => ⟨(h x y hx hy).1.up hab, (h x y hx hy).2.up hab⟩)
    (fun i hi => by
      obtain ⟨x, hx⟩ : ∃ x, kids[i]? = some x := ⟨kids[i]'(by omega), List.getElem?_eq_getElem _⟩
      obtain ⟨y, hy⟩ : ∃ y, ms[i]? = some y := ⟨ms[i]'hi, List.getElem?_eq_getElem _⟩
      obtain ⟨E, h1, h2⟩ := hk i x y hx hy
      refine ⟨E, fun x' y' hx' hy' => ?_⟩
      rw [hx] at hx'; cases hx'
      rw [hy] at hy'; cases hy'
      exact ⟨h1, h2⟩)
  obtain ⟨w1, w2', w3, w4, w5, w6, w7⟩ := hwf
  refine ⟨D + 1, .mk k t mo u (some ⟨g, 0, none⟩) cap ms, rfl, ⟨rfl, rfl, rfl, rfl, hlen.symm, fun i x y hx hy => (hD i (List.getElem?_eq_some_iff.1 hy).1 x y hx hy).1⟩, ⟨⟨w1, w2', by simp only [Nd.kids] at w3 ⊢; omega, w4, w5, w6, w7⟩, fun i y hy => ?_⟩, hB⟩
  have hy' : ms[i]? = some y := hy
  have hi := (List.getElem?_eq_some_iff.1 hy').1
  obtain ⟨x, hx⟩ : ∃ x, kids[i]? = some x := ⟨kids[i]'(by omega), List.getElem?_eq_getElem _⟩
  rcases hown.2 with ⟨h, _⟩ | ⟨g', cap', cur, hv, hg, hc, _, _, _, ht⟩
  · cases h
  · cases hv
    exact ⟨⟨g, 0, hg, rfl, row_cells (cap := 0) hc ht hy'⟩, (hD i hi x y hx hy').2⟩

theorem call_row {w0 c0 c1 w2 : World} {k : Int} {t mo : ByteArray} {u : Int} {oa ao : Option Addr} {c L : Nat} {x0 m0 : Nd} {rest ms : List Nd} {g cap E D : Nat} {T : TypeId} (hwf : (Nd.mk k t mo u oa c (x0 :: rest)).wf) (hlm : ms.length = rest.length) (h0 : Below w0.heap.size w0 c0) (h1 : Below c0.heap.size c0 c1)
    (hS0 : SameD E x0 m0) (hl0 : LiesIn (From w0.heap.size) E c0 m0) (hss : ∀ (i : Nat) (n m : Nd), rest[i]? = some n → ms[i]? = some m → SameD D n m) (hli : ListIn (From c0.heap.size) D c1 ao ms)
    (hown : w2.ownsRow w0.heap.size 25 5 (.slice (some ⟨g, 0, none⟩) L cap) L (m0.cells5 ++ ms.flatMap Nd.cells5)) (hL : L = rest.length + 1) (hg : (c1.alloc (.cells m0.cells5.toArray T)).grownBy w2 (some c1.heap.size)) :
    NodePost (.mk k t mo u oa c (x0 :: rest)) w0 (.returned (.agg #[.int .i64 k, .string t, .string mo, .int .u64 u, .slice (some ⟨g, 0, none⟩) L cap])) w2 := by
  have h01 : Below w0.heap.size w0 c1 := h0.trans (h1.mono h0.size)
  have hstay : ∀ b, b < c1.heap.size → w2.heap[b]? = c1.heap[b]? := by
    intro b hb
    rw [hg.block b (by simp; omega) (by simp; omega), heap_alloc_old _ _ hb]
  refine back_row (ms := m0 :: ms) (by simp [hlm]) hwf (((h01.alloc h01.size _).grown hg (by have := h01.size; simp; omega) (fun j hj => by cases hj; exact h01.size))) hown (by simp [hlm, hL]) (fun i x y hx hy => ?_)
  cases i with
  | zero =>
    simp at hx hy
    subst hx hy
    refine ⟨E, hS0, hl0.carry (fun b o hA ho => ⟨?_, hA⟩)⟩
    have hlt : b < c0.heap.size := (Array.getElem?_eq_some_iff.1 ho).1
    rw [hstay b (Nat.lt_of_lt_of_le hlt h1.size), h1.block b hlt]
    exact ho
  | succ i =>
    simp at hx hy
    refine ⟨D, hss i x y hx hy, (hli i y hy).2.carry (fun b o hA ho => ⟨?_, Nat.le_trans h0.size hA⟩)⟩
    have hlt : b < c1.heap.size := (Array.getElem?_eq_some_iff.1 ho).1
    rw [hstay b hlt]
    exact ho

theorem call_row1 {w0 c0 c1 w2 : World} {k : Int} {t mo : ByteArray} {u : Int} {oa ao : Option Addr} {c L : Nat} {x0 m0 : Nd} {rest ms : List Nd} {g cap E D : Nat} (hwf : (Nd.mk k t mo u oa c (x0 :: rest)).wf) (hlm : ms.length = rest.length) (h0 : Below w0.heap.size w0 c0) (h1 : Below c0.heap.size c0 c1)
    (hS0 : SameD E x0 m0) (hl0 : LiesIn (From w0.heap.size) E c0 m0) (hss : ∀ (i : Nat) (n m : Nd), rest[i]? = some n → ms[i]? = some m → SameD D n m) (hli : ListIn (From (c0.heap.size + 1)) D c1 ao ms)
    (hown : w2.ownsRow w0.heap.size 25 5 (.slice (some ⟨g, 0, none⟩) L cap) L (m0.cells5 ++ ms.flatMap Nd.cells5)) (hL : L = rest.length + 1) (hg : c1.grownBy w2 (some c0.heap.size)) :
    NodePost (.mk k t mo u oa c (x0 :: rest)) w0 (.returned (.agg #[.int .i64 k, .string t, .string mo, .int .u64 u, .slice (some ⟨g, 0, none⟩) L cap])) w2 := by
  have h01 : Below w0.heap.size w0 c1 := h0.trans (h1.mono h0.size)
  refine back_row (ms := m0 :: ms) (by simp [hlm]) hwf (h01.grown hg h01.size (fun j hj => by cases hj; exact h0.size)) hown (by simp [hlm, hL]) (fun i x y hx hy => ?_)
  cases i with
  | zero =>
    simp at hx hy
    subst hx hy
    refine ⟨E, hS0, hl0.carry (fun b o hA ho => ⟨?_, hA⟩)⟩
    have hlt : b < c0.heap.size := (Array.getElem?_eq_some_iff.1 ho).1
    rw [hg.block b (Nat.lt_of_lt_of_le hlt h1.size) (by simp; omega), h1.block b hlt]
    exact ho
  | succ i =>
    simp at hx hy
    refine ⟨D, hss i x y hx hy, (hli i y hy).2.carry (fun b o hA ho => ⟨?_, Nat.le_trans (Nat.le_trans h0.size (Nat.le_succ _)) hA⟩)⟩
    have hlt : b < c1.heap.size := (Array.getElem?_eq_some_iff.1 ho).1
    rw [hg.block b hlt (by unfold From at hA; simp; omega)]
    exact ho

theorem cells5_one : ∀ (ms : List Nd) (u : Value), u ∈ ms.flatMap Nd.cells5 → u.oneCell' = true := by
  intro ms u hu
  obtain ⟨m, -, h⟩ := List.mem_flatMap.1 hu
  simp [Nd.cells5] at h
  rcases h with rfl | rfl | rfl | rfl | rfl <;> rfl

theorem list_news {A : Nat → Prop} {D : Nat} {w : World} {b o : Nat} {ms : List Nd} (h : ListIn A D w (some ⟨b, o, none⟩) ms) : ∀ j u, (ms.flatMap Nd.cells5)[j]? = some u → w.cell? ((⟨b, o, none⟩ : Addr).add j) = some u := by
  intro j u hu
  have hj := (List.getElem?_eq_some_iff.1 hu).1
  rw [cells5_len] at hj
  obtain ⟨m, hm⟩ : ∃ m, ms[j / 5]? = some m := ⟨ms[j / 5]'(by omega), List.getElem?_eq_getElem _⟩
  obtain ⟨⟨b', o', -, ha, hc⟩, -⟩ := h (j / 5) m hm
  cases ha
  have e : j = j / 5 * 5 + j % 5 := by omega
  have hlt : j % 5 < 5 := Nat.mod_lt _ (by omega)
  have h5 := cells5_at ms (j / 5) (j % 5) m hm hlt
  rw [← e, hu] at h5
  have hadd : (⟨b, o, none⟩ : Addr).add j = ⟨b, o + j / 5 * 5 + j % 5, none⟩ := by
    unfold Addr.add
    split
    · rename_i h0; subst h0; simp
    · simp; omega
  rw [hadd]
  obtain ⟨h0, h1, h2, h3, h4⟩ := hc
  have : j % 5 = 0 ∨ j % 5 = 1 ∨ j % 5 = 2 ∨ j % 5 = 3 ∨ j % 5 = 4 := by omega
  rcases this with e5 | e5 | e5 | e5 | e5 <;> rw [e5] at h5 ⊢ <;> simp [Nd.cells5] at h5 <;> subst h5
  · exact h0
  · exact h1
  · exact h2
  · exact h3
  · exact h4

theorem headStep2 {P : Program} {ops : Array Oper} {Q : Exit → Act → World → Prop} {md : Region.Mode} {S : World → Prop} {n i j : Nat} {oi oj : Oper} {fuel : Nat} {listed : Array Bool} {a : Act} {w : World} (hoi : ops[i]? = some oi) (hoj : ops[j]? = some oj) (hr : Region.ready md ops listed = [i, j])
    (hi : ∀ K' : Act → World → Prop, Hid (∀ a w, ((i < n → S w) ∧ ((i < n → S w) → HeadH P md ops Q S n fuel (listed.setIfInBounds i true) a w)) → K' a w) → if Region.wanted oi (yielded ops a.tmps) = true then Oper.wp P oi a w K' Q else K' (a.put oi.dst undef) w)
    (hj : ∀ K' : Act → World → Prop, Hid (∀ a w, ((j < n → S w) ∧ ((j < n → S w) → HeadH P md ops Q S n fuel (listed.setIfInBounds j true) a w)) → K' a w) → if Region.wanted oj (yielded ops a.tmps) = true then Oper.wp P oj a w K' Q else K' (a.put oj.dst undef) w) :
    HeadH P md ops Q S n (fuel + 1) listed a w := by
  refine ⟨fun h0 => (by rw [hr] at h0; cases h0), fun k hk => ?_⟩
  rw [hr] at hk
  have hk2 : k = i ∨ k = j := by simpa using hk
  rcases hk2 with rfl | rfl
  · exact wpOp_step hoi (fun K' hK => hi K' (Lib.hid (fun a w h2 => hK a w ⟨h2.1, h2.2 h2.1⟩)))
  · exact wpOp_step hoj (fun K' hK => hj K' (Lib.hid (fun a w h2 => hK a w ⟨h2.1, h2.2 h2.1⟩)))

theorem app_nil (g : Nat) (w : World) : (Builtin.append_ #[23, 23] 23 #[.slice (some ⟨g, 0, none⟩) 1 1, .slice none 0 0]).run Tryz.prog w = .ok (.slice (some ⟨g, 0, none⟩) 1 1) w := by kernel_rfl
theorem step_append_nil {Pr : Program} {w : World} {ops : Array Oper} {o : Oper} {a : Act} {K : Act → World → Prop} {Q : Exit → Act → World → Prop} {E : Prop} {v : Value} (hgd : o.guard = none) (s x : Operand) (t : TypeId)
    (ho : o.op = .call { callee := .builtin .append, args := #[s, x], argTypes := #[t, t] }) (hs : a.eval s = v) (hx : a.eval x = .slice none 0 0) (hrun : (Builtin.append_ #[t, t] o.type #[v, .slice none 0 0]).run Pr w = .ok v w)
    (h : K (a.put o.dst v) w) : if Region.wanted o (yielded ops a.tmps) = true then Oper.wp Pr o a w K Q else E := by
  rw [if_pos (by simp [Region.wanted, hgd])]
  unfold Oper.wp execOp
  simp only [ho, resolve, invoke, builtin, Sem.run_bind, Sem.run_pure, Result.andThen_ok, List.map_toArray, List.map_cons, List.map_nil, hs, hx, hrun]
  exact h

theorem list_some {A : Nat → Prop} {D : Nat} {w : World} {ao : Option Addr} {ms : List Nd} (h : ListIn A D w ao ms) (hm : 0 < ms.length) : ∃ b o, ao = some ⟨b, o, none⟩ := by
  obtain ⟨⟨b, o, -, ha, -⟩, -⟩ := h 0 (ms[0]'hm) (List.getElem?_eq_getElem _)
  exact ⟨b, o, ha⟩

theorem one_row {B g : Nat} {w : World} {m : Nd} (h : w.heap[g]? = some (.cells m.cells5.toArray 25 (0, 0))) (hB : B ≤ g) : w.ownsRow B 25 5 (.slice (some ⟨g, 0, none⟩) 1 1) 1 m.cells5 :=
  ⟨rfl, Or.inr ⟨g, 1, _, rfl, hB, h, Nat.le_refl _, by decide, rfl, rfl⟩⟩

theorem listExpression_nil (ao : Option Addr) (cap : Nat) (w : World) : Calls Tryz.prog 99 #[.slice ao 0 cap] w fun e w' => e = .returned (.slice none 0 0) ∧ Below w.heap.size w w' := by
  go_enter Tryz.func99, Tryz.ntmps99
  go_wp2_with fail
  go_loop [3, 8] (fun out i => out = .slice none 0 0 ∧ i = .int .i64 0) (fun _ _ => 0)
  case atStart => exact ⟨rfl, rfl⟩
  case round =>
    obtain ⟨rfl, rfl⟩ := hrel
    go_wp2_with fail
    go_ret
    exact ⟨rfl, Below.refl _ _⟩

theorem listProperty_nil (ao : Option Addr) (cap : Nat) (w : World) : Calls Tryz.prog 101 #[.slice ao 0 cap] w fun e w' => e = .returned (.slice none 0 0) ∧ Below w.heap.size w w' := by
  go_enter Tryz.func101, Tryz.ntmps101
  go_wp2_with fail
  go_loop [3, 8] (fun out i => out = .slice none 0 0 ∧ i = .int .i64 0) (fun _ _ => 0)
  case atStart => exact ⟨rfl, rfl⟩
  case round =>
    obtain ⟨rfl, rfl⟩ := hrel
    go_wp2_with fail
    go_ret
    exact ⟨rfl, Below.refl _ _⟩

set_option maxRecDepth 100000 in
set_option maxHeartbeats 2000000 in
theorem nd_16 (d : Nat) (hN : NodeC d) (e : Nat) (A : Nat → Prop) (n : Nd) (b : Nat) (w : World) (hG : PreD (e + 1) n) (hW : WfN n) (hR : RepD A (d + 1) w n b) (hk : n.kind = 16) (hr : 1 < n.kids.length) :
    Calls Tryz.prog 36 #[.iface (pTy n.kind) (.pointer (some ⟨b, 0, none⟩))] w (NodePost n w) := by
  obtain ⟨k, t, m, u, ao, cap, kids⟩ := n
  obtain rfl : k = 16 := hk
  have hn0 : (Nd.mk 16 t m u ao cap kids).kind ≠ 0 := by show (16 : Int) ≠ 0; decide
  have hn1 : (Nd.mk 16 t m u ao cap kids).kind ≠ 1 := by show (16 : Int) ≠ 1; decide
  have hPl := (hG.fit hn0).2.2.1
  have HWF := Lib.hid hW.wf
  obtain rfl : t = ⟨#[]⟩ := hPl.1 (show hasText 16 = false by decide)
  obtain rfl : u = 0 := hPl.2.1 (show hasNum 16 = false by decide)
  obtain rfl : m = ⟨#[]⟩ := hPl.2.2.1 (show (16 : Int) ≠ 2 by decide) (show (16 : Int) ≠ 3 by decide)
  have hln : 1 ≤ kids.length := by
    have h1 := ((hG.fit hn0).2.2.2.1 hn1).1
    rw [show (fixedL (Nd.kind (.mk 16 ⟨#[]⟩ ⟨#[]⟩ 0 ao cap kids))).length = 1 from by show (fixedL 16).length = 1; decide] at h1
    exact h1
  obtain ⟨x0, rest, rfl⟩ : ∃ x0 rest, kids = x0 :: rest := by
    cases kids with
    | nil => simp at hln
    | cons x0 rest => exact ⟨x0, rest, rfl⟩
  obtain ⟨hP0, hC0⟩ := hG.kid (i := 0) (x := x0) hn0 rfl
  have hr1 : 1 ≤ rest.length := by have : 1 < (x0 :: rest).length := hr; simp at this; omega
  have hks : ∀ x ∈ rest, GoodW e x ∧ x.kind ∈ exprL := by
    intro x hx
    obtain ⟨i, hi, e1⟩ := List.mem_iff_getElem.1 hx
    have hx2 : (x0 :: rest)[i + 1]? = some x := by rw [List.getElem?_cons_succ, List.getElem?_eq_getElem hi, e1]
    obtain ⟨hP, hC⟩ := hG.kid (i := i + 1) (x := x) hn0 hx2
    have hC1 := hC hn1
    have e1 : (fixedL 16).getD (i + 1) (restL 16) = restL 16 := by rw [show fixedL 16 = [0] from by decide]; simp
    have hC2 : ofClassB x (restL 16) = true := by rw [← e1]; exact hC1
    have hkx : x.kind ∈ exprL := class_0 hC2
    exact ⟨⟨hP.good (expr_walk hkx), hW.kid (i := i + 1) hx2⟩, hkx⟩
  have hsm : rest.length ≤ 1000 := by have := hG.small; simp only [Nd.kids, List.length_cons] at this; omega
  have HKS := Lib.hid hks
  have HSM := Lib.hid hsm
  have HG0 := Lib.hid (show GoodW e x0 from ⟨hP0.good (expr_walk (class_0 (hC0 hn1))), hW.kid (i := 0) rfl⟩)
  obtain ⟨hA, cs, hb, hs⟩ := hR
  rw [slots_16 _ rfl] at hs
  match cs, hs with
  | [v0, v1, v2, v3, v4, v5, v6], ⟨e0, e1, e2, e3, e4, e5, e6, _⟩ =>
    obtain ⟨aoL, capL, hv, hHL⟩ := HeldList.of (ptr := false) (R := RepD A d) (ns := rest) (v := v5) (w := w) (A := A) e5
    subst hv
    have HHL := Lib.hid hHL
    have c5 : w.cell? ⟨b, 5, none⟩ = some (.slice aoL rest.length capL) := by rw [Lib.cell_of_heap hb]; rfl
    obtain ⟨b0, rfl, hR0⟩ := (show IfcTo (RepD A d) w x0 v3 from e3)
    have HR0 := Lib.hid hR0
    have c3 : w.cell? ⟨b, 3, none⟩ = some (.iface (pTy x0.kind) (.pointer (some ⟨b0, 0, none⟩))) := by rw [Lib.cell_of_heap hb]; rfl
    have hblt : b < w.heap.size := World.block_lt_of_cell? _ _ c5
    have hbne : ¬ b = w.heap.size := by omega
    have hbne2 : ¬ w.heap.size = b := by omega
    obtain ⟨i0, hi, hz0, hz1, hz2⟩ := info_parts infoNode
    rw [show pTy (Nd.kind (.mk 16 ⟨#[]⟩ ⟨#[]⟩ 0 ao cap (x0 :: rest))) = 165 from ptrTy_16]
    clear hn0 hn1 hPl hln hG hW hA hb hP0 hC0 hr hks hsm hHL
    have q2 := no_2 165 (by decide)
    have q3 := no_3 165 (by decide)
    have q4 := no_4 165 (by decide)
    have q5 := no_5 165 (by decide)
    have q6 := no_6 165 (by decide)
    have q7 := no_7 165 (by decide)
    have q8 := no_8 165 (by decide)
    have q9 := no_9 165 (by decide)
    have q10 := no_10 165 (by decide)
    have q11 := no_11 165 (by decide)
    have q12 := no_12 165 (by decide)
    have q13 := no_13 165 (by decide)
    have q14 := no_14 165 (by decide)
    have q15 := no_15 165 (by decide)
    have q16 := yes_16
    go_enter Tryz.func36, Tryz.ntmps36
    go_wp2_with fail
    have hS0 : ((w.alloc zN).cell? ⟨b, 3, none⟩ = some (.iface (pTy x0.kind) (.pointer (some ⟨b0, 0, none⟩))) ∧ (w.alloc zN).cell? ⟨b, 5, none⟩ = some (.slice aoL rest.length capL)) := ⟨by rw [((Below.refl w.heap.size w).alloc (Nat.le_refl _) zN).cell (p := ⟨b, 3, none⟩) hblt]; exact c3, by rw [((Below.refl w.heap.size w).alloc (Nat.le_refl _) zN).cell (p := ⟨b, 5, none⟩) hblt]; exact c5⟩
    have HSK := Lib.hid (show ∀ W' : World, (∀ o, W'.cell? ⟨b, o, none⟩ = w.cell? ⟨b, o, none⟩) → (W'.cell? ⟨b, 3, none⟩ = some (.iface (pTy x0.kind) (.pointer (some ⟨b0, 0, none⟩))) ∧ W'.cell? ⟨b, 5, none⟩ = some (.slice aoL rest.length capL)) from fun W' h => ⟨(h _).trans c3, (h _).trans c5⟩)
    refine headBegin (S := fun w' => (w'.cell? ⟨b, 3, none⟩ = some (.iface (pTy x0.kind) (.pointer (some ⟨b0, 0, none⟩))) ∧ w'.cell? ⟨b, 5, none⟩ = some (.slice aoL rest.length capL))) 13 (by kernel_rfl) hS0 (fun hHeld => ?_)
    clear hS0
    refine headTake (i := 0) (v := ?_) rfl (by kernel_rfl) (by kernel_rfl) (by kernel_rfl) (by kernel_rfl) (fun _ _ _ h => h) (Or.inl ⟨by rfl, ?_⟩) hHeld ?_
    rotate_left 1
    · intro w hSw
      go_split_ands
      go_simp
      try with_reducible rfl
    simp only [List.getElem_toArray, List.getElem_cons_zero, List.getElem_cons_succ, Act.put, List.setIfInBounds_toArray, List.set_cons_zero, List.set_cons_succ]
    refine headTake (i := 1) (v := ?_) rfl (by kernel_rfl) (by kernel_rfl) (by kernel_rfl) (by kernel_rfl) (fun _ _ _ h => h) (Or.inl ⟨by rfl, ?_⟩) hHeld ?_
    rotate_left 1
    · intro w hSw
      go_split_ands
      go_simp
      try with_reducible rfl
    simp only [List.getElem_toArray, List.getElem_cons_zero, List.getElem_cons_succ, Act.put, List.setIfInBounds_toArray, List.set_cons_zero, List.set_cons_succ]
    refine headTake (i := 2) (v := ?_) rfl (by kernel_rfl) (by kernel_rfl) (by kernel_rfl) (by kernel_rfl) (fun _ _ _ h => h) (Or.inl ⟨by rfl, ?_⟩) hHeld ?_
    rotate_left 1
    · intro w hSw
      go_split_ands
      go_simp
      try with_reducible rfl
    simp only [List.getElem_toArray, List.getElem_cons_zero, List.getElem_cons_succ, Act.put, List.setIfInBounds_toArray, List.set_cons_zero, List.set_cons_succ]
    refine headTake (i := 3) (v := ?_) rfl (by kernel_rfl) (by kernel_rfl) (by kernel_rfl) (by kernel_rfl) (fun _ _ _ h => h) (Or.inl ⟨by rfl, ?_⟩) hHeld ?_
    rotate_left 1
    · intro w hSw
      go_split_ands
      go_simp
      try with_reducible rfl
    simp only [List.getElem_toArray, List.getElem_cons_zero, List.getElem_cons_succ, Act.put, List.setIfInBounds_toArray, List.set_cons_zero, List.set_cons_succ]
    refine headTake (i := 6) (v := ?_) rfl (by kernel_rfl) (by kernel_rfl) (by kernel_rfl) (by kernel_rfl) (fun _ _ _ h => h) (Or.inl ⟨by rfl, ?_⟩) hHeld ?_
    rotate_left 1
    · intro w hSw
      go_split_ands
      go_simp
      try with_reducible rfl
    simp only [List.getElem_toArray, List.getElem_cons_zero, List.getElem_cons_succ, Act.put, List.setIfInBounds_toArray, List.set_cons_zero, List.set_cons_succ]
    refine headTake (i := 7) (v := ?_) rfl (by kernel_rfl) (by kernel_rfl) (by kernel_rfl) (by kernel_rfl) (fun _ _ _ h => h) (Or.inl ⟨by rfl, ?_⟩) hHeld ?_
    rotate_left 1
    · intro w hSw
      go_split_ands
      go_simp
      try with_reducible rfl
    simp only [List.getElem_toArray, List.getElem_cons_zero, List.getElem_cons_succ, Act.put, List.setIfInBounds_toArray, List.set_cons_zero, List.set_cons_succ]
    refine headTake (i := 8) (v := ?_) rfl (by kernel_rfl) (by kernel_rfl) (by kernel_rfl) (by kernel_rfl) (fun _ _ _ h => h) (Or.inl ⟨by rfl, ?_⟩) hHeld ?_
    rotate_left 1
    · intro w hSw
      go_split_ands
      go_simp
      try with_reducible rfl
    simp only [List.getElem_toArray, List.getElem_cons_zero, List.getElem_cons_succ, Act.put, List.setIfInBounds_toArray, List.set_cons_zero, List.set_cons_succ]
    refine headTake (i := 9) (v := ?_) rfl (by kernel_rfl) (by kernel_rfl) (by kernel_rfl) (by kernel_rfl) (fun _ _ _ h => h) (Or.inl ⟨by rfl, ?_⟩) hHeld ?_
    rotate_left 1
    · intro w hSw
      go_split_ands
      go_simp
      try with_reducible rfl
    simp only [List.getElem_toArray, List.getElem_cons_zero, List.getElem_cons_succ, Act.put, List.setIfInBounds_toArray, List.set_cons_zero, List.set_cons_succ]
    refine headStep (i := 4) rfl (by kernel_rfl) (fun K hK => ?_)
    go_simp
    go_at_call 54
    refine (exprOrNone d hN e A x0 b0 _ HG0.out (HR0.out.below (Below.drew ((Below.refl _ _).alloc (Nat.le_refl _) _)))).mono ?_
    rintro e c0w ⟨E0, m0, rfl, hS0, hl0, hb0⟩
    have HZ0 : Below (w.alloc zN).heap.size (w.alloc zN) c0w := (Below.drew (Below.refl _ _)).trans (hb0.mono (by simp))
    have HY0 : Below w.heap.size w c0w := ((Below.refl w.heap.size w).alloc (Nat.le_refl _) zN).trans (HZ0.mono (by simp))
    have hz00 : w.heap.size < c0w.heap.size := (by have := Below.size HZ0; (try simp at this); omega)
    obtain ⟨kb0, -⟩ := bblk HY0 (b := b) hblt
    obtain ⟨ka0, fa0⟩ := bblk HZ0 (b := w.heap.size) (by simp)
    unfold zN at ka0 fa0
    have HS0 := Lib.hid hS0
    have Hl0 : Hid (LiesIn (From (w.alloc zN).heap.size) E0 c0w m0) := Lib.hid (by have h := hl0; simpa using h)
    clear hS0 hl0
    have HKB0 := Lib.hid kb0
    refine hK.out _ _ ⟨fun _ => HSK.out _ HKB0.out, fun hS => ?_⟩
    have hHeld := hS (by decide)
    clear hS hK K hb0
    refine headStep2 (i := 5) (j := 10) rfl rfl (by kernel_rfl) (fun K hK => ?_) (fun K hK => ?_)
    · go_simp
      have HKBx := Lib.hid (show ∀ o, World.cell? (c0w.alloc (.cells (Nd.cells5 m0).toArray 25)) ⟨b, o, none⟩ = w.cell? ⟨b, o, none⟩ from fun o => (((Below.refl c0w.heap.size c0w).alloc (Nat.le_refl _) (.cells (Nd.cells5 m0).toArray 25)).cell (p := ⟨b, o, none⟩) (show b < _ by omega)).trans (HKB0.out o))
      refine hK.out _ _ ⟨fun _ => HSK.out _ HKBx.out, fun hS => ?_⟩
      have hHeld := hS (by decide)
      clear hS hK K
      refine headStep (i := 10) rfl (by kernel_rfl) (fun K hK => ?_)
      go_simp
      go_at_call 99
      refine (listExpression d hN e A rest aoL capL _ HSM.out (HHL.out.below (HY0.alloc HY0.size (.cells (Nd.cells5 m0).toArray 25))) HKS.out).mono ?_
      rintro e c1w ⟨D1, ao3, cap3, ms, rfl, hlm, hss, hli, hb1⟩
      obtain ⟨bq, oq, rfl⟩ : ∃ bq oq, ao3 = some ⟨bq, oq, none⟩ := list_some hli (by omega)
      have HLM := Lib.hid hlm
      have HSS := Lib.hid hss
      have HLI : Hid (ListIn (From (c0w.heap.size + 1)) D1 c1w (some ⟨bq, oq, none⟩) ms) := Lib.hid (by have h := hli; simpa using h)
      clear hlm hss hli
      have HB1 : Below (c0w.alloc (.cells (Nd.cells5 m0).toArray 25)).heap.size (c0w.alloc (.cells (Nd.cells5 m0).toArray 25)) c1w := hb1
      have HZ1 : Below c0w.heap.size c0w c1w := ((Below.refl c0w.heap.size c0w).alloc (Nat.le_refl _) (.cells (Nd.cells5 m0).toArray 25)).trans (HB1.mono (by simp))
      have hz11 : c0w.heap.size ≤ c1w.heap.size := HZ1.size
      have hz13 : w.heap.size < c1w.heap.size := by omega
      have hz14 : ¬ w.heap.size = c1w.heap.size := by omega
      have HBK : Hid (c1w.heap[c0w.heap.size]? = some (.cells (Nd.cells5 m0).toArray 25 (0, 0))) := Lib.hid (by rw [HB1.block c0w.heap.size (by simp)]; exact heap_alloc_new c0w _)
      have hz12 : c0w.heap.size < c1w.heap.size := by have := HB1.size; simp at this; omega
      obtain ⟨kb1, -⟩ := bblk HZ1 (b := b) (by omega)
      obtain ⟨ka1, fa1⟩ := bblk HZ1 (b := w.heap.size) (by omega)
      have HKB1 := Lib.hid (show ∀ o, World.cell? c1w ⟨b, o, none⟩ = w.cell? ⟨b, o, none⟩ from fun o => (kb1 o).trans (HKB0.out o))
      refine hK.out _ _ ⟨fun _ => HSK.out _ HKB1.out, fun hS => ?_⟩
      have hHeld := hS (by decide)
      clear hS hK K hb1
      refine headStep (i := 11) rfl (by kernel_rfl) (fun K hK => ?_)
      refine step_append_lies _ rfl _ _ 23 rfl (w.heap.size + 1) 25 i0 _ 5 72 undNodes hi hz0 hz1 hz2 rfl (by decide) (.slice (some ⟨c0w.heap.size, 0, none⟩) 1 1) 1 (Nd.cells5 m0) rfl (one_row (B := w.heap.size + 1) HBK.out (by omega)) ⟨bq, oq, none⟩ rest.length cap3 (ms.flatMap Nd.cells5) rfl (by rw [cells5_len, HLM.out]) (list_news HLI.out) (cells5_one ms) (by omega) (by have := HSM.out; unfold maxLen; omega) (by have := HSM.out; omega) (by first | omega | (simp; omega)) _ rfl ?_
      intro g cap2 w2 hown' hgrow hat hglt
      have HKB2 := Lib.hid (show ∀ o, World.cell? w2 ⟨b, o, none⟩ = w.cell? ⟨b, o, none⟩ from fun o => (hgrow.cell_far ⟨b, o, none⟩ (by first | (show b < _; omega) | (simp; omega)) (by simp [Value.ownBlock]; omega)).trans (HKB1.out o))
      have kg := fun o => hgrow.cell_far ⟨w.heap.size, o, none⟩ (by first | (show w.heap.size < _; omega) | (simp; omega)) (by simp [Value.ownBlock]; omega)
      have fg := fun o => hgrow.frozen_far ⟨w.heap.size, o, none⟩ (by first | (show w.heap.size < _; omega) | (simp; omega)) (by simp [Value.ownBlock]; omega)
      have HOWN := Lib.hid hown'
      have HGR := Lib.hid hgrow
      clear hown' hgrow hat hglt
      refine hK.out _ _ ⟨fun _ => HSK.out _ HKB2.out, fun hS => ?_⟩
      have hHeld := hS (by decide)
      clear hS hK K
      refine headStep (i := 12) rfl (by kernel_rfl) (fun K hK => ?_)
      go_simp
      refine hK.out _ _ ⟨fun _ => HSK.out _ HKB2.out, fun hS => ?_⟩
      clear hS hK K
      refine headStep (i := 13) rfl (by kernel_rfl) (fun K hK => ?_)
      go_simp
      refine hK.out _ _ ⟨fun h => absurd h (by decide), fun _ => ?_⟩
      clear hK K
      refine headDone (by kernel_rfl) ?_ _
      go_wp2_with fail
      exact bodyPost_ret (v := .agg #[.int .i64 16, .string ⟨#[]⟩, .string ⟨#[]⟩, .int .u64 0, .slice (some ⟨g, 0, none⟩) (1 + rest.length) cap2]) (by simp [results, Tryz.f36, go_sem, kg, ka1, ka0, hz13, hz14, hz00]) rfl (NodePost.stored _ _ _ _ _ (call_row1 (w0 := w.alloc zN) HWF.out HLM.out HZ0 HZ1 HS0.out Hl0.out HSS.out HLI.out (by have h := HOWN.out; simpa using h) (by omega) HGR.out))
    · go_simp
      go_at_call 99
      refine (listExpression d hN e A rest aoL capL _ HSM.out (HHL.out.below HY0) HKS.out).mono ?_
      rintro e c1w ⟨D1, ao3, cap3, ms, rfl, hlm, hss, hli, hb1⟩
      obtain ⟨bq, oq, rfl⟩ : ∃ bq oq, ao3 = some ⟨bq, oq, none⟩ := list_some hli (by omega)
      have HLM := Lib.hid hlm
      have HSS := Lib.hid hss
      have HLI : Hid (ListIn (From (c0w.heap.size)) D1 c1w (some ⟨bq, oq, none⟩) ms) := Lib.hid (by have h := hli; simpa using h)
      clear hlm hss hli
      have HB1 : Below c0w.heap.size c0w c1w := hb1
      have HZ1 : Below c0w.heap.size c0w c1w := HB1
      have hz11 : c0w.heap.size ≤ c1w.heap.size := HZ1.size
      have hz13 : w.heap.size < c1w.heap.size := by omega
      have hz14 : ¬ w.heap.size = c1w.heap.size := by omega
      obtain ⟨kb1, -⟩ := bblk HZ1 (b := b) (by omega)
      obtain ⟨ka1, fa1⟩ := bblk HZ1 (b := w.heap.size) (by omega)
      have HKB1 := Lib.hid (show ∀ o, World.cell? c1w ⟨b, o, none⟩ = w.cell? ⟨b, o, none⟩ from fun o => (kb1 o).trans (HKB0.out o))
      refine hK.out _ _ ⟨fun _ => HSK.out _ HKB1.out, fun hS => ?_⟩
      have hHeld := hS (by decide)
      clear hS hK K hb1
      refine headStep (i := 5) rfl (by kernel_rfl) (fun K hK => ?_)
      go_simp
      have HKBx := Lib.hid (show ∀ o, World.cell? (c1w.alloc (.cells (Nd.cells5 m0).toArray 25)) ⟨b, o, none⟩ = w.cell? ⟨b, o, none⟩ from fun o => (((Below.refl c1w.heap.size c1w).alloc (Nat.le_refl _) (.cells (Nd.cells5 m0).toArray 25)).cell (p := ⟨b, o, none⟩) (show b < _ by omega)).trans (HKB1.out o))
      refine hK.out _ _ ⟨fun _ => HSK.out _ HKBx.out, fun hS => ?_⟩
      have hHeld := hS (by decide)
      clear hS hK K
      refine headStep (i := 11) rfl (by kernel_rfl) (fun K hK => ?_)
      refine step_append_lies _ rfl _ _ 23 rfl (w.heap.size + 1) 25 i0 _ 5 72 undNodes hi hz0 hz1 hz2 rfl (by decide) (.slice (some ⟨c1w.heap.size, 0, none⟩) 1 1) 1 (Nd.cells5 m0) rfl (one_row (B := w.heap.size + 1) (m := m0) (heap_alloc_new c1w (.cells (Nd.cells5 m0).toArray 25)) (by omega)) ⟨bq, oq, none⟩ rest.length cap3 (ms.flatMap Nd.cells5) rfl (by rw [cells5_len, HLM.out]) (list_news (HLI.out.carry (Carries.of_below ((Below.refl c1w.heap.size c1w).alloc (Nat.le_refl _) (.cells (Nd.cells5 m0).toArray 25))))) (cells5_one ms) (by omega) (by have := HSM.out; unfold maxLen; omega) (by have := HSM.out; omega) (by first | omega | (simp; omega)) _ rfl ?_
      intro g cap2 w2 hown' hgrow hat hglt
      have HKB2 := Lib.hid (show ∀ o, World.cell? w2 ⟨b, o, none⟩ = w.cell? ⟨b, o, none⟩ from fun o => (hgrow.cell_far ⟨b, o, none⟩ (by first | (show b < _; omega) | (simp; omega)) (by simp [Value.ownBlock]; omega)).trans (HKBx.out o))
      have kg := fun o => hgrow.cell_far ⟨w.heap.size, o, none⟩ (by first | (show w.heap.size < _; omega) | (simp; omega)) (by simp [Value.ownBlock]; omega)
      have fg := fun o => hgrow.frozen_far ⟨w.heap.size, o, none⟩ (by first | (show w.heap.size < _; omega) | (simp; omega)) (by simp [Value.ownBlock]; omega)
      have HOWN := Lib.hid hown'
      have HGR := Lib.hid hgrow
      clear hown' hgrow hat hglt
      refine hK.out _ _ ⟨fun _ => HSK.out _ HKB2.out, fun hS => ?_⟩
      have hHeld := hS (by decide)
      clear hS hK K
      refine headStep (i := 12) rfl (by kernel_rfl) (fun K hK => ?_)
      go_simp
      refine hK.out _ _ ⟨fun _ => HSK.out _ HKB2.out, fun hS => ?_⟩
      clear hS hK K
      refine headStep (i := 13) rfl (by kernel_rfl) (fun K hK => ?_)
      go_simp
      refine hK.out _ _ ⟨fun h => absurd h (by decide), fun _ => ?_⟩
      clear hK K
      refine headDone (by kernel_rfl) ?_ _
      go_wp2_with fail
      exact bodyPost_ret (v := .agg #[.int .i64 16, .string ⟨#[]⟩, .string ⟨#[]⟩, .int .u64 0, .slice (some ⟨g, 0, none⟩) (1 + rest.length) cap2]) (by simp [results, Tryz.f36, go_sem, kg, ka1, ka0, hz13, hz14, hz00]) rfl (NodePost.stored _ _ _ _ _ (call_row (w0 := w.alloc zN) HWF.out HLM.out HZ0 HZ1 HS0.out Hl0.out HSS.out HLI.out (by have h := HOWN.out; simpa using h) (by omega) HGR.out))

set_option maxRecDepth 100000 in
set_option maxHeartbeats 2000000 in
theorem nd_16_one (d : Nat) (hN : NodeC d) (e : Nat) (A : Nat → Prop) (n : Nd) (b : Nat) (w : World) (hG : PreD (e + 1) n) (hW : WfN n) (hR : RepD A (d + 1) w n b) (hk : n.kind = 16) (hr : n.kids.length = 1) :
    Calls Tryz.prog 36 #[.iface (pTy n.kind) (.pointer (some ⟨b, 0, none⟩))] w (NodePost n w) := by
  obtain ⟨k, t, m, u, ao, cap, kids⟩ := n
  obtain rfl : k = 16 := hk
  have hn0 : (Nd.mk 16 t m u ao cap kids).kind ≠ 0 := by show (16 : Int) ≠ 0; decide
  have hn1 : (Nd.mk 16 t m u ao cap kids).kind ≠ 1 := by show (16 : Int) ≠ 1; decide
  have hPl := (hG.fit hn0).2.2.1
  have HWF := Lib.hid hW.wf
  obtain rfl : t = ⟨#[]⟩ := hPl.1 (show hasText 16 = false by decide)
  obtain rfl : u = 0 := hPl.2.1 (show hasNum 16 = false by decide)
  obtain rfl : m = ⟨#[]⟩ := hPl.2.2.1 (show (16 : Int) ≠ 2 by decide) (show (16 : Int) ≠ 3 by decide)
  have hln : 1 ≤ kids.length := by
    have h1 := ((hG.fit hn0).2.2.2.1 hn1).1
    rw [show (fixedL (Nd.kind (.mk 16 ⟨#[]⟩ ⟨#[]⟩ 0 ao cap kids))).length = 1 from by show (fixedL 16).length = 1; decide] at h1
    exact h1
  obtain ⟨x0, rest, rfl⟩ : ∃ x0 rest, kids = x0 :: rest := by
    cases kids with
    | nil => simp at hln
    | cons x0 rest => exact ⟨x0, rest, rfl⟩
  obtain ⟨hP0, hC0⟩ := hG.kid (i := 0) (x := x0) hn0 rfl
  obtain rfl : rest = [] := by have : (x0 :: rest).length = 1 := hr; simp at this; exact this
  have HG0 := Lib.hid (show GoodW e x0 from ⟨hP0.good (expr_walk (class_0 (hC0 hn1))), hW.kid (i := 0) rfl⟩)
  obtain ⟨hA, cs, hb, hs⟩ := hR
  rw [slots_16 _ rfl] at hs
  match cs, hs with
  | [v0, v1, v2, v3, v4, v5, v6], ⟨e0, e1, e2, e3, e4, e5, e6, _⟩ =>
    obtain ⟨aoL, capL, hv, hHL⟩ := HeldList.of (ptr := false) (R := RepD A d) (ns := []) (v := v5) (w := w) (A := A) e5
    subst hv
    have HHL := Lib.hid hHL
    have c5 : w.cell? ⟨b, 5, none⟩ = some (.slice aoL 0 capL) := by rw [Lib.cell_of_heap hb]; rfl
    obtain ⟨b0, rfl, hR0⟩ := (show IfcTo (RepD A d) w x0 v3 from e3)
    have HR0 := Lib.hid hR0
    have c3 : w.cell? ⟨b, 3, none⟩ = some (.iface (pTy x0.kind) (.pointer (some ⟨b0, 0, none⟩))) := by rw [Lib.cell_of_heap hb]; rfl
    have hblt : b < w.heap.size := World.block_lt_of_cell? _ _ c5
    have hbne : ¬ b = w.heap.size := by omega
    have hbne2 : ¬ w.heap.size = b := by omega
    obtain ⟨i0, hi, hz0, hz1, hz2⟩ := info_parts infoNode
    rw [show pTy (Nd.kind (.mk 16 ⟨#[]⟩ ⟨#[]⟩ 0 ao cap (x0 :: []))) = 165 from ptrTy_16]
    clear hn0 hn1 hPl hln hG hW hA hb hP0 hC0 hr  hHL
    have q2 := no_2 165 (by decide)
    have q3 := no_3 165 (by decide)
    have q4 := no_4 165 (by decide)
    have q5 := no_5 165 (by decide)
    have q6 := no_6 165 (by decide)
    have q7 := no_7 165 (by decide)
    have q8 := no_8 165 (by decide)
    have q9 := no_9 165 (by decide)
    have q10 := no_10 165 (by decide)
    have q11 := no_11 165 (by decide)
    have q12 := no_12 165 (by decide)
    have q13 := no_13 165 (by decide)
    have q14 := no_14 165 (by decide)
    have q15 := no_15 165 (by decide)
    have q16 := yes_16
    go_enter Tryz.func36, Tryz.ntmps36
    go_wp2_with fail
    have hS0 : ((w.alloc zN).cell? ⟨b, 3, none⟩ = some (.iface (pTy x0.kind) (.pointer (some ⟨b0, 0, none⟩))) ∧ (w.alloc zN).cell? ⟨b, 5, none⟩ = some (.slice aoL 0 capL)) := ⟨by rw [((Below.refl w.heap.size w).alloc (Nat.le_refl _) zN).cell (p := ⟨b, 3, none⟩) hblt]; exact c3, by rw [((Below.refl w.heap.size w).alloc (Nat.le_refl _) zN).cell (p := ⟨b, 5, none⟩) hblt]; exact c5⟩
    have HSK := Lib.hid (show ∀ W' : World, (∀ o, W'.cell? ⟨b, o, none⟩ = w.cell? ⟨b, o, none⟩) → (W'.cell? ⟨b, 3, none⟩ = some (.iface (pTy x0.kind) (.pointer (some ⟨b0, 0, none⟩))) ∧ W'.cell? ⟨b, 5, none⟩ = some (.slice aoL 0 capL)) from fun W' h => ⟨(h _).trans c3, (h _).trans c5⟩)
    refine headBegin (S := fun w' => (w'.cell? ⟨b, 3, none⟩ = some (.iface (pTy x0.kind) (.pointer (some ⟨b0, 0, none⟩))) ∧ w'.cell? ⟨b, 5, none⟩ = some (.slice aoL 0 capL))) 13 (by kernel_rfl) hS0 (fun hHeld => ?_)
    clear hS0
    refine headTake (i := 0) (v := ?_) rfl (by kernel_rfl) (by kernel_rfl) (by kernel_rfl) (by kernel_rfl) (fun _ _ _ h => h) (Or.inl ⟨by rfl, ?_⟩) hHeld ?_
    rotate_left 1
    · intro w hSw
      go_split_ands
      go_simp
      try with_reducible rfl
    simp only [List.getElem_toArray, List.getElem_cons_zero, List.getElem_cons_succ, Act.put, List.setIfInBounds_toArray, List.set_cons_zero, List.set_cons_succ]
    refine headTake (i := 1) (v := ?_) rfl (by kernel_rfl) (by kernel_rfl) (by kernel_rfl) (by kernel_rfl) (fun _ _ _ h => h) (Or.inl ⟨by rfl, ?_⟩) hHeld ?_
    rotate_left 1
    · intro w hSw
      go_split_ands
      go_simp
      try with_reducible rfl
    simp only [List.getElem_toArray, List.getElem_cons_zero, List.getElem_cons_succ, Act.put, List.setIfInBounds_toArray, List.set_cons_zero, List.set_cons_succ]
    refine headTake (i := 2) (v := ?_) rfl (by kernel_rfl) (by kernel_rfl) (by kernel_rfl) (by kernel_rfl) (fun _ _ _ h => h) (Or.inl ⟨by rfl, ?_⟩) hHeld ?_
    rotate_left 1
    · intro w hSw
      go_split_ands
      go_simp
      try with_reducible rfl
    simp only [List.getElem_toArray, List.getElem_cons_zero, List.getElem_cons_succ, Act.put, List.setIfInBounds_toArray, List.set_cons_zero, List.set_cons_succ]
    refine headTake (i := 3) (v := ?_) rfl (by kernel_rfl) (by kernel_rfl) (by kernel_rfl) (by kernel_rfl) (fun _ _ _ h => h) (Or.inl ⟨by rfl, ?_⟩) hHeld ?_
    rotate_left 1
    · intro w hSw
      go_split_ands
      go_simp
      try with_reducible rfl
    simp only [List.getElem_toArray, List.getElem_cons_zero, List.getElem_cons_succ, Act.put, List.setIfInBounds_toArray, List.set_cons_zero, List.set_cons_succ]
    refine headTake (i := 6) (v := ?_) rfl (by kernel_rfl) (by kernel_rfl) (by kernel_rfl) (by kernel_rfl) (fun _ _ _ h => h) (Or.inl ⟨by rfl, ?_⟩) hHeld ?_
    rotate_left 1
    · intro w hSw
      go_split_ands
      go_simp
      try with_reducible rfl
    simp only [List.getElem_toArray, List.getElem_cons_zero, List.getElem_cons_succ, Act.put, List.setIfInBounds_toArray, List.set_cons_zero, List.set_cons_succ]
    refine headTake (i := 7) (v := ?_) rfl (by kernel_rfl) (by kernel_rfl) (by kernel_rfl) (by kernel_rfl) (fun _ _ _ h => h) (Or.inl ⟨by rfl, ?_⟩) hHeld ?_
    rotate_left 1
    · intro w hSw
      go_split_ands
      go_simp
      try with_reducible rfl
    simp only [List.getElem_toArray, List.getElem_cons_zero, List.getElem_cons_succ, Act.put, List.setIfInBounds_toArray, List.set_cons_zero, List.set_cons_succ]
    refine headTake (i := 8) (v := ?_) rfl (by kernel_rfl) (by kernel_rfl) (by kernel_rfl) (by kernel_rfl) (fun _ _ _ h => h) (Or.inl ⟨by rfl, ?_⟩) hHeld ?_
    rotate_left 1
    · intro w hSw
      go_split_ands
      go_simp
      try with_reducible rfl
    simp only [List.getElem_toArray, List.getElem_cons_zero, List.getElem_cons_succ, Act.put, List.setIfInBounds_toArray, List.set_cons_zero, List.set_cons_succ]
    refine headTake (i := 9) (v := ?_) rfl (by kernel_rfl) (by kernel_rfl) (by kernel_rfl) (by kernel_rfl) (fun _ _ _ h => h) (Or.inl ⟨by rfl, ?_⟩) hHeld ?_
    rotate_left 1
    · intro w hSw
      go_split_ands
      go_simp
      try with_reducible rfl
    simp only [List.getElem_toArray, List.getElem_cons_zero, List.getElem_cons_succ, Act.put, List.setIfInBounds_toArray, List.set_cons_zero, List.set_cons_succ]
    refine headStep (i := 4) rfl (by kernel_rfl) (fun K hK => ?_)
    go_simp
    go_at_call 54
    refine (exprOrNone d hN e A x0 b0 _ HG0.out (HR0.out.below (Below.drew ((Below.refl _ _).alloc (Nat.le_refl _) _)))).mono ?_
    rintro e c0w ⟨E0, m0, rfl, hS0, hl0, hb0⟩
    have HZ0 : Below (w.alloc zN).heap.size (w.alloc zN) c0w := (Below.drew (Below.refl _ _)).trans (hb0.mono (by simp))
    have HY0 : Below w.heap.size w c0w := ((Below.refl w.heap.size w).alloc (Nat.le_refl _) zN).trans (HZ0.mono (by simp))
    have hz00 : w.heap.size < c0w.heap.size := (by have := Below.size HZ0; (try simp at this); omega)
    obtain ⟨kb0, -⟩ := bblk HY0 (b := b) hblt
    obtain ⟨ka0, fa0⟩ := bblk HZ0 (b := w.heap.size) (by simp)
    unfold zN at ka0 fa0
    have HS0 := Lib.hid hS0
    have Hl0 : Hid (LiesIn (From (w.alloc zN).heap.size) E0 c0w m0) := Lib.hid (by have h := hl0; simpa using h)
    clear hS0 hl0
    have HKB0 := Lib.hid kb0
    refine hK.out _ _ ⟨fun _ => HSK.out _ HKB0.out, fun hS => ?_⟩
    have hHeld := hS (by decide)
    clear hS hK K hb0
    refine headStep2 (i := 5) (j := 10) rfl rfl (by kernel_rfl) (fun K hK => ?_) (fun K hK => ?_)
    · go_simp
      have HKBx := Lib.hid (show ∀ o, World.cell? (c0w.alloc (.cells (Nd.cells5 m0).toArray 25)) ⟨b, o, none⟩ = w.cell? ⟨b, o, none⟩ from fun o => (((Below.refl c0w.heap.size c0w).alloc (Nat.le_refl _) (.cells (Nd.cells5 m0).toArray 25)).cell (p := ⟨b, o, none⟩) (show b < _ by omega)).trans (HKB0.out o))
      refine hK.out _ _ ⟨fun _ => HSK.out _ HKBx.out, fun hS => ?_⟩
      have hHeld := hS (by decide)
      clear hS hK K
      refine headStep (i := 10) rfl (by kernel_rfl) (fun K hK => ?_)
      go_simp
      go_at_call 99
      refine (listExpression_nil aoL capL _).mono ?_
      rintro e c1w ⟨rfl, hb1⟩
      have HB1 : Below (c0w.alloc (.cells (Nd.cells5 m0).toArray 25)).heap.size (c0w.alloc (.cells (Nd.cells5 m0).toArray 25)) c1w := hb1
      have HZ1 : Below c0w.heap.size c0w c1w := ((Below.refl c0w.heap.size c0w).alloc (Nat.le_refl _) (.cells (Nd.cells5 m0).toArray 25)).trans (HB1.mono (by simp))
      have hz11 : c0w.heap.size ≤ c1w.heap.size := HZ1.size
      have hz13 : w.heap.size < c1w.heap.size := by omega
      have hz14 : ¬ w.heap.size = c1w.heap.size := by omega
      have HBK : Hid (c1w.heap[c0w.heap.size]? = some (.cells (Nd.cells5 m0).toArray 25 (0, 0))) := Lib.hid (by rw [HB1.block c0w.heap.size (by simp)]; exact heap_alloc_new c0w _)
      have hz12 : c0w.heap.size < c1w.heap.size := by have := HB1.size; simp at this; omega
      obtain ⟨kb1, -⟩ := bblk HZ1 (b := b) (by omega)
      obtain ⟨ka1, fa1⟩ := bblk HZ1 (b := w.heap.size) (by omega)
      have HKB1 := Lib.hid (show ∀ o, World.cell? c1w ⟨b, o, none⟩ = w.cell? ⟨b, o, none⟩ from fun o => (kb1 o).trans (HKB0.out o))
      refine hK.out _ _ ⟨fun _ => HSK.out _ HKB1.out, fun hS => ?_⟩
      have hHeld := hS (by decide)
      clear hS hK K hb1
      refine headStep (i := 11) rfl (by kernel_rfl) (fun K hK => ?_)
      refine step_append_nil rfl _ _ 23 rfl rfl rfl (app_nil c0w.heap.size _) ?_
      refine hK.out _ _ ⟨fun _ => HSK.out _ HKB1.out, fun hS => ?_⟩
      have hHeld := hS (by decide)
      clear hS hK K
      refine headStep (i := 12) rfl (by kernel_rfl) (fun K hK => ?_)
      go_simp
      refine hK.out _ _ ⟨fun _ => HSK.out _ HKB1.out, fun hS => ?_⟩
      clear hS hK K
      refine headStep (i := 13) rfl (by kernel_rfl) (fun K hK => ?_)
      go_simp
      refine hK.out _ _ ⟨fun h => absurd h (by decide), fun _ => ?_⟩
      clear hK K
      refine headDone (by kernel_rfl) ?_ _
      have HZ2 : Below (w.alloc zN).heap.size (w.alloc zN) c1w := HZ0.trans (HZ1.mono HZ0.size)
      go_wp2_with fail
      exact bodyPost_ret (v := .agg #[.int .i64 16, .string ⟨#[]⟩, .string ⟨#[]⟩, .int .u64 0, .slice (some ⟨c0w.heap.size, 0, none⟩) 1 1]) (by simp [results, Tryz.f36, go_sem, ka1, ka0, hz13, hz14, hz00]) rfl (NodePost.stored _ _ _ _ _ (back_row (w0 := w.alloc zN) (ms := [m0]) rfl HWF.out HZ2 (by have h := one_row (B := (w.alloc zN).heap.size) HBK.out (by simp; omega); simpa using h) rfl (fun i x y hx hy => by match i with | 0 => (simp at hx hy; subst hx hy; exact ⟨_, HS0.out, (Hl0.out).below HZ1⟩) | _ + 1 => simp at hx)))
    · go_simp
      go_at_call 99
      refine (listExpression_nil aoL capL _).mono ?_
      rintro e c1w ⟨rfl, hb1⟩
      have HB1 : Below c0w.heap.size c0w c1w := hb1
      have HZ1 : Below c0w.heap.size c0w c1w := HB1
      have hz11 : c0w.heap.size ≤ c1w.heap.size := HZ1.size
      have hz13 : w.heap.size < c1w.heap.size := by omega
      have hz14 : ¬ w.heap.size = c1w.heap.size := by omega
      obtain ⟨kb1, -⟩ := bblk HZ1 (b := b) (by omega)
      obtain ⟨ka1, fa1⟩ := bblk HZ1 (b := w.heap.size) (by omega)
      have HKB1 := Lib.hid (show ∀ o, World.cell? c1w ⟨b, o, none⟩ = w.cell? ⟨b, o, none⟩ from fun o => (kb1 o).trans (HKB0.out o))
      refine hK.out _ _ ⟨fun _ => HSK.out _ HKB1.out, fun hS => ?_⟩
      have hHeld := hS (by decide)
      clear hS hK K hb1
      refine headStep (i := 5) rfl (by kernel_rfl) (fun K hK => ?_)
      go_simp
      have HKBx := Lib.hid (show ∀ o, World.cell? (c1w.alloc (.cells (Nd.cells5 m0).toArray 25)) ⟨b, o, none⟩ = w.cell? ⟨b, o, none⟩ from fun o => (((Below.refl c1w.heap.size c1w).alloc (Nat.le_refl _) (.cells (Nd.cells5 m0).toArray 25)).cell (p := ⟨b, o, none⟩) (show b < _ by omega)).trans (HKB1.out o))
      refine hK.out _ _ ⟨fun _ => HSK.out _ HKBx.out, fun hS => ?_⟩
      have hHeld := hS (by decide)
      clear hS hK K
      refine headStep (i := 11) rfl (by kernel_rfl) (fun K hK => ?_)
      refine step_append_nil rfl _ _ 23 rfl rfl rfl (app_nil c1w.heap.size _) ?_
      refine hK.out _ _ ⟨fun _ => HSK.out _ HKBx.out, fun hS => ?_⟩
      have hHeld := hS (by decide)
      clear hS hK K
      refine headStep (i := 12) rfl (by kernel_rfl) (fun K hK => ?_)
      go_simp
      refine hK.out _ _ ⟨fun _ => HSK.out _ HKBx.out, fun hS => ?_⟩
      clear hS hK K
      refine headStep (i := 13) rfl (by kernel_rfl) (fun K hK => ?_)
      go_simp
      refine hK.out _ _ ⟨fun h => absurd h (by decide), fun _ => ?_⟩
      clear hK K
      refine headDone (by kernel_rfl) ?_ _
      have HZ2 : Below (w.alloc zN).heap.size (w.alloc zN) c1w := HZ0.trans (HZ1.mono HZ0.size)
      go_wp2_with fail
      first | exact bodyPost_ret (v := .agg #[.int .i64 16, .string ⟨#[]⟩, .string ⟨#[]⟩, .int .u64 0, .slice (some ⟨c1w.heap.size, 0, none⟩) 1 1]) (by simp [results, Tryz.f36, go_sem, ka1, ka0, hz13, hz14, hz00]) rfl (NodePost.stored2 _ _ _ _ _ HZ2 (back_fin [m0] rfl HWF.out HZ2 rfl (fun i x y hx hy => by match i with | 0 => (simp at hx hy; subst hx hy; exact ⟨_, HS0.out, (Hl0.out).below HZ1⟩) | _ + 1 => simp at hx))) | exact bodyPost_ret (v := .agg #[.int .i64 16, .string ⟨#[]⟩, .string ⟨#[]⟩, .int .u64 0, .slice (some ⟨c1w.heap.size, 0, none⟩) 1 1]) (by simp [results, Tryz.f36, go_sem, ka1, ka0, hz13, hz14, hz00]) rfl (NodePost.stored _ _ _ _ _ (back_fin [m0] rfl HWF.out HZ2 rfl (fun i x y hx hy => by match i with | 0 => (simp at hx hy; subst hx hy; exact ⟨_, HS0.out, (Hl0.out).below HZ1⟩) | _ + 1 => simp at hx)))

set_option maxRecDepth 100000 in
set_option maxHeartbeats 2000000 in
theorem nd_28 (d : Nat) (hN : NodeC d) (e : Nat) (A : Nat → Prop) (n : Nd) (b : Nat) (w : World) (hG : PreD (e + 1) n) (hW : WfN n) (hR : RepD A (d + 1) w n b) (hk : n.kind = 28) (hr : 1 < n.kids.length) (hm : (n.kid 0).kind ≠ 0) :
    Calls Tryz.prog 36 #[.iface (pTy n.kind) (.pointer (some ⟨b, 0, none⟩))] w (NodePost n w) := by
  obtain ⟨k, t, m, u, ao, cap, kids⟩ := n
  obtain rfl : k = 28 := hk
  have hn0 : (Nd.mk 28 t m u ao cap kids).kind ≠ 0 := by show (28 : Int) ≠ 0; decide
  have hn1 : (Nd.mk 28 t m u ao cap kids).kind ≠ 1 := by show (28 : Int) ≠ 1; decide
  have hPl := (hG.fit hn0).2.2.1
  have HWF := Lib.hid hW.wf
  obtain rfl : t = ⟨#[]⟩ := hPl.1 (show hasText 28 = false by decide)
  obtain rfl : u = 0 := hPl.2.1 (show hasNum 28 = false by decide)
  obtain rfl : m = ⟨#[]⟩ := hPl.2.2.1 (show (28 : Int) ≠ 2 by decide) (show (28 : Int) ≠ 3 by decide)
  have hln : 1 ≤ kids.length := by
    have h1 := ((hG.fit hn0).2.2.2.1 hn1).1
    rw [show (fixedL (Nd.kind (.mk 28 ⟨#[]⟩ ⟨#[]⟩ 0 ao cap kids))).length = 1 from by show (fixedL 28).length = 1; decide] at h1
    exact h1
  obtain ⟨x0, rest, rfl⟩ : ∃ x0 rest, kids = x0 :: rest := by
    cases kids with
    | nil => simp at hln
    | cons x0 rest => exact ⟨x0, rest, rfl⟩
  obtain ⟨hP0, hC0⟩ := hG.kid (i := 0) (x := x0) hn0 rfl
  have hr1 : 1 ≤ rest.length := by have : 1 < (x0 :: rest).length := hr; simp at this; omega
  have hks : ∀ x ∈ rest, GoodW e x ∧ x.kind = 29 := by
    intro x hx
    obtain ⟨i, hi, e1⟩ := List.mem_iff_getElem.1 hx
    have hx2 : (x0 :: rest)[i + 1]? = some x := by rw [List.getElem?_cons_succ, List.getElem?_eq_getElem hi, e1]
    obtain ⟨hP, hC⟩ := hG.kid (i := i + 1) (x := x) hn0 hx2
    have hC1 := hC hn1
    have e1 : (fixedL 28).getD (i + 1) (restL 28) = restL 28 := by rw [show fixedL 28 = [4] from by decide]; simp
    have hC2 : ofClassB x (restL 28) = true := by rw [← e1]; exact hC1
    have hkx : x.kind = 29 := by have := class_few [29] rfl hC2; simpa using this
    exact ⟨⟨hP.good (by rw [hkx]; decide), hW.kid (i := i + 1) hx2⟩, hkx⟩
  have hsm : rest.length ≤ 1000 := by have := hG.small; simp only [Nd.kids, List.length_cons] at this; omega
  have HKS := Lib.hid hks
  have HSM := Lib.hid hsm
  have hx0 : x0.kind ≠ 0 := hm
  have hf0 : x0.kind ∈ ([33, 0] : List Int) := class_few [33, 0] rfl (hC0 hn1)
  have hk0 : x0.kind = 33 := by
    have h := hf0
    simp at h
    omega
  have HG0 := Lib.hid (show GoodW e x0 from ⟨hP0.good (by rw [hk0]; decide), hW.kid (i := 0) rfl⟩)
  have HK0 := Lib.hid hk0
  obtain ⟨hA, cs, hb, hs⟩ := hR
  rw [slots_28 _ rfl] at hs
  match cs, hs with
  | [v0, v1, v2, v3, v4, v5, v6], ⟨e0, e1, e2, e3, e4, e5, e6, _⟩ =>
    obtain ⟨aoL, capL, hv, hHL⟩ := HeldList.of (ptr := true) (R := RepD A d) (ns := rest) (v := v5) (w := w) (A := A) e5
    subst hv
    have HHL := Lib.hid hHL
    have c5 : w.cell? ⟨b, 5, none⟩ = some (.slice aoL rest.length capL) := by rw [Lib.cell_of_heap hb]; rfl
    obtain ⟨b0, rfl, hR0⟩ : PtrTo (RepD A d) w x0 v4 := by
      rcases e4 with e | e
      · exact absurd e.1 hx0
      · exact e.2
    have HR0 := Lib.hid hR0
    have c4 : w.cell? ⟨b, 4, none⟩ = some (.pointer (some ⟨b0, 0, none⟩)) := by rw [Lib.cell_of_heap hb]; rfl
    have hblt : b < w.heap.size := World.block_lt_of_cell? _ _ c5
    have hbne : ¬ b = w.heap.size := by omega
    have hbne2 : ¬ w.heap.size = b := by omega
    obtain ⟨i0, hi, hz0, hz1, hz2⟩ := info_parts infoNode
    rw [show pTy (Nd.kind (.mk 28 ⟨#[]⟩ ⟨#[]⟩ 0 ao cap (x0 :: rest))) = 92 from ptrTy_28]
    clear hn0 hn1 hPl hln hG hW hA hb hP0 hC0 hr hks hsm hHL
    have q2 := no_2 92 (by decide)
    have q3 := no_3 92 (by decide)
    have q4 := no_4 92 (by decide)
    have q5 := no_5 92 (by decide)
    have q6 := no_6 92 (by decide)
    have q7 := no_7 92 (by decide)
    have q8 := no_8 92 (by decide)
    have q9 := no_9 92 (by decide)
    have q10 := no_10 92 (by decide)
    have q11 := no_11 92 (by decide)
    have q12 := no_12 92 (by decide)
    have q13 := no_13 92 (by decide)
    have q14 := no_14 92 (by decide)
    have q15 := no_15 92 (by decide)
    have q16 := no_16 92 (by decide)
    have q17 := no_17 92 (by decide)
    have q18 := no_18 92 (by decide)
    have q19 := no_19 92 (by decide)
    have q20 := no_20 92 (by decide)
    have q21 := no_21 92 (by decide)
    have q22 := no_22 92 (by decide)
    have q23 := no_23 92 (by decide)
    have q24 := no_24 92 (by decide)
    have q25 := no_25 92 (by decide)
    have q26 := no_26 92 (by decide)
    have q27 := no_27 92 (by decide)
    have q28 := yes_28
    go_enter Tryz.func36, Tryz.ntmps36
    go_wp2_with fail
    have hS0 : ((w.alloc zN).cell? ⟨b, 4, none⟩ = some (.pointer (some ⟨b0, 0, none⟩)) ∧ (w.alloc zN).cell? ⟨b, 5, none⟩ = some (.slice aoL rest.length capL)) := ⟨by rw [((Below.refl w.heap.size w).alloc (Nat.le_refl _) zN).cell (p := ⟨b, 4, none⟩) hblt]; exact c4, by rw [((Below.refl w.heap.size w).alloc (Nat.le_refl _) zN).cell (p := ⟨b, 5, none⟩) hblt]; exact c5⟩
    have HSK := Lib.hid (show ∀ W' : World, (∀ o, W'.cell? ⟨b, o, none⟩ = w.cell? ⟨b, o, none⟩) → (W'.cell? ⟨b, 4, none⟩ = some (.pointer (some ⟨b0, 0, none⟩)) ∧ W'.cell? ⟨b, 5, none⟩ = some (.slice aoL rest.length capL)) from fun W' h => ⟨(h _).trans c4, (h _).trans c5⟩)
    refine headBegin (S := fun w' => (w'.cell? ⟨b, 4, none⟩ = some (.pointer (some ⟨b0, 0, none⟩)) ∧ w'.cell? ⟨b, 5, none⟩ = some (.slice aoL rest.length capL))) 13 (by kernel_rfl) hS0 (fun hHeld => ?_)
    clear hS0
    refine headTake (i := 0) (v := ?_) rfl (by kernel_rfl) (by kernel_rfl) (by kernel_rfl) (by kernel_rfl) (fun _ _ _ h => h) (Or.inl ⟨by rfl, ?_⟩) hHeld ?_
    rotate_left 1
    · intro w hSw
      go_split_ands
      go_simp
      try with_reducible rfl
    simp only [List.getElem_toArray, List.getElem_cons_zero, List.getElem_cons_succ, Act.put, List.setIfInBounds_toArray, List.set_cons_zero, List.set_cons_succ]
    refine headTake (i := 1) (v := ?_) rfl (by kernel_rfl) (by kernel_rfl) (by kernel_rfl) (by kernel_rfl) (fun _ _ _ h => h) (Or.inl ⟨by rfl, ?_⟩) hHeld ?_
    rotate_left 1
    · intro w hSw
      go_split_ands
      go_simp
      try with_reducible rfl
    simp only [List.getElem_toArray, List.getElem_cons_zero, List.getElem_cons_succ, Act.put, List.setIfInBounds_toArray, List.set_cons_zero, List.set_cons_succ]
    refine headTake (i := 2) (v := ?_) rfl (by kernel_rfl) (by kernel_rfl) (by kernel_rfl) (by kernel_rfl) (fun _ _ _ h => h) (Or.inl ⟨by rfl, ?_⟩) hHeld ?_
    rotate_left 1
    · intro w hSw
      go_split_ands
      go_simp
      try with_reducible rfl
    simp only [List.getElem_toArray, List.getElem_cons_zero, List.getElem_cons_succ, Act.put, List.setIfInBounds_toArray, List.set_cons_zero, List.set_cons_succ]
    refine headTake (i := 3) (v := ?_) rfl (by kernel_rfl) (by kernel_rfl) (by kernel_rfl) (by kernel_rfl) (fun _ _ _ h => h) (Or.inl ⟨by rfl, ?_⟩) hHeld ?_
    rotate_left 1
    · intro w hSw
      go_split_ands
      go_simp
      try with_reducible rfl
    simp only [List.getElem_toArray, List.getElem_cons_zero, List.getElem_cons_succ, Act.put, List.setIfInBounds_toArray, List.set_cons_zero, List.set_cons_succ]
    refine headTake (i := 6) (v := ?_) rfl (by kernel_rfl) (by kernel_rfl) (by kernel_rfl) (by kernel_rfl) (fun _ _ _ h => h) (Or.inl ⟨by rfl, ?_⟩) hHeld ?_
    rotate_left 1
    · intro w hSw
      go_split_ands
      go_simp
      try with_reducible rfl
    simp only [List.getElem_toArray, List.getElem_cons_zero, List.getElem_cons_succ, Act.put, List.setIfInBounds_toArray, List.set_cons_zero, List.set_cons_succ]
    refine headTake (i := 7) (v := ?_) rfl (by kernel_rfl) (by kernel_rfl) (by kernel_rfl) (by kernel_rfl) (fun _ _ _ h => h) (Or.inl ⟨by rfl, ?_⟩) hHeld ?_
    rotate_left 1
    · intro w hSw
      go_split_ands
      go_simp
      try with_reducible rfl
    simp only [List.getElem_toArray, List.getElem_cons_zero, List.getElem_cons_succ, Act.put, List.setIfInBounds_toArray, List.set_cons_zero, List.set_cons_succ]
    refine headTake (i := 8) (v := ?_) rfl (by kernel_rfl) (by kernel_rfl) (by kernel_rfl) (by kernel_rfl) (fun _ _ _ h => h) (Or.inl ⟨by rfl, ?_⟩) hHeld ?_
    rotate_left 1
    · intro w hSw
      go_split_ands
      go_simp
      try with_reducible rfl
    simp only [List.getElem_toArray, List.getElem_cons_zero, List.getElem_cons_succ, Act.put, List.setIfInBounds_toArray, List.set_cons_zero, List.set_cons_succ]
    refine headTake (i := 9) (v := ?_) rfl (by kernel_rfl) (by kernel_rfl) (by kernel_rfl) (by kernel_rfl) (fun _ _ _ h => h) (Or.inl ⟨by rfl, ?_⟩) hHeld ?_
    rotate_left 1
    · intro w hSw
      go_split_ands
      go_simp
      try with_reducible rfl
    simp only [List.getElem_toArray, List.getElem_cons_zero, List.getElem_cons_succ, Act.put, List.setIfInBounds_toArray, List.set_cons_zero, List.set_cons_succ]
    refine headStep (i := 4) rfl (by kernel_rfl) (fun K hK => ?_)
    go_simp
    go_at_call 93
    refine (orNone_33 d hN e A x0 b0 _ HG0.out (HR0.out.below (Below.drew ((Below.refl _ _).alloc (Nat.le_refl _) _))) HK0.out).mono ?_
    rintro e c0w ⟨E0, m0, rfl, hS0, hl0, hb0⟩
    have HZ0 : Below (w.alloc zN).heap.size (w.alloc zN) c0w := (Below.drew (Below.refl _ _)).trans (hb0.mono (by simp))
    have HY0 : Below w.heap.size w c0w := ((Below.refl w.heap.size w).alloc (Nat.le_refl _) zN).trans (HZ0.mono (by simp))
    have hz00 : w.heap.size < c0w.heap.size := (by have := Below.size HZ0; (try simp at this); omega)
    obtain ⟨kb0, -⟩ := bblk HY0 (b := b) hblt
    obtain ⟨ka0, fa0⟩ := bblk HZ0 (b := w.heap.size) (by simp)
    unfold zN at ka0 fa0
    have HS0 := Lib.hid hS0
    have Hl0 : Hid (LiesIn (From (w.alloc zN).heap.size) E0 c0w m0) := Lib.hid (by have h := hl0; simpa using h)
    clear hS0 hl0
    have HKB0 := Lib.hid kb0
    refine hK.out _ _ ⟨fun _ => HSK.out _ HKB0.out, fun hS => ?_⟩
    have hHeld := hS (by decide)
    clear hS hK K hb0
    refine headStep2 (i := 5) (j := 10) rfl rfl (by kernel_rfl) (fun K hK => ?_) (fun K hK => ?_)
    · go_simp
      have HKBx := Lib.hid (show ∀ o, World.cell? (c0w.alloc (.cells (Nd.cells5 m0).toArray 25)) ⟨b, o, none⟩ = w.cell? ⟨b, o, none⟩ from fun o => (((Below.refl c0w.heap.size c0w).alloc (Nat.le_refl _) (.cells (Nd.cells5 m0).toArray 25)).cell (p := ⟨b, o, none⟩) (show b < _ by omega)).trans (HKB0.out o))
      refine hK.out _ _ ⟨fun _ => HSK.out _ HKBx.out, fun hS => ?_⟩
      have hHeld := hS (by decide)
      clear hS hK K
      refine headStep (i := 10) rfl (by kernel_rfl) (fun K hK => ?_)
      go_simp
      go_at_call 101
      refine (listProperty d hN e A rest aoL capL _ HSM.out (HHL.out.below (HY0.alloc HY0.size (.cells (Nd.cells5 m0).toArray 25))) HKS.out).mono ?_
      rintro e c1w ⟨D1, ao3, cap3, ms, rfl, hlm, hss, hli, hb1⟩
      obtain ⟨bq, oq, rfl⟩ : ∃ bq oq, ao3 = some ⟨bq, oq, none⟩ := list_some hli (by omega)
      have HLM := Lib.hid hlm
      have HSS := Lib.hid hss
      have HLI : Hid (ListIn (From (c0w.heap.size + 1)) D1 c1w (some ⟨bq, oq, none⟩) ms) := Lib.hid (by have h := hli; simpa using h)
      clear hlm hss hli
      have HB1 : Below (c0w.alloc (.cells (Nd.cells5 m0).toArray 25)).heap.size (c0w.alloc (.cells (Nd.cells5 m0).toArray 25)) c1w := hb1
      have HZ1 : Below c0w.heap.size c0w c1w := ((Below.refl c0w.heap.size c0w).alloc (Nat.le_refl _) (.cells (Nd.cells5 m0).toArray 25)).trans (HB1.mono (by simp))
      have hz11 : c0w.heap.size ≤ c1w.heap.size := HZ1.size
      have hz13 : w.heap.size < c1w.heap.size := by omega
      have hz14 : ¬ w.heap.size = c1w.heap.size := by omega
      have HBK : Hid (c1w.heap[c0w.heap.size]? = some (.cells (Nd.cells5 m0).toArray 25 (0, 0))) := Lib.hid (by rw [HB1.block c0w.heap.size (by simp)]; exact heap_alloc_new c0w _)
      have hz12 : c0w.heap.size < c1w.heap.size := by have := HB1.size; simp at this; omega
      obtain ⟨kb1, -⟩ := bblk HZ1 (b := b) (by omega)
      obtain ⟨ka1, fa1⟩ := bblk HZ1 (b := w.heap.size) (by omega)
      have HKB1 := Lib.hid (show ∀ o, World.cell? c1w ⟨b, o, none⟩ = w.cell? ⟨b, o, none⟩ from fun o => (kb1 o).trans (HKB0.out o))
      refine hK.out _ _ ⟨fun _ => HSK.out _ HKB1.out, fun hS => ?_⟩
      have hHeld := hS (by decide)
      clear hS hK K hb1
      refine headStep (i := 11) rfl (by kernel_rfl) (fun K hK => ?_)
      refine step_append_lies _ rfl _ _ 23 rfl (w.heap.size + 1) 25 i0 _ 5 72 undNodes hi hz0 hz1 hz2 rfl (by decide) (.slice (some ⟨c0w.heap.size, 0, none⟩) 1 1) 1 (Nd.cells5 m0) rfl (one_row (B := w.heap.size + 1) HBK.out (by omega)) ⟨bq, oq, none⟩ rest.length cap3 (ms.flatMap Nd.cells5) rfl (by rw [cells5_len, HLM.out]) (list_news HLI.out) (cells5_one ms) (by omega) (by have := HSM.out; unfold maxLen; omega) (by have := HSM.out; omega) (by first | omega | (simp; omega)) _ rfl ?_
      intro g cap2 w2 hown' hgrow hat hglt
      have HKB2 := Lib.hid (show ∀ o, World.cell? w2 ⟨b, o, none⟩ = w.cell? ⟨b, o, none⟩ from fun o => (hgrow.cell_far ⟨b, o, none⟩ (by first | (show b < _; omega) | (simp; omega)) (by simp [Value.ownBlock]; omega)).trans (HKB1.out o))
      have kg := fun o => hgrow.cell_far ⟨w.heap.size, o, none⟩ (by first | (show w.heap.size < _; omega) | (simp; omega)) (by simp [Value.ownBlock]; omega)
      have fg := fun o => hgrow.frozen_far ⟨w.heap.size, o, none⟩ (by first | (show w.heap.size < _; omega) | (simp; omega)) (by simp [Value.ownBlock]; omega)
      have HOWN := Lib.hid hown'
      have HGR := Lib.hid hgrow
      clear hown' hgrow hat hglt
      refine hK.out _ _ ⟨fun _ => HSK.out _ HKB2.out, fun hS => ?_⟩
      have hHeld := hS (by decide)
      clear hS hK K
      refine headStep (i := 12) rfl (by kernel_rfl) (fun K hK => ?_)
      go_simp
      refine hK.out _ _ ⟨fun _ => HSK.out _ HKB2.out, fun hS => ?_⟩
      clear hS hK K
      refine headStep (i := 13) rfl (by kernel_rfl) (fun K hK => ?_)
      go_simp
      refine hK.out _ _ ⟨fun h => absurd h (by decide), fun _ => ?_⟩
      clear hK K
      refine headDone (by kernel_rfl) ?_ _
      go_wp2_with fail
      exact bodyPost_ret (v := .agg #[.int .i64 28, .string ⟨#[]⟩, .string ⟨#[]⟩, .int .u64 0, .slice (some ⟨g, 0, none⟩) (1 + rest.length) cap2]) (by simp [results, Tryz.f36, go_sem, kg, ka1, ka0, hz13, hz14, hz00]) rfl (NodePost.stored _ _ _ _ _ (call_row1 (w0 := w.alloc zN) HWF.out HLM.out HZ0 HZ1 HS0.out Hl0.out HSS.out HLI.out (by have h := HOWN.out; simpa using h) (by omega) HGR.out))
    · go_simp
      go_at_call 101
      refine (listProperty d hN e A rest aoL capL _ HSM.out (HHL.out.below HY0) HKS.out).mono ?_
      rintro e c1w ⟨D1, ao3, cap3, ms, rfl, hlm, hss, hli, hb1⟩
      obtain ⟨bq, oq, rfl⟩ : ∃ bq oq, ao3 = some ⟨bq, oq, none⟩ := list_some hli (by omega)
      have HLM := Lib.hid hlm
      have HSS := Lib.hid hss
      have HLI : Hid (ListIn (From (c0w.heap.size)) D1 c1w (some ⟨bq, oq, none⟩) ms) := Lib.hid (by have h := hli; simpa using h)
      clear hlm hss hli
      have HB1 : Below c0w.heap.size c0w c1w := hb1
      have HZ1 : Below c0w.heap.size c0w c1w := HB1
      have hz11 : c0w.heap.size ≤ c1w.heap.size := HZ1.size
      have hz13 : w.heap.size < c1w.heap.size := by omega
      have hz14 : ¬ w.heap.size = c1w.heap.size := by omega
      obtain ⟨kb1, -⟩ := bblk HZ1 (b := b) (by omega)
      obtain ⟨ka1, fa1⟩ := bblk HZ1 (b := w.heap.size) (by omega)
      have HKB1 := Lib.hid (show ∀ o, World.cell? c1w ⟨b, o, none⟩ = w.cell? ⟨b, o, none⟩ from fun o => (kb1 o).trans (HKB0.out o))
      refine hK.out _ _ ⟨fun _ => HSK.out _ HKB1.out, fun hS => ?_⟩
      have hHeld := hS (by decide)
      clear hS hK K hb1
      refine headStep (i := 5) rfl (by kernel_rfl) (fun K hK => ?_)
      go_simp
      have HKBx := Lib.hid (show ∀ o, World.cell? (c1w.alloc (.cells (Nd.cells5 m0).toArray 25)) ⟨b, o, none⟩ = w.cell? ⟨b, o, none⟩ from fun o => (((Below.refl c1w.heap.size c1w).alloc (Nat.le_refl _) (.cells (Nd.cells5 m0).toArray 25)).cell (p := ⟨b, o, none⟩) (show b < _ by omega)).trans (HKB1.out o))
      refine hK.out _ _ ⟨fun _ => HSK.out _ HKBx.out, fun hS => ?_⟩
      have hHeld := hS (by decide)
      clear hS hK K
      refine headStep (i := 11) rfl (by kernel_rfl) (fun K hK => ?_)
      refine step_append_lies _ rfl _ _ 23 rfl (w.heap.size + 1) 25 i0 _ 5 72 undNodes hi hz0 hz1 hz2 rfl (by decide) (.slice (some ⟨c1w.heap.size, 0, none⟩) 1 1) 1 (Nd.cells5 m0) rfl (one_row (B := w.heap.size + 1) (m := m0) (heap_alloc_new c1w (.cells (Nd.cells5 m0).toArray 25)) (by omega)) ⟨bq, oq, none⟩ rest.length cap3 (ms.flatMap Nd.cells5) rfl (by rw [cells5_len, HLM.out]) (list_news (HLI.out.carry (Carries.of_below ((Below.refl c1w.heap.size c1w).alloc (Nat.le_refl _) (.cells (Nd.cells5 m0).toArray 25))))) (cells5_one ms) (by omega) (by have := HSM.out; unfold maxLen; omega) (by have := HSM.out; omega) (by first | omega | (simp; omega)) _ rfl ?_
      intro g cap2 w2 hown' hgrow hat hglt
      have HKB2 := Lib.hid (show ∀ o, World.cell? w2 ⟨b, o, none⟩ = w.cell? ⟨b, o, none⟩ from fun o => (hgrow.cell_far ⟨b, o, none⟩ (by first | (show b < _; omega) | (simp; omega)) (by simp [Value.ownBlock]; omega)).trans (HKBx.out o))
      have kg := fun o => hgrow.cell_far ⟨w.heap.size, o, none⟩ (by first | (show w.heap.size < _; omega) | (simp; omega)) (by simp [Value.ownBlock]; omega)
      have fg := fun o => hgrow.frozen_far ⟨w.heap.size, o, none⟩ (by first | (show w.heap.size < _; omega) | (simp; omega)) (by simp [Value.ownBlock]; omega)
      have HOWN := Lib.hid hown'
      have HGR := Lib.hid hgrow
      clear hown' hgrow hat hglt
      refine hK.out _ _ ⟨fun _ => HSK.out _ HKB2.out, fun hS => ?_⟩
      have hHeld := hS (by decide)
      clear hS hK K
      refine headStep (i := 12) rfl (by kernel_rfl) (fun K hK => ?_)
      go_simp
      refine hK.out _ _ ⟨fun _ => HSK.out _ HKB2.out, fun hS => ?_⟩
      clear hS hK K
      refine headStep (i := 13) rfl (by kernel_rfl) (fun K hK => ?_)
      go_simp
      refine hK.out _ _ ⟨fun h => absurd h (by decide), fun _ => ?_⟩
      clear hK K
      refine headDone (by kernel_rfl) ?_ _
      go_wp2_with fail
      exact bodyPost_ret (v := .agg #[.int .i64 28, .string ⟨#[]⟩, .string ⟨#[]⟩, .int .u64 0, .slice (some ⟨g, 0, none⟩) (1 + rest.length) cap2]) (by simp [results, Tryz.f36, go_sem, kg, ka1, ka0, hz13, hz14, hz00]) rfl (NodePost.stored _ _ _ _ _ (call_row (w0 := w.alloc zN) HWF.out HLM.out HZ0 HZ1 HS0.out Hl0.out HSS.out HLI.out (by have h := HOWN.out; simpa using h) (by omega) HGR.out))

set_option maxRecDepth 100000 in
set_option maxHeartbeats 2000000 in
theorem nd_28_none (d : Nat) (hN : NodeC d) (e : Nat) (A : Nat → Prop) (n : Nd) (b : Nat) (w : World) (hG : PreD (e + 1) n) (hW : WfN n) (hR : RepD A (d + 1) w n b) (hk : n.kind = 28) (hr : 1 < n.kids.length) (hm : (n.kid 0).kind = 0) :
    Calls Tryz.prog 36 #[.iface (pTy n.kind) (.pointer (some ⟨b, 0, none⟩))] w (NodePost n w) := by
  obtain ⟨k, t, m, u, ao, cap, kids⟩ := n
  obtain rfl : k = 28 := hk
  have hn0 : (Nd.mk 28 t m u ao cap kids).kind ≠ 0 := by show (28 : Int) ≠ 0; decide
  have hn1 : (Nd.mk 28 t m u ao cap kids).kind ≠ 1 := by show (28 : Int) ≠ 1; decide
  have hPl := (hG.fit hn0).2.2.1
  have HWF := Lib.hid hW.wf
  obtain rfl : t = ⟨#[]⟩ := hPl.1 (show hasText 28 = false by decide)
  obtain rfl : u = 0 := hPl.2.1 (show hasNum 28 = false by decide)
  obtain rfl : m = ⟨#[]⟩ := hPl.2.2.1 (show (28 : Int) ≠ 2 by decide) (show (28 : Int) ≠ 3 by decide)
  have hln : 1 ≤ kids.length := by
    have h1 := ((hG.fit hn0).2.2.2.1 hn1).1
    rw [show (fixedL (Nd.kind (.mk 28 ⟨#[]⟩ ⟨#[]⟩ 0 ao cap kids))).length = 1 from by show (fixedL 28).length = 1; decide] at h1
    exact h1
  obtain ⟨x0, rest, rfl⟩ : ∃ x0 rest, kids = x0 :: rest := by
    cases kids with
    | nil => simp at hln
    | cons x0 rest => exact ⟨x0, rest, rfl⟩
  obtain ⟨hP0, hC0⟩ := hG.kid (i := 0) (x := x0) hn0 rfl
  have hr1 : 1 ≤ rest.length := by have : 1 < (x0 :: rest).length := hr; simp at this; omega
  have hks : ∀ x ∈ rest, GoodW e x ∧ x.kind = 29 := by
    intro x hx
    obtain ⟨i, hi, e1⟩ := List.mem_iff_getElem.1 hx
    have hx2 : (x0 :: rest)[i + 1]? = some x := by rw [List.getElem?_cons_succ, List.getElem?_eq_getElem hi, e1]
    obtain ⟨hP, hC⟩ := hG.kid (i := i + 1) (x := x) hn0 hx2
    have hC1 := hC hn1
    have e1 : (fixedL 28).getD (i + 1) (restL 28) = restL 28 := by rw [show fixedL 28 = [4] from by decide]; simp
    have hC2 : ofClassB x (restL 28) = true := by rw [← e1]; exact hC1
    have hkx : x.kind = 29 := by have := class_few [29] rfl hC2; simpa using this
    exact ⟨⟨hP.good (by rw [hkx]; decide), hW.kid (i := i + 1) hx2⟩, hkx⟩
  have hsm : rest.length ≤ 1000 := by have := hG.small; simp only [Nd.kids, List.length_cons] at this; omega
  have HKS := Lib.hid hks
  have HSM := Lib.hid hsm
  have hx0 : x0.kind = 0 := hm
  have HX0 := Lib.hid (And.intro hx0 (hP0.none0 hx0))
  obtain ⟨hA, cs, hb, hs⟩ := hR
  rw [slots_28 _ rfl] at hs
  match cs, hs with
  | [v0, v1, v2, v3, v4, v5, v6], ⟨e0, e1, e2, e3, e4, e5, e6, _⟩ =>
    obtain ⟨aoL, capL, hv, hHL⟩ := HeldList.of (ptr := true) (R := RepD A d) (ns := rest) (v := v5) (w := w) (A := A) e5
    subst hv
    have HHL := Lib.hid hHL
    have c5 : w.cell? ⟨b, 5, none⟩ = some (.slice aoL rest.length capL) := by rw [Lib.cell_of_heap hb]; rfl
    obtain rfl : v4 = .pointer none := by
      rcases e4 with e | e
      · exact e.2
      · exact absurd hx0 e.1
    have c4 : w.cell? ⟨b, 4, none⟩ = some (.pointer none) := by rw [Lib.cell_of_heap hb]; rfl
    have hblt : b < w.heap.size := World.block_lt_of_cell? _ _ c5
    have hbne : ¬ b = w.heap.size := by omega
    have hbne2 : ¬ w.heap.size = b := by omega
    obtain ⟨i0, hi, hz0, hz1, hz2⟩ := info_parts infoNode
    rw [show pTy (Nd.kind (.mk 28 ⟨#[]⟩ ⟨#[]⟩ 0 ao cap (x0 :: rest))) = 92 from ptrTy_28]
    clear hn0 hn1 hPl hln hG hW hA hb hP0 hC0 hr hks hsm hHL
    have q2 := no_2 92 (by decide)
    have q3 := no_3 92 (by decide)
    have q4 := no_4 92 (by decide)
    have q5 := no_5 92 (by decide)
    have q6 := no_6 92 (by decide)
    have q7 := no_7 92 (by decide)
    have q8 := no_8 92 (by decide)
    have q9 := no_9 92 (by decide)
    have q10 := no_10 92 (by decide)
    have q11 := no_11 92 (by decide)
    have q12 := no_12 92 (by decide)
    have q13 := no_13 92 (by decide)
    have q14 := no_14 92 (by decide)
    have q15 := no_15 92 (by decide)
    have q16 := no_16 92 (by decide)
    have q17 := no_17 92 (by decide)
    have q18 := no_18 92 (by decide)
    have q19 := no_19 92 (by decide)
    have q20 := no_20 92 (by decide)
    have q21 := no_21 92 (by decide)
    have q22 := no_22 92 (by decide)
    have q23 := no_23 92 (by decide)
    have q24 := no_24 92 (by decide)
    have q25 := no_25 92 (by decide)
    have q26 := no_26 92 (by decide)
    have q27 := no_27 92 (by decide)
    have q28 := yes_28
    go_enter Tryz.func36, Tryz.ntmps36
    go_wp2_with fail
    have hS0 : ((w.alloc zN).cell? ⟨b, 4, none⟩ = some (.pointer none) ∧ (w.alloc zN).cell? ⟨b, 5, none⟩ = some (.slice aoL rest.length capL)) := ⟨by rw [((Below.refl w.heap.size w).alloc (Nat.le_refl _) zN).cell (p := ⟨b, 4, none⟩) hblt]; exact c4, by rw [((Below.refl w.heap.size w).alloc (Nat.le_refl _) zN).cell (p := ⟨b, 5, none⟩) hblt]; exact c5⟩
    have HSK := Lib.hid (show ∀ W' : World, (∀ o, W'.cell? ⟨b, o, none⟩ = w.cell? ⟨b, o, none⟩) → (W'.cell? ⟨b, 4, none⟩ = some (.pointer none) ∧ W'.cell? ⟨b, 5, none⟩ = some (.slice aoL rest.length capL)) from fun W' h => ⟨(h _).trans c4, (h _).trans c5⟩)
    refine headBegin (S := fun w' => (w'.cell? ⟨b, 4, none⟩ = some (.pointer none) ∧ w'.cell? ⟨b, 5, none⟩ = some (.slice aoL rest.length capL))) 13 (by kernel_rfl) hS0 (fun hHeld => ?_)
    clear hS0
    refine headTake (i := 0) (v := ?_) rfl (by kernel_rfl) (by kernel_rfl) (by kernel_rfl) (by kernel_rfl) (fun _ _ _ h => h) (Or.inl ⟨by rfl, ?_⟩) hHeld ?_
    rotate_left 1
    · intro w hSw
      go_split_ands
      go_simp
      try with_reducible rfl
    simp only [List.getElem_toArray, List.getElem_cons_zero, List.getElem_cons_succ, Act.put, List.setIfInBounds_toArray, List.set_cons_zero, List.set_cons_succ]
    refine headTake (i := 1) (v := ?_) rfl (by kernel_rfl) (by kernel_rfl) (by kernel_rfl) (by kernel_rfl) (fun _ _ _ h => h) (Or.inl ⟨by rfl, ?_⟩) hHeld ?_
    rotate_left 1
    · intro w hSw
      go_split_ands
      go_simp
      try with_reducible rfl
    simp only [List.getElem_toArray, List.getElem_cons_zero, List.getElem_cons_succ, Act.put, List.setIfInBounds_toArray, List.set_cons_zero, List.set_cons_succ]
    refine headTake (i := 2) (v := ?_) rfl (by kernel_rfl) (by kernel_rfl) (by kernel_rfl) (by kernel_rfl) (fun _ _ _ h => h) (Or.inl ⟨by rfl, ?_⟩) hHeld ?_
    rotate_left 1
    · intro w hSw
      go_split_ands
      go_simp
      try with_reducible rfl
    simp only [List.getElem_toArray, List.getElem_cons_zero, List.getElem_cons_succ, Act.put, List.setIfInBounds_toArray, List.set_cons_zero, List.set_cons_succ]
    refine headTake (i := 3) (v := ?_) rfl (by kernel_rfl) (by kernel_rfl) (by kernel_rfl) (by kernel_rfl) (fun _ _ _ h => h) (Or.inl ⟨by rfl, ?_⟩) hHeld ?_
    rotate_left 1
    · intro w hSw
      go_split_ands
      go_simp
      try with_reducible rfl
    simp only [List.getElem_toArray, List.getElem_cons_zero, List.getElem_cons_succ, Act.put, List.setIfInBounds_toArray, List.set_cons_zero, List.set_cons_succ]
    refine headTake (i := 6) (v := ?_) rfl (by kernel_rfl) (by kernel_rfl) (by kernel_rfl) (by kernel_rfl) (fun _ _ _ h => h) (Or.inl ⟨by rfl, ?_⟩) hHeld ?_
    rotate_left 1
    · intro w hSw
      go_split_ands
      go_simp
      try with_reducible rfl
    simp only [List.getElem_toArray, List.getElem_cons_zero, List.getElem_cons_succ, Act.put, List.setIfInBounds_toArray, List.set_cons_zero, List.set_cons_succ]
    refine headTake (i := 7) (v := ?_) rfl (by kernel_rfl) (by kernel_rfl) (by kernel_rfl) (by kernel_rfl) (fun _ _ _ h => h) (Or.inl ⟨by rfl, ?_⟩) hHeld ?_
    rotate_left 1
    · intro w hSw
      go_split_ands
      go_simp
      try with_reducible rfl
    simp only [List.getElem_toArray, List.getElem_cons_zero, List.getElem_cons_succ, Act.put, List.setIfInBounds_toArray, List.set_cons_zero, List.set_cons_succ]
    refine headTake (i := 8) (v := ?_) rfl (by kernel_rfl) (by kernel_rfl) (by kernel_rfl) (by kernel_rfl) (fun _ _ _ h => h) (Or.inl ⟨by rfl, ?_⟩) hHeld ?_
    rotate_left 1
    · intro w hSw
      go_split_ands
      go_simp
      try with_reducible rfl
    simp only [List.getElem_toArray, List.getElem_cons_zero, List.getElem_cons_succ, Act.put, List.setIfInBounds_toArray, List.set_cons_zero, List.set_cons_succ]
    refine headTake (i := 9) (v := ?_) rfl (by kernel_rfl) (by kernel_rfl) (by kernel_rfl) (by kernel_rfl) (fun _ _ _ h => h) (Or.inl ⟨by rfl, ?_⟩) hHeld ?_
    rotate_left 1
    · intro w hSw
      go_split_ands
      go_simp
      try with_reducible rfl
    simp only [List.getElem_toArray, List.getElem_cons_zero, List.getElem_cons_succ, Act.put, List.setIfInBounds_toArray, List.set_cons_zero, List.set_cons_succ]
    refine headStep (i := 4) rfl (by kernel_rfl) (fun K hK => ?_)
    go_simp
    go_at_call 93
    refine (orNone_33_none _).mono ?_
    rintro e c0w ⟨rfl, hb0⟩
    have HZ0 : Below (w.alloc zN).heap.size (w.alloc zN) c0w := (Below.drew (Below.refl _ _)).trans (hb0.mono (by simp))
    have HY0 : Below w.heap.size w c0w := ((Below.refl w.heap.size w).alloc (Nat.le_refl _) zN).trans (HZ0.mono (by simp))
    have hz00 : w.heap.size < c0w.heap.size := (by have := Below.size HZ0; (try simp at this); omega)
    obtain ⟨kb0, -⟩ := bblk HY0 (b := b) hblt
    obtain ⟨ka0, fa0⟩ := bblk HZ0 (b := w.heap.size) (by simp)
    unfold zN at ka0 fa0
    have HKB0 := Lib.hid kb0
    refine hK.out _ _ ⟨fun _ => HSK.out _ HKB0.out, fun hS => ?_⟩
    have hHeld := hS (by decide)
    clear hS hK K hb0
    refine headStep2 (i := 5) (j := 10) rfl rfl (by kernel_rfl) (fun K hK => ?_) (fun K hK => ?_)
    · go_simp
      have HKBx := Lib.hid (show ∀ o, World.cell? (c0w.alloc (.cells (Nd.cells5 Nd.none).toArray 25)) ⟨b, o, none⟩ = w.cell? ⟨b, o, none⟩ from fun o => (((Below.refl c0w.heap.size c0w).alloc (Nat.le_refl _) (.cells (Nd.cells5 Nd.none).toArray 25)).cell (p := ⟨b, o, none⟩) (show b < _ by omega)).trans (HKB0.out o))
      refine hK.out _ _ ⟨fun _ => HSK.out _ HKBx.out, fun hS => ?_⟩
      have hHeld := hS (by decide)
      clear hS hK K
      refine headStep (i := 10) rfl (by kernel_rfl) (fun K hK => ?_)
      go_simp
      go_at_call 101
      refine (listProperty d hN e A rest aoL capL _ HSM.out (HHL.out.below (HY0.alloc HY0.size (.cells (Nd.cells5 Nd.none).toArray 25))) HKS.out).mono ?_
      rintro e c1w ⟨D1, ao3, cap3, ms, rfl, hlm, hss, hli, hb1⟩
      obtain ⟨bq, oq, rfl⟩ : ∃ bq oq, ao3 = some ⟨bq, oq, none⟩ := list_some hli (by omega)
      have HLM := Lib.hid hlm
      have HSS := Lib.hid hss
      have HLI : Hid (ListIn (From (c0w.heap.size + 1)) D1 c1w (some ⟨bq, oq, none⟩) ms) := Lib.hid (by have h := hli; simpa using h)
      clear hlm hss hli
      have HB1 : Below (c0w.alloc (.cells (Nd.cells5 Nd.none).toArray 25)).heap.size (c0w.alloc (.cells (Nd.cells5 Nd.none).toArray 25)) c1w := hb1
      have HZ1 : Below c0w.heap.size c0w c1w := ((Below.refl c0w.heap.size c0w).alloc (Nat.le_refl _) (.cells (Nd.cells5 Nd.none).toArray 25)).trans (HB1.mono (by simp))
      have hz11 : c0w.heap.size ≤ c1w.heap.size := HZ1.size
      have hz13 : w.heap.size < c1w.heap.size := by omega
      have hz14 : ¬ w.heap.size = c1w.heap.size := by omega
      have HBK : Hid (c1w.heap[c0w.heap.size]? = some (.cells (Nd.cells5 Nd.none).toArray 25 (0, 0))) := Lib.hid (by rw [HB1.block c0w.heap.size (by simp)]; exact heap_alloc_new c0w _)
      have hz12 : c0w.heap.size < c1w.heap.size := by have := HB1.size; simp at this; omega
      obtain ⟨kb1, -⟩ := bblk HZ1 (b := b) (by omega)
      obtain ⟨ka1, fa1⟩ := bblk HZ1 (b := w.heap.size) (by omega)
      have HKB1 := Lib.hid (show ∀ o, World.cell? c1w ⟨b, o, none⟩ = w.cell? ⟨b, o, none⟩ from fun o => (kb1 o).trans (HKB0.out o))
      refine hK.out _ _ ⟨fun _ => HSK.out _ HKB1.out, fun hS => ?_⟩
      have hHeld := hS (by decide)
      clear hS hK K hb1
      refine headStep (i := 11) rfl (by kernel_rfl) (fun K hK => ?_)
      refine step_append_lies _ rfl _ _ 23 rfl (w.heap.size + 1) 25 i0 _ 5 72 undNodes hi hz0 hz1 hz2 rfl (by decide) (.slice (some ⟨c0w.heap.size, 0, none⟩) 1 1) 1 (Nd.cells5 Nd.none) rfl (one_row (B := w.heap.size + 1) HBK.out (by omega)) ⟨bq, oq, none⟩ rest.length cap3 (ms.flatMap Nd.cells5) rfl (by rw [cells5_len, HLM.out]) (list_news HLI.out) (cells5_one ms) (by omega) (by have := HSM.out; unfold maxLen; omega) (by have := HSM.out; omega) (by first | omega | (simp; omega)) _ rfl ?_
      intro g cap2 w2 hown' hgrow hat hglt
      have HKB2 := Lib.hid (show ∀ o, World.cell? w2 ⟨b, o, none⟩ = w.cell? ⟨b, o, none⟩ from fun o => (hgrow.cell_far ⟨b, o, none⟩ (by first | (show b < _; omega) | (simp; omega)) (by simp [Value.ownBlock]; omega)).trans (HKB1.out o))
      have kg := fun o => hgrow.cell_far ⟨w.heap.size, o, none⟩ (by first | (show w.heap.size < _; omega) | (simp; omega)) (by simp [Value.ownBlock]; omega)
      have fg := fun o => hgrow.frozen_far ⟨w.heap.size, o, none⟩ (by first | (show w.heap.size < _; omega) | (simp; omega)) (by simp [Value.ownBlock]; omega)
      have HOWN := Lib.hid hown'
      have HGR := Lib.hid hgrow
      clear hown' hgrow hat hglt
      refine hK.out _ _ ⟨fun _ => HSK.out _ HKB2.out, fun hS => ?_⟩
      have hHeld := hS (by decide)
      clear hS hK K
      refine headStep (i := 12) rfl (by kernel_rfl) (fun K hK => ?_)
      go_simp
      refine hK.out _ _ ⟨fun _ => HSK.out _ HKB2.out, fun hS => ?_⟩
      clear hS hK K
      refine headStep (i := 13) rfl (by kernel_rfl) (fun K hK => ?_)
      go_simp
      refine hK.out _ _ ⟨fun h => absurd h (by decide), fun _ => ?_⟩
      clear hK K
      refine headDone (by kernel_rfl) ?_ _
      go_wp2_with fail
      exact bodyPost_ret (v := .agg #[.int .i64 28, .string ⟨#[]⟩, .string ⟨#[]⟩, .int .u64 0, .slice (some ⟨g, 0, none⟩) (1 + rest.length) cap2]) (by simp [results, Tryz.f36, go_sem, kg, ka1, ka0, hz13, hz14, hz00]) rfl (NodePost.stored _ _ _ _ _ (call_row1 (w0 := w.alloc zN) HWF.out HLM.out HZ0 HZ1 (none_same HX0.out.1 HX0.out.2) (none_lies _ _) HSS.out HLI.out (by have h := HOWN.out; simpa using h) (by omega) HGR.out))
    · go_simp
      go_at_call 101
      refine (listProperty d hN e A rest aoL capL _ HSM.out (HHL.out.below HY0) HKS.out).mono ?_
      rintro e c1w ⟨D1, ao3, cap3, ms, rfl, hlm, hss, hli, hb1⟩
      obtain ⟨bq, oq, rfl⟩ : ∃ bq oq, ao3 = some ⟨bq, oq, none⟩ := list_some hli (by omega)
      have HLM := Lib.hid hlm
      have HSS := Lib.hid hss
      have HLI : Hid (ListIn (From (c0w.heap.size)) D1 c1w (some ⟨bq, oq, none⟩) ms) := Lib.hid (by have h := hli; simpa using h)
      clear hlm hss hli
      have HB1 : Below c0w.heap.size c0w c1w := hb1
      have HZ1 : Below c0w.heap.size c0w c1w := HB1
      have hz11 : c0w.heap.size ≤ c1w.heap.size := HZ1.size
      have hz13 : w.heap.size < c1w.heap.size := by omega
      have hz14 : ¬ w.heap.size = c1w.heap.size := by omega
      obtain ⟨kb1, -⟩ := bblk HZ1 (b := b) (by omega)
      obtain ⟨ka1, fa1⟩ := bblk HZ1 (b := w.heap.size) (by omega)
      have HKB1 := Lib.hid (show ∀ o, World.cell? c1w ⟨b, o, none⟩ = w.cell? ⟨b, o, none⟩ from fun o => (kb1 o).trans (HKB0.out o))
      refine hK.out _ _ ⟨fun _ => HSK.out _ HKB1.out, fun hS => ?_⟩
      have hHeld := hS (by decide)
      clear hS hK K hb1
      refine headStep (i := 5) rfl (by kernel_rfl) (fun K hK => ?_)
      go_simp
      have HKBx := Lib.hid (show ∀ o, World.cell? (c1w.alloc (.cells (Nd.cells5 Nd.none).toArray 25)) ⟨b, o, none⟩ = w.cell? ⟨b, o, none⟩ from fun o => (((Below.refl c1w.heap.size c1w).alloc (Nat.le_refl _) (.cells (Nd.cells5 Nd.none).toArray 25)).cell (p := ⟨b, o, none⟩) (show b < _ by omega)).trans (HKB1.out o))
      refine hK.out _ _ ⟨fun _ => HSK.out _ HKBx.out, fun hS => ?_⟩
      have hHeld := hS (by decide)
      clear hS hK K
      refine headStep (i := 11) rfl (by kernel_rfl) (fun K hK => ?_)
      refine step_append_lies _ rfl _ _ 23 rfl (w.heap.size + 1) 25 i0 _ 5 72 undNodes hi hz0 hz1 hz2 rfl (by decide) (.slice (some ⟨c1w.heap.size, 0, none⟩) 1 1) 1 (Nd.cells5 Nd.none) rfl (one_row (B := w.heap.size + 1) (m := Nd.none) (heap_alloc_new c1w (.cells (Nd.cells5 Nd.none).toArray 25)) (by omega)) ⟨bq, oq, none⟩ rest.length cap3 (ms.flatMap Nd.cells5) rfl (by rw [cells5_len, HLM.out]) (list_news (HLI.out.carry (Carries.of_below ((Below.refl c1w.heap.size c1w).alloc (Nat.le_refl _) (.cells (Nd.cells5 Nd.none).toArray 25))))) (cells5_one ms) (by omega) (by have := HSM.out; unfold maxLen; omega) (by have := HSM.out; omega) (by first | omega | (simp; omega)) _ rfl ?_
      intro g cap2 w2 hown' hgrow hat hglt
      have HKB2 := Lib.hid (show ∀ o, World.cell? w2 ⟨b, o, none⟩ = w.cell? ⟨b, o, none⟩ from fun o => (hgrow.cell_far ⟨b, o, none⟩ (by first | (show b < _; omega) | (simp; omega)) (by simp [Value.ownBlock]; omega)).trans (HKBx.out o))
      have kg := fun o => hgrow.cell_far ⟨w.heap.size, o, none⟩ (by first | (show w.heap.size < _; omega) | (simp; omega)) (by simp [Value.ownBlock]; omega)
      have fg := fun o => hgrow.frozen_far ⟨w.heap.size, o, none⟩ (by first | (show w.heap.size < _; omega) | (simp; omega)) (by simp [Value.ownBlock]; omega)
      have HOWN := Lib.hid hown'
      have HGR := Lib.hid hgrow
      clear hown' hgrow hat hglt
      refine hK.out _ _ ⟨fun _ => HSK.out _ HKB2.out, fun hS => ?_⟩
      have hHeld := hS (by decide)
      clear hS hK K
      refine headStep (i := 12) rfl (by kernel_rfl) (fun K hK => ?_)
      go_simp
      refine hK.out _ _ ⟨fun _ => HSK.out _ HKB2.out, fun hS => ?_⟩
      clear hS hK K
      refine headStep (i := 13) rfl (by kernel_rfl) (fun K hK => ?_)
      go_simp
      refine hK.out _ _ ⟨fun h => absurd h (by decide), fun _ => ?_⟩
      clear hK K
      refine headDone (by kernel_rfl) ?_ _
      go_wp2_with fail
      exact bodyPost_ret (v := .agg #[.int .i64 28, .string ⟨#[]⟩, .string ⟨#[]⟩, .int .u64 0, .slice (some ⟨g, 0, none⟩) (1 + rest.length) cap2]) (by simp [results, Tryz.f36, go_sem, kg, ka1, ka0, hz13, hz14, hz00]) rfl (NodePost.stored _ _ _ _ _ (call_row (w0 := w.alloc zN) HWF.out HLM.out HZ0 HZ1 (none_same HX0.out.1 HX0.out.2) (none_lies _ _) HSS.out HLI.out (by have h := HOWN.out; simpa using h) (by omega) HGR.out))

set_option maxRecDepth 100000 in
set_option maxHeartbeats 2000000 in
theorem nd_28_one (d : Nat) (hN : NodeC d) (e : Nat) (A : Nat → Prop) (n : Nd) (b : Nat) (w : World) (hG : PreD (e + 1) n) (hW : WfN n) (hR : RepD A (d + 1) w n b) (hk : n.kind = 28) (hr : n.kids.length = 1) (hm : (n.kid 0).kind ≠ 0) :
    Calls Tryz.prog 36 #[.iface (pTy n.kind) (.pointer (some ⟨b, 0, none⟩))] w (NodePost n w) := by
  obtain ⟨k, t, m, u, ao, cap, kids⟩ := n
  obtain rfl : k = 28 := hk
  have hn0 : (Nd.mk 28 t m u ao cap kids).kind ≠ 0 := by show (28 : Int) ≠ 0; decide
  have hn1 : (Nd.mk 28 t m u ao cap kids).kind ≠ 1 := by show (28 : Int) ≠ 1; decide
  have hPl := (hG.fit hn0).2.2.1
  have HWF := Lib.hid hW.wf
  obtain rfl : t = ⟨#[]⟩ := hPl.1 (show hasText 28 = false by decide)
  obtain rfl : u = 0 := hPl.2.1 (show hasNum 28 = false by decide)
  obtain rfl : m = ⟨#[]⟩ := hPl.2.2.1 (show (28 : Int) ≠ 2 by decide) (show (28 : Int) ≠ 3 by decide)
  have hln : 1 ≤ kids.length := by
    have h1 := ((hG.fit hn0).2.2.2.1 hn1).1
    rw [show (fixedL (Nd.kind (.mk 28 ⟨#[]⟩ ⟨#[]⟩ 0 ao cap kids))).length = 1 from by show (fixedL 28).length = 1; decide] at h1
    exact h1
  obtain ⟨x0, rest, rfl⟩ : ∃ x0 rest, kids = x0 :: rest := by
    cases kids with
    | nil => simp at hln
    | cons x0 rest => exact ⟨x0, rest, rfl⟩
  obtain ⟨hP0, hC0⟩ := hG.kid (i := 0) (x := x0) hn0 rfl
  obtain rfl : rest = [] := by have : (x0 :: rest).length = 1 := hr; simp at this; exact this
  have hx0 : x0.kind ≠ 0 := hm
  have hf0 : x0.kind ∈ ([33, 0] : List Int) := class_few [33, 0] rfl (hC0 hn1)
  have hk0 : x0.kind = 33 := by
    have h := hf0
    simp at h
    omega
  have HG0 := Lib.hid (show GoodW e x0 from ⟨hP0.good (by rw [hk0]; decide), hW.kid (i := 0) rfl⟩)
  have HK0 := Lib.hid hk0
  obtain ⟨hA, cs, hb, hs⟩ := hR
  rw [slots_28 _ rfl] at hs
  match cs, hs with
  | [v0, v1, v2, v3, v4, v5, v6], ⟨e0, e1, e2, e3, e4, e5, e6, _⟩ =>
    obtain ⟨aoL, capL, hv, hHL⟩ := HeldList.of (ptr := true) (R := RepD A d) (ns := []) (v := v5) (w := w) (A := A) e5
    subst hv
    have HHL := Lib.hid hHL
    have c5 : w.cell? ⟨b, 5, none⟩ = some (.slice aoL 0 capL) := by rw [Lib.cell_of_heap hb]; rfl
    obtain ⟨b0, rfl, hR0⟩ : PtrTo (RepD A d) w x0 v4 := by
      rcases e4 with e | e
      · exact absurd e.1 hx0
      · exact e.2
    have HR0 := Lib.hid hR0
    have c4 : w.cell? ⟨b, 4, none⟩ = some (.pointer (some ⟨b0, 0, none⟩)) := by rw [Lib.cell_of_heap hb]; rfl
    have hblt : b < w.heap.size := World.block_lt_of_cell? _ _ c5
    have hbne : ¬ b = w.heap.size := by omega
    have hbne2 : ¬ w.heap.size = b := by omega
    obtain ⟨i0, hi, hz0, hz1, hz2⟩ := info_parts infoNode
    rw [show pTy (Nd.kind (.mk 28 ⟨#[]⟩ ⟨#[]⟩ 0 ao cap (x0 :: []))) = 92 from ptrTy_28]
    clear hn0 hn1 hPl hln hG hW hA hb hP0 hC0 hr  hHL
    have q2 := no_2 92 (by decide)
    have q3 := no_3 92 (by decide)
    have q4 := no_4 92 (by decide)
    have q5 := no_5 92 (by decide)
    have q6 := no_6 92 (by decide)
    have q7 := no_7 92 (by decide)
    have q8 := no_8 92 (by decide)
    have q9 := no_9 92 (by decide)
    have q10 := no_10 92 (by decide)
    have q11 := no_11 92 (by decide)
    have q12 := no_12 92 (by decide)
    have q13 := no_13 92 (by decide)
    have q14 := no_14 92 (by decide)
    have q15 := no_15 92 (by decide)
    have q16 := no_16 92 (by decide)
    have q17 := no_17 92 (by decide)
    have q18 := no_18 92 (by decide)
    have q19 := no_19 92 (by decide)
    have q20 := no_20 92 (by decide)
    have q21 := no_21 92 (by decide)
    have q22 := no_22 92 (by decide)
    have q23 := no_23 92 (by decide)
    have q24 := no_24 92 (by decide)
    have q25 := no_25 92 (by decide)
    have q26 := no_26 92 (by decide)
    have q27 := no_27 92 (by decide)
    have q28 := yes_28
    go_enter Tryz.func36, Tryz.ntmps36
    go_wp2_with fail
    have hS0 : ((w.alloc zN).cell? ⟨b, 4, none⟩ = some (.pointer (some ⟨b0, 0, none⟩)) ∧ (w.alloc zN).cell? ⟨b, 5, none⟩ = some (.slice aoL 0 capL)) := ⟨by rw [((Below.refl w.heap.size w).alloc (Nat.le_refl _) zN).cell (p := ⟨b, 4, none⟩) hblt]; exact c4, by rw [((Below.refl w.heap.size w).alloc (Nat.le_refl _) zN).cell (p := ⟨b, 5, none⟩) hblt]; exact c5⟩
    have HSK := Lib.hid (show ∀ W' : World, (∀ o, W'.cell? ⟨b, o, none⟩ = w.cell? ⟨b, o, none⟩) → (W'.cell? ⟨b, 4, none⟩ = some (.pointer (some ⟨b0, 0, none⟩)) ∧ W'.cell? ⟨b, 5, none⟩ = some (.slice aoL 0 capL)) from fun W' h => ⟨(h _).trans c4, (h _).trans c5⟩)
    refine headBegin (S := fun w' => (w'.cell? ⟨b, 4, none⟩ = some (.pointer (some ⟨b0, 0, none⟩)) ∧ w'.cell? ⟨b, 5, none⟩ = some (.slice aoL 0 capL))) 13 (by kernel_rfl) hS0 (fun hHeld => ?_)
    clear hS0
    refine headTake (i := 0) (v := ?_) rfl (by kernel_rfl) (by kernel_rfl) (by kernel_rfl) (by kernel_rfl) (fun _ _ _ h => h) (Or.inl ⟨by rfl, ?_⟩) hHeld ?_
    rotate_left 1
    · intro w hSw
      go_split_ands
      go_simp
      try with_reducible rfl
    simp only [List.getElem_toArray, List.getElem_cons_zero, List.getElem_cons_succ, Act.put, List.setIfInBounds_toArray, List.set_cons_zero, List.set_cons_succ]
    refine headTake (i := 1) (v := ?_) rfl (by kernel_rfl) (by kernel_rfl) (by kernel_rfl) (by kernel_rfl) (fun _ _ _ h => h) (Or.inl ⟨by rfl, ?_⟩) hHeld ?_
    rotate_left 1
    · intro w hSw
      go_split_ands
      go_simp
      try with_reducible rfl
    simp only [List.getElem_toArray, List.getElem_cons_zero, List.getElem_cons_succ, Act.put, List.setIfInBounds_toArray, List.set_cons_zero, List.set_cons_succ]
    refine headTake (i := 2) (v := ?_) rfl (by kernel_rfl) (by kernel_rfl) (by kernel_rfl) (by kernel_rfl) (fun _ _ _ h => h) (Or.inl ⟨by rfl, ?_⟩) hHeld ?_
    rotate_left 1
    · intro w hSw
      go_split_ands
      go_simp
      try with_reducible rfl
    simp only [List.getElem_toArray, List.getElem_cons_zero, List.getElem_cons_succ, Act.put, List.setIfInBounds_toArray, List.set_cons_zero, List.set_cons_succ]
    refine headTake (i := 3) (v := ?_) rfl (by kernel_rfl) (by kernel_rfl) (by kernel_rfl) (by kernel_rfl) (fun _ _ _ h => h) (Or.inl ⟨by rfl, ?_⟩) hHeld ?_
    rotate_left 1
    · intro w hSw
      go_split_ands
      go_simp
      try with_reducible rfl
    simp only [List.getElem_toArray, List.getElem_cons_zero, List.getElem_cons_succ, Act.put, List.setIfInBounds_toArray, List.set_cons_zero, List.set_cons_succ]
    refine headTake (i := 6) (v := ?_) rfl (by kernel_rfl) (by kernel_rfl) (by kernel_rfl) (by kernel_rfl) (fun _ _ _ h => h) (Or.inl ⟨by rfl, ?_⟩) hHeld ?_
    rotate_left 1
    · intro w hSw
      go_split_ands
      go_simp
      try with_reducible rfl
    simp only [List.getElem_toArray, List.getElem_cons_zero, List.getElem_cons_succ, Act.put, List.setIfInBounds_toArray, List.set_cons_zero, List.set_cons_succ]
    refine headTake (i := 7) (v := ?_) rfl (by kernel_rfl) (by kernel_rfl) (by kernel_rfl) (by kernel_rfl) (fun _ _ _ h => h) (Or.inl ⟨by rfl, ?_⟩) hHeld ?_
    rotate_left 1
    · intro w hSw
      go_split_ands
      go_simp
      try with_reducible rfl
    simp only [List.getElem_toArray, List.getElem_cons_zero, List.getElem_cons_succ, Act.put, List.setIfInBounds_toArray, List.set_cons_zero, List.set_cons_succ]
    refine headTake (i := 8) (v := ?_) rfl (by kernel_rfl) (by kernel_rfl) (by kernel_rfl) (by kernel_rfl) (fun _ _ _ h => h) (Or.inl ⟨by rfl, ?_⟩) hHeld ?_
    rotate_left 1
    · intro w hSw
      go_split_ands
      go_simp
      try with_reducible rfl
    simp only [List.getElem_toArray, List.getElem_cons_zero, List.getElem_cons_succ, Act.put, List.setIfInBounds_toArray, List.set_cons_zero, List.set_cons_succ]
    refine headTake (i := 9) (v := ?_) rfl (by kernel_rfl) (by kernel_rfl) (by kernel_rfl) (by kernel_rfl) (fun _ _ _ h => h) (Or.inl ⟨by rfl, ?_⟩) hHeld ?_
    rotate_left 1
    · intro w hSw
      go_split_ands
      go_simp
      try with_reducible rfl
    simp only [List.getElem_toArray, List.getElem_cons_zero, List.getElem_cons_succ, Act.put, List.setIfInBounds_toArray, List.set_cons_zero, List.set_cons_succ]
    refine headStep (i := 4) rfl (by kernel_rfl) (fun K hK => ?_)
    go_simp
    go_at_call 93
    refine (orNone_33 d hN e A x0 b0 _ HG0.out (HR0.out.below (Below.drew ((Below.refl _ _).alloc (Nat.le_refl _) _))) HK0.out).mono ?_
    rintro e c0w ⟨E0, m0, rfl, hS0, hl0, hb0⟩
    have HZ0 : Below (w.alloc zN).heap.size (w.alloc zN) c0w := (Below.drew (Below.refl _ _)).trans (hb0.mono (by simp))
    have HY0 : Below w.heap.size w c0w := ((Below.refl w.heap.size w).alloc (Nat.le_refl _) zN).trans (HZ0.mono (by simp))
    have hz00 : w.heap.size < c0w.heap.size := (by have := Below.size HZ0; (try simp at this); omega)
    obtain ⟨kb0, -⟩ := bblk HY0 (b := b) hblt
    obtain ⟨ka0, fa0⟩ := bblk HZ0 (b := w.heap.size) (by simp)
    unfold zN at ka0 fa0
    have HS0 := Lib.hid hS0
    have Hl0 : Hid (LiesIn (From (w.alloc zN).heap.size) E0 c0w m0) := Lib.hid (by have h := hl0; simpa using h)
    clear hS0 hl0
    have HKB0 := Lib.hid kb0
    refine hK.out _ _ ⟨fun _ => HSK.out _ HKB0.out, fun hS => ?_⟩
    have hHeld := hS (by decide)
    clear hS hK K hb0
    refine headStep2 (i := 5) (j := 10) rfl rfl (by kernel_rfl) (fun K hK => ?_) (fun K hK => ?_)
    · go_simp
      have HKBx := Lib.hid (show ∀ o, World.cell? (c0w.alloc (.cells (Nd.cells5 m0).toArray 25)) ⟨b, o, none⟩ = w.cell? ⟨b, o, none⟩ from fun o => (((Below.refl c0w.heap.size c0w).alloc (Nat.le_refl _) (.cells (Nd.cells5 m0).toArray 25)).cell (p := ⟨b, o, none⟩) (show b < _ by omega)).trans (HKB0.out o))
      refine hK.out _ _ ⟨fun _ => HSK.out _ HKBx.out, fun hS => ?_⟩
      have hHeld := hS (by decide)
      clear hS hK K
      refine headStep (i := 10) rfl (by kernel_rfl) (fun K hK => ?_)
      go_simp
      go_at_call 101
      refine (listProperty_nil aoL capL _).mono ?_
      rintro e c1w ⟨rfl, hb1⟩
      have HB1 : Below (c0w.alloc (.cells (Nd.cells5 m0).toArray 25)).heap.size (c0w.alloc (.cells (Nd.cells5 m0).toArray 25)) c1w := hb1
      have HZ1 : Below c0w.heap.size c0w c1w := ((Below.refl c0w.heap.size c0w).alloc (Nat.le_refl _) (.cells (Nd.cells5 m0).toArray 25)).trans (HB1.mono (by simp))
      have hz11 : c0w.heap.size ≤ c1w.heap.size := HZ1.size
      have hz13 : w.heap.size < c1w.heap.size := by omega
      have hz14 : ¬ w.heap.size = c1w.heap.size := by omega
      have HBK : Hid (c1w.heap[c0w.heap.size]? = some (.cells (Nd.cells5 m0).toArray 25 (0, 0))) := Lib.hid (by rw [HB1.block c0w.heap.size (by simp)]; exact heap_alloc_new c0w _)
      have hz12 : c0w.heap.size < c1w.heap.size := by have := HB1.size; simp at this; omega
      obtain ⟨kb1, -⟩ := bblk HZ1 (b := b) (by omega)
      obtain ⟨ka1, fa1⟩ := bblk HZ1 (b := w.heap.size) (by omega)
      have HKB1 := Lib.hid (show ∀ o, World.cell? c1w ⟨b, o, none⟩ = w.cell? ⟨b, o, none⟩ from fun o => (kb1 o).trans (HKB0.out o))
      refine hK.out _ _ ⟨fun _ => HSK.out _ HKB1.out, fun hS => ?_⟩
      have hHeld := hS (by decide)
      clear hS hK K hb1
      refine headStep (i := 11) rfl (by kernel_rfl) (fun K hK => ?_)
      refine step_append_nil rfl _ _ 23 rfl rfl rfl (app_nil c0w.heap.size _) ?_
      refine hK.out _ _ ⟨fun _ => HSK.out _ HKB1.out, fun hS => ?_⟩
      have hHeld := hS (by decide)
      clear hS hK K
      refine headStep (i := 12) rfl (by kernel_rfl) (fun K hK => ?_)
      go_simp
      refine hK.out _ _ ⟨fun _ => HSK.out _ HKB1.out, fun hS => ?_⟩
      clear hS hK K
      refine headStep (i := 13) rfl (by kernel_rfl) (fun K hK => ?_)
      go_simp
      refine hK.out _ _ ⟨fun h => absurd h (by decide), fun _ => ?_⟩
      clear hK K
      refine headDone (by kernel_rfl) ?_ _
      have HZ2 : Below (w.alloc zN).heap.size (w.alloc zN) c1w := HZ0.trans (HZ1.mono HZ0.size)
      go_wp2_with fail
      exact bodyPost_ret (v := .agg #[.int .i64 28, .string ⟨#[]⟩, .string ⟨#[]⟩, .int .u64 0, .slice (some ⟨c0w.heap.size, 0, none⟩) 1 1]) (by simp [results, Tryz.f36, go_sem, ka1, ka0, hz13, hz14, hz00]) rfl (NodePost.stored _ _ _ _ _ (back_row (w0 := w.alloc zN) (ms := [m0]) rfl HWF.out HZ2 (by have h := one_row (B := (w.alloc zN).heap.size) HBK.out (by simp; omega); simpa using h) rfl (fun i x y hx hy => by match i with | 0 => (simp at hx hy; subst hx hy; exact ⟨_, HS0.out, (Hl0.out).below HZ1⟩) | _ + 1 => simp at hx)))
    · go_simp
      go_at_call 101
      refine (listProperty_nil aoL capL _).mono ?_
      rintro e c1w ⟨rfl, hb1⟩
      have HB1 : Below c0w.heap.size c0w c1w := hb1
      have HZ1 : Below c0w.heap.size c0w c1w := HB1
      have hz11 : c0w.heap.size ≤ c1w.heap.size := HZ1.size
      have hz13 : w.heap.size < c1w.heap.size := by omega
      have hz14 : ¬ w.heap.size = c1w.heap.size := by omega
      obtain ⟨kb1, -⟩ := bblk HZ1 (b := b) (by omega)
      obtain ⟨ka1, fa1⟩ := bblk HZ1 (b := w.heap.size) (by omega)
      have HKB1 := Lib.hid (show ∀ o, World.cell? c1w ⟨b, o, none⟩ = w.cell? ⟨b, o, none⟩ from fun o => (kb1 o).trans (HKB0.out o))
      refine hK.out _ _ ⟨fun _ => HSK.out _ HKB1.out, fun hS => ?_⟩
      have hHeld := hS (by decide)
      clear hS hK K hb1
      refine headStep (i := 5) rfl (by kernel_rfl) (fun K hK => ?_)
      go_simp
      have HKBx := Lib.hid (show ∀ o, World.cell? (c1w.alloc (.cells (Nd.cells5 m0).toArray 25)) ⟨b, o, none⟩ = w.cell? ⟨b, o, none⟩ from fun o => (((Below.refl c1w.heap.size c1w).alloc (Nat.le_refl _) (.cells (Nd.cells5 m0).toArray 25)).cell (p := ⟨b, o, none⟩) (show b < _ by omega)).trans (HKB1.out o))
      refine hK.out _ _ ⟨fun _ => HSK.out _ HKBx.out, fun hS => ?_⟩
      have hHeld := hS (by decide)
      clear hS hK K
      refine headStep (i := 11) rfl (by kernel_rfl) (fun K hK => ?_)
      refine step_append_nil rfl _ _ 23 rfl rfl rfl (app_nil c1w.heap.size _) ?_
      refine hK.out _ _ ⟨fun _ => HSK.out _ HKBx.out, fun hS => ?_⟩
      have hHeld := hS (by decide)
      clear hS hK K
      refine headStep (i := 12) rfl (by kernel_rfl) (fun K hK => ?_)
      go_simp
      refine hK.out _ _ ⟨fun _ => HSK.out _ HKBx.out, fun hS => ?_⟩
      clear hS hK K
      refine headStep (i := 13) rfl (by kernel_rfl) (fun K hK => ?_)
      go_simp
      refine hK.out _ _ ⟨fun h => absurd h (by decide), fun _ => ?_⟩
      clear hK K
      refine headDone (by kernel_rfl) ?_ _
      have HZ2 : Below (w.alloc zN).heap.size (w.alloc zN) c1w := HZ0.trans (HZ1.mono HZ0.size)
      go_wp2_with fail
      first | exact bodyPost_ret (v := .agg #[.int .i64 28, .string ⟨#[]⟩, .string ⟨#[]⟩, .int .u64 0, .slice (some ⟨c1w.heap.size, 0, none⟩) 1 1]) (by simp [results, Tryz.f36, go_sem, ka1, ka0, hz13, hz14, hz00]) rfl (NodePost.stored2 _ _ _ _ _ HZ2 (back_fin [m0] rfl HWF.out HZ2 rfl (fun i x y hx hy => by match i with | 0 => (simp at hx hy; subst hx hy; exact ⟨_, HS0.out, (Hl0.out).below HZ1⟩) | _ + 1 => simp at hx))) | exact bodyPost_ret (v := .agg #[.int .i64 28, .string ⟨#[]⟩, .string ⟨#[]⟩, .int .u64 0, .slice (some ⟨c1w.heap.size, 0, none⟩) 1 1]) (by simp [results, Tryz.f36, go_sem, ka1, ka0, hz13, hz14, hz00]) rfl (NodePost.stored _ _ _ _ _ (back_fin [m0] rfl HWF.out HZ2 rfl (fun i x y hx hy => by match i with | 0 => (simp at hx hy; subst hx hy; exact ⟨_, HS0.out, (Hl0.out).below HZ1⟩) | _ + 1 => simp at hx)))

set_option maxRecDepth 100000 in
set_option maxHeartbeats 2000000 in
theorem nd_28_one_none (d : Nat) (hN : NodeC d) (e : Nat) (A : Nat → Prop) (n : Nd) (b : Nat) (w : World) (hG : PreD (e + 1) n) (hW : WfN n) (hR : RepD A (d + 1) w n b) (hk : n.kind = 28) (hr : n.kids.length = 1) (hm : (n.kid 0).kind = 0) :
    Calls Tryz.prog 36 #[.iface (pTy n.kind) (.pointer (some ⟨b, 0, none⟩))] w (NodePost n w) := by
  obtain ⟨k, t, m, u, ao, cap, kids⟩ := n
  obtain rfl : k = 28 := hk
  have hn0 : (Nd.mk 28 t m u ao cap kids).kind ≠ 0 := by show (28 : Int) ≠ 0; decide
  have hn1 : (Nd.mk 28 t m u ao cap kids).kind ≠ 1 := by show (28 : Int) ≠ 1; decide
  have hPl := (hG.fit hn0).2.2.1
  have HWF := Lib.hid hW.wf
  obtain rfl : t = ⟨#[]⟩ := hPl.1 (show hasText 28 = false by decide)
  obtain rfl : u = 0 := hPl.2.1 (show hasNum 28 = false by decide)
  obtain rfl : m = ⟨#[]⟩ := hPl.2.2.1 (show (28 : Int) ≠ 2 by decide) (show (28 : Int) ≠ 3 by decide)
  have hln : 1 ≤ kids.length := by
    have h1 := ((hG.fit hn0).2.2.2.1 hn1).1
    rw [show (fixedL (Nd.kind (.mk 28 ⟨#[]⟩ ⟨#[]⟩ 0 ao cap kids))).length = 1 from by show (fixedL 28).length = 1; decide] at h1
    exact h1
  obtain ⟨x0, rest, rfl⟩ : ∃ x0 rest, kids = x0 :: rest := by
    cases kids with
    | nil => simp at hln
    | cons x0 rest => exact ⟨x0, rest, rfl⟩
  obtain ⟨hP0, hC0⟩ := hG.kid (i := 0) (x := x0) hn0 rfl
  obtain rfl : rest = [] := by have : (x0 :: rest).length = 1 := hr; simp at this; exact this
  have hx0 : x0.kind = 0 := hm
  have HX0 := Lib.hid (And.intro hx0 (hP0.none0 hx0))
  obtain ⟨hA, cs, hb, hs⟩ := hR
  rw [slots_28 _ rfl] at hs
  match cs, hs with
  | [v0, v1, v2, v3, v4, v5, v6], ⟨e0, e1, e2, e3, e4, e5, e6, _⟩ =>
    obtain ⟨aoL, capL, hv, hHL⟩ := HeldList.of (ptr := true) (R := RepD A d) (ns := []) (v := v5) (w := w) (A := A) e5
    subst hv
    have HHL := Lib.hid hHL
    have c5 : w.cell? ⟨b, 5, none⟩ = some (.slice aoL 0 capL) := by rw [Lib.cell_of_heap hb]; rfl
    obtain rfl : v4 = .pointer none := by
      rcases e4 with e | e
      · exact e.2
      · exact absurd hx0 e.1
    have c4 : w.cell? ⟨b, 4, none⟩ = some (.pointer none) := by rw [Lib.cell_of_heap hb]; rfl
    have hblt : b < w.heap.size := World.block_lt_of_cell? _ _ c5
    have hbne : ¬ b = w.heap.size := by omega
    have hbne2 : ¬ w.heap.size = b := by omega
    obtain ⟨i0, hi, hz0, hz1, hz2⟩ := info_parts infoNode
    rw [show pTy (Nd.kind (.mk 28 ⟨#[]⟩ ⟨#[]⟩ 0 ao cap (x0 :: []))) = 92 from ptrTy_28]
    clear hn0 hn1 hPl hln hG hW hA hb hP0 hC0 hr  hHL
    have q2 := no_2 92 (by decide)
    have q3 := no_3 92 (by decide)
    have q4 := no_4 92 (by decide)
    have q5 := no_5 92 (by decide)
    have q6 := no_6 92 (by decide)
    have q7 := no_7 92 (by decide)
    have q8 := no_8 92 (by decide)
    have q9 := no_9 92 (by decide)
    have q10 := no_10 92 (by decide)
    have q11 := no_11 92 (by decide)
    have q12 := no_12 92 (by decide)
    have q13 := no_13 92 (by decide)
    have q14 := no_14 92 (by decide)
    have q15 := no_15 92 (by decide)
    have q16 := no_16 92 (by decide)
    have q17 := no_17 92 (by decide)
    have q18 := no_18 92 (by decide)
    have q19 := no_19 92 (by decide)
    have q20 := no_20 92 (by decide)
    have q21 := no_21 92 (by decide)
    have q22 := no_22 92 (by decide)
    have q23 := no_23 92 (by decide)
    have q24 := no_24 92 (by decide)
    have q25 := no_25 92 (by decide)
    have q26 := no_26 92 (by decide)
    have q27 := no_27 92 (by decide)
    have q28 := yes_28
    go_enter Tryz.func36, Tryz.ntmps36
    go_wp2_with fail
    have hS0 : ((w.alloc zN).cell? ⟨b, 4, none⟩ = some (.pointer none) ∧ (w.alloc zN).cell? ⟨b, 5, none⟩ = some (.slice aoL 0 capL)) := ⟨by rw [((Below.refl w.heap.size w).alloc (Nat.le_refl _) zN).cell (p := ⟨b, 4, none⟩) hblt]; exact c4, by rw [((Below.refl w.heap.size w).alloc (Nat.le_refl _) zN).cell (p := ⟨b, 5, none⟩) hblt]; exact c5⟩
    have HSK := Lib.hid (show ∀ W' : World, (∀ o, W'.cell? ⟨b, o, none⟩ = w.cell? ⟨b, o, none⟩) → (W'.cell? ⟨b, 4, none⟩ = some (.pointer none) ∧ W'.cell? ⟨b, 5, none⟩ = some (.slice aoL 0 capL)) from fun W' h => ⟨(h _).trans c4, (h _).trans c5⟩)
    refine headBegin (S := fun w' => (w'.cell? ⟨b, 4, none⟩ = some (.pointer none) ∧ w'.cell? ⟨b, 5, none⟩ = some (.slice aoL 0 capL))) 13 (by kernel_rfl) hS0 (fun hHeld => ?_)
    clear hS0
    refine headTake (i := 0) (v := ?_) rfl (by kernel_rfl) (by kernel_rfl) (by kernel_rfl) (by kernel_rfl) (fun _ _ _ h => h) (Or.inl ⟨by rfl, ?_⟩) hHeld ?_
    rotate_left 1
    · intro w hSw
      go_split_ands
      go_simp
      try with_reducible rfl
    simp only [List.getElem_toArray, List.getElem_cons_zero, List.getElem_cons_succ, Act.put, List.setIfInBounds_toArray, List.set_cons_zero, List.set_cons_succ]
    refine headTake (i := 1) (v := ?_) rfl (by kernel_rfl) (by kernel_rfl) (by kernel_rfl) (by kernel_rfl) (fun _ _ _ h => h) (Or.inl ⟨by rfl, ?_⟩) hHeld ?_
    rotate_left 1
    · intro w hSw
      go_split_ands
      go_simp
      try with_reducible rfl
    simp only [List.getElem_toArray, List.getElem_cons_zero, List.getElem_cons_succ, Act.put, List.setIfInBounds_toArray, List.set_cons_zero, List.set_cons_succ]
    refine headTake (i := 2) (v := ?_) rfl (by kernel_rfl) (by kernel_rfl) (by kernel_rfl) (by kernel_rfl) (fun _ _ _ h => h) (Or.inl ⟨by rfl, ?_⟩) hHeld ?_
    rotate_left 1
    · intro w hSw
      go_split_ands
      go_simp
      try with_reducible rfl
    simp only [List.getElem_toArray, List.getElem_cons_zero, List.getElem_cons_succ, Act.put, List.setIfInBounds_toArray, List.set_cons_zero, List.set_cons_succ]
    refine headTake (i := 3) (v := ?_) rfl (by kernel_rfl) (by kernel_rfl) (by kernel_rfl) (by kernel_rfl) (fun _ _ _ h => h) (Or.inl ⟨by rfl, ?_⟩) hHeld ?_
    rotate_left 1
    · intro w hSw
      go_split_ands
      go_simp
      try with_reducible rfl
    simp only [List.getElem_toArray, List.getElem_cons_zero, List.getElem_cons_succ, Act.put, List.setIfInBounds_toArray, List.set_cons_zero, List.set_cons_succ]
    refine headTake (i := 6) (v := ?_) rfl (by kernel_rfl) (by kernel_rfl) (by kernel_rfl) (by kernel_rfl) (fun _ _ _ h => h) (Or.inl ⟨by rfl, ?_⟩) hHeld ?_
    rotate_left 1
    · intro w hSw
      go_split_ands
      go_simp
      try with_reducible rfl
    simp only [List.getElem_toArray, List.getElem_cons_zero, List.getElem_cons_succ, Act.put, List.setIfInBounds_toArray, List.set_cons_zero, List.set_cons_succ]
    refine headTake (i := 7) (v := ?_) rfl (by kernel_rfl) (by kernel_rfl) (by kernel_rfl) (by kernel_rfl) (fun _ _ _ h => h) (Or.inl ⟨by rfl, ?_⟩) hHeld ?_
    rotate_left 1
    · intro w hSw
      go_split_ands
      go_simp
      try with_reducible rfl
    simp only [List.getElem_toArray, List.getElem_cons_zero, List.getElem_cons_succ, Act.put, List.setIfInBounds_toArray, List.set_cons_zero, List.set_cons_succ]
    refine headTake (i := 8) (v := ?_) rfl (by kernel_rfl) (by kernel_rfl) (by kernel_rfl) (by kernel_rfl) (fun _ _ _ h => h) (Or.inl ⟨by rfl, ?_⟩) hHeld ?_
    rotate_left 1
    · intro w hSw
      go_split_ands
      go_simp
      try with_reducible rfl
    simp only [List.getElem_toArray, List.getElem_cons_zero, List.getElem_cons_succ, Act.put, List.setIfInBounds_toArray, List.set_cons_zero, List.set_cons_succ]
    refine headTake (i := 9) (v := ?_) rfl (by kernel_rfl) (by kernel_rfl) (by kernel_rfl) (by kernel_rfl) (fun _ _ _ h => h) (Or.inl ⟨by rfl, ?_⟩) hHeld ?_
    rotate_left 1
    · intro w hSw
      go_split_ands
      go_simp
      try with_reducible rfl
    simp only [List.getElem_toArray, List.getElem_cons_zero, List.getElem_cons_succ, Act.put, List.setIfInBounds_toArray, List.set_cons_zero, List.set_cons_succ]
    refine headStep (i := 4) rfl (by kernel_rfl) (fun K hK => ?_)
    go_simp
    go_at_call 93
    refine (orNone_33_none _).mono ?_
    rintro e c0w ⟨rfl, hb0⟩
    have HZ0 : Below (w.alloc zN).heap.size (w.alloc zN) c0w := (Below.drew (Below.refl _ _)).trans (hb0.mono (by simp))
    have HY0 : Below w.heap.size w c0w := ((Below.refl w.heap.size w).alloc (Nat.le_refl _) zN).trans (HZ0.mono (by simp))
    have hz00 : w.heap.size < c0w.heap.size := (by have := Below.size HZ0; (try simp at this); omega)
    obtain ⟨kb0, -⟩ := bblk HY0 (b := b) hblt
    obtain ⟨ka0, fa0⟩ := bblk HZ0 (b := w.heap.size) (by simp)
    unfold zN at ka0 fa0
    have HKB0 := Lib.hid kb0
    refine hK.out _ _ ⟨fun _ => HSK.out _ HKB0.out, fun hS => ?_⟩
    have hHeld := hS (by decide)
    clear hS hK K hb0
    refine headStep2 (i := 5) (j := 10) rfl rfl (by kernel_rfl) (fun K hK => ?_) (fun K hK => ?_)
    · go_simp
      have HKBx := Lib.hid (show ∀ o, World.cell? (c0w.alloc (.cells (Nd.cells5 Nd.none).toArray 25)) ⟨b, o, none⟩ = w.cell? ⟨b, o, none⟩ from fun o => (((Below.refl c0w.heap.size c0w).alloc (Nat.le_refl _) (.cells (Nd.cells5 Nd.none).toArray 25)).cell (p := ⟨b, o, none⟩) (show b < _ by omega)).trans (HKB0.out o))
      refine hK.out _ _ ⟨fun _ => HSK.out _ HKBx.out, fun hS => ?_⟩
      have hHeld := hS (by decide)
      clear hS hK K
      refine headStep (i := 10) rfl (by kernel_rfl) (fun K hK => ?_)
      go_simp
      go_at_call 101
      refine (listProperty_nil aoL capL _).mono ?_
      rintro e c1w ⟨rfl, hb1⟩
      have HB1 : Below (c0w.alloc (.cells (Nd.cells5 Nd.none).toArray 25)).heap.size (c0w.alloc (.cells (Nd.cells5 Nd.none).toArray 25)) c1w := hb1
      have HZ1 : Below c0w.heap.size c0w c1w := ((Below.refl c0w.heap.size c0w).alloc (Nat.le_refl _) (.cells (Nd.cells5 Nd.none).toArray 25)).trans (HB1.mono (by simp))
      have hz11 : c0w.heap.size ≤ c1w.heap.size := HZ1.size
      have hz13 : w.heap.size < c1w.heap.size := by omega
      have hz14 : ¬ w.heap.size = c1w.heap.size := by omega
      have HBK : Hid (c1w.heap[c0w.heap.size]? = some (.cells (Nd.cells5 Nd.none).toArray 25 (0, 0))) := Lib.hid (by rw [HB1.block c0w.heap.size (by simp)]; exact heap_alloc_new c0w _)
      have hz12 : c0w.heap.size < c1w.heap.size := by have := HB1.size; simp at this; omega
      obtain ⟨kb1, -⟩ := bblk HZ1 (b := b) (by omega)
      obtain ⟨ka1, fa1⟩ := bblk HZ1 (b := w.heap.size) (by omega)
      have HKB1 := Lib.hid (show ∀ o, World.cell? c1w ⟨b, o, none⟩ = w.cell? ⟨b, o, none⟩ from fun o => (kb1 o).trans (HKB0.out o))
      refine hK.out _ _ ⟨fun _ => HSK.out _ HKB1.out, fun hS => ?_⟩
      have hHeld := hS (by decide)
      clear hS hK K hb1
      refine headStep (i := 11) rfl (by kernel_rfl) (fun K hK => ?_)
      refine step_append_nil rfl _ _ 23 rfl rfl rfl (app_nil c0w.heap.size _) ?_
      refine hK.out _ _ ⟨fun _ => HSK.out _ HKB1.out, fun hS => ?_⟩
      have hHeld := hS (by decide)
      clear hS hK K
      refine headStep (i := 12) rfl (by kernel_rfl) (fun K hK => ?_)
      go_simp
      refine hK.out _ _ ⟨fun _ => HSK.out _ HKB1.out, fun hS => ?_⟩
      clear hS hK K
      refine headStep (i := 13) rfl (by kernel_rfl) (fun K hK => ?_)
      go_simp
      refine hK.out _ _ ⟨fun h => absurd h (by decide), fun _ => ?_⟩
      clear hK K
      refine headDone (by kernel_rfl) ?_ _
      have HZ2 : Below (w.alloc zN).heap.size (w.alloc zN) c1w := HZ0.trans (HZ1.mono HZ0.size)
      go_wp2_with fail
      exact bodyPost_ret (v := .agg #[.int .i64 28, .string ⟨#[]⟩, .string ⟨#[]⟩, .int .u64 0, .slice (some ⟨c0w.heap.size, 0, none⟩) 1 1]) (by simp [results, Tryz.f36, go_sem, ka1, ka0, hz13, hz14, hz00]) rfl (NodePost.stored _ _ _ _ _ (back_row (w0 := w.alloc zN) (ms := [Nd.none]) rfl HWF.out HZ2 (by have h := one_row (B := (w.alloc zN).heap.size) HBK.out (by simp; omega); simpa using h) rfl (fun i x y hx hy => by match i with | 0 => (simp at hx hy; subst hx hy; exact ⟨_, (none_same HX0.out.1 HX0.out.2), ((none_lies _ _)).below HZ1⟩) | _ + 1 => simp at hx)))
    · go_simp
      go_at_call 101
      refine (listProperty_nil aoL capL _).mono ?_
      rintro e c1w ⟨rfl, hb1⟩
      have HB1 : Below c0w.heap.size c0w c1w := hb1
      have HZ1 : Below c0w.heap.size c0w c1w := HB1
      have hz11 : c0w.heap.size ≤ c1w.heap.size := HZ1.size
      have hz13 : w.heap.size < c1w.heap.size := by omega
      have hz14 : ¬ w.heap.size = c1w.heap.size := by omega
      obtain ⟨kb1, -⟩ := bblk HZ1 (b := b) (by omega)
      obtain ⟨ka1, fa1⟩ := bblk HZ1 (b := w.heap.size) (by omega)
      have HKB1 := Lib.hid (show ∀ o, World.cell? c1w ⟨b, o, none⟩ = w.cell? ⟨b, o, none⟩ from fun o => (kb1 o).trans (HKB0.out o))
      refine hK.out _ _ ⟨fun _ => HSK.out _ HKB1.out, fun hS => ?_⟩
      have hHeld := hS (by decide)
      clear hS hK K hb1
      refine headStep (i := 5) rfl (by kernel_rfl) (fun K hK => ?_)
      go_simp
      have HKBx := Lib.hid (show ∀ o, World.cell? (c1w.alloc (.cells (Nd.cells5 Nd.none).toArray 25)) ⟨b, o, none⟩ = w.cell? ⟨b, o, none⟩ from fun o => (((Below.refl c1w.heap.size c1w).alloc (Nat.le_refl _) (.cells (Nd.cells5 Nd.none).toArray 25)).cell (p := ⟨b, o, none⟩) (show b < _ by omega)).trans (HKB1.out o))
      refine hK.out _ _ ⟨fun _ => HSK.out _ HKBx.out, fun hS => ?_⟩
      have hHeld := hS (by decide)
      clear hS hK K
      refine headStep (i := 11) rfl (by kernel_rfl) (fun K hK => ?_)
      refine step_append_nil rfl _ _ 23 rfl rfl rfl (app_nil c1w.heap.size _) ?_
      refine hK.out _ _ ⟨fun _ => HSK.out _ HKBx.out, fun hS => ?_⟩
      have hHeld := hS (by decide)
      clear hS hK K
      refine headStep (i := 12) rfl (by kernel_rfl) (fun K hK => ?_)
      go_simp
      refine hK.out _ _ ⟨fun _ => HSK.out _ HKBx.out, fun hS => ?_⟩
      clear hS hK K
      refine headStep (i := 13) rfl (by kernel_rfl) (fun K hK => ?_)
      go_simp
      refine hK.out _ _ ⟨fun h => absurd h (by decide), fun _ => ?_⟩
      clear hK K
      refine headDone (by kernel_rfl) ?_ _
      have HZ2 : Below (w.alloc zN).heap.size (w.alloc zN) c1w := HZ0.trans (HZ1.mono HZ0.size)
      go_wp2_with fail
      first | exact bodyPost_ret (v := .agg #[.int .i64 28, .string ⟨#[]⟩, .string ⟨#[]⟩, .int .u64 0, .slice (some ⟨c1w.heap.size, 0, none⟩) 1 1]) (by simp [results, Tryz.f36, go_sem, ka1, ka0, hz13, hz14, hz00]) rfl (NodePost.stored2 _ _ _ _ _ HZ2 (back_fin [Nd.none] rfl HWF.out HZ2 rfl (fun i x y hx hy => by match i with | 0 => (simp at hx hy; subst hx hy; exact ⟨_, (none_same HX0.out.1 HX0.out.2), ((none_lies _ _)).below HZ1⟩) | _ + 1 => simp at hx))) | exact bodyPost_ret (v := .agg #[.int .i64 28, .string ⟨#[]⟩, .string ⟨#[]⟩, .int .u64 0, .slice (some ⟨c1w.heap.size, 0, none⟩) 1 1]) (by simp [results, Tryz.f36, go_sem, ka1, ka0, hz13, hz14, hz00]) rfl (NodePost.stored _ _ _ _ _ (back_fin [Nd.none] rfl HWF.out HZ2 rfl (fun i x y hx hy => by match i with | 0 => (simp at hx hy; subst hx hy; exact ⟨_, (none_same HX0.out.1 HX0.out.2), ((none_lies _ _)).below HZ1⟩) | _ + 1 => simp at hx)))

end Go.Proofs.YtongafghllkomaaGreatDoor
