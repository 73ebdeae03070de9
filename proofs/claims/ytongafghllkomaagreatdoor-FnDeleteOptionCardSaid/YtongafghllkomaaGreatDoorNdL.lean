/-
  node kind by kind, part L: it hands back the tree that lies there, given its own contract a level down. No conditions.
-/
import Derived.Test.YtongafghllkomaaGreatDoorNdF
import Derived.Test.YtongafghllkomaaGreatDoorMap
import Derived.Deep.RegionHeld3
import Derived.Deep.LoopGhost
import Derived.Deep.AppendLies
import Derived.Deep.RegionWith
namespace Go.Proofs.YtongafghllkomaaGreatDoor
open Go.RowKit
set_option linter.unusedVariables false
set_option linter.unusedSimpArgs false

theorem headStep2L {P : Program} {ops : Array Oper} {Q : Exit → Act → World → Prop} {md : Region.Mode} {S : World → Prop} {n i j : Nat} {oi oj : Oper} {fuel : Nat} {listed : Array Bool} {a : Act} {w : World} (hoi : ops[i]? = some oi) (hoj : ops[j]? = some oj) (hr : Region.ready md ops listed = [i, j])
    (hi : ∀ K' : Act → World → Prop, Hid (∀ a w, ((i < n → S w) ∧ ((i < n → S w) → HeadH P md ops Q S n fuel (listed.setIfInBounds i true) a w)) → K' a w) → if Region.wanted oi (yielded ops a.tmps) = true then Oper.wp P oi a w K' Q else K' (a.put oi.dst undef) w)
    (hj : ∀ K' : Act → World → Prop, Hid (∀ a w, ((j < n → S w) ∧ ((j < n → S w) → HeadH P md ops Q S n fuel (listed.setIfInBounds j true) a w)) → K' a w) → if Region.wanted oj (yielded ops a.tmps) = true then Oper.wp P oj a w K' Q else K' (a.put oj.dst undef) w) :
    HeadH P md ops Q S n (fuel + 1) listed a w := by
  refine ⟨fun h0 => (by rw [hr] at h0; cases h0), fun k hk => ?_⟩
  rw [hr] at hk
  have hk2 : k = i ∨ k = j := by simpa using hk
  rcases hk2 with rfl | rfl
  · exact wpOp_step hoi (fun K' hK => hi K' (Lib.hid (fun a w h2 => hK a w ⟨h2.1, h2.2 h2.1⟩)))
  · exact wpOp_step hoj (fun K' hK => hj K' (Lib.hid (fun a w h2 => hK a w ⟨h2.1, h2.2 h2.1⟩)))

theorem BackOk.next2 {B : Nat} {ns : List Nd} {j : Nat} {v v' : Value} {w1 w2 : World} {ob : Obj} {g cap E1 E2 : Nat} {n1 n2 m1 m2 : Nd} {xs : List Value} (h : BackOk B ns j v w1) (hn1 : ns[j]? = some n1) (hn2 : ns[j + 1]? = some n2) (hs1 : SameD E1 n1 m1) (hl1 : LiesIn (fun b => B ≤ b ∧ some b ≠ v.ownBlock) E1 w1 m1) (hs2 : SameD E2 n2 m2) (hl2 : LiesIn (fun b => B ≤ b ∧ some b ≠ v.ownBlock) E2 w1 m2)
    (hxs : w1.ownsRow B 25 5 v j xs) (hown : w2.ownsRow B 25 5 v' (j + 2) (xs ++ (m1.cells5 ++ m2.cells5))) (hv' : v' = .slice (some ⟨g, 0, none⟩) (j + 2) cap) (hg : (w1.alloc ob).grownBy w2 v.ownBlock) (hat : v.ownBlock = some g ∨ g = (w1.alloc ob).heap.size) : BackOk B ns (j + 2) v' w2 := by
  obtain ⟨D, ms, h1, hlen, h2⟩ := h
  obtain rfl := ownsRow_unique h1 hxs
  have hcar : Carries (fun b => B ≤ b ∧ some b ≠ v.ownBlock) (fun b => B ≤ b ∧ some b ≠ v'.ownBlock) w1 w2 := by
    intro b o hA hb
    have hlt : b < w1.heap.size := (Array.getElem?_eq_some_iff.1 hb).1
    have hb1 : (w1.alloc ob).heap[b]? = some o := by rw [heap_alloc_old _ _ hlt]; exact hb
    refine ⟨(hg.block b (by simp; omega) hA.2).trans hb1, hA.1, ?_⟩
    rw [hv']
    simp only [Value.ownBlock]
    rcases hat with h | h
    · rw [← h]; exact hA.2
    · intro e; cases e; simp at h; omega
  refine ⟨D + E1 + E2, ms ++ [m1, m2], by rw [List.flatMap_append]; simpa using hown, by simp [hlen], fun i a y ha hy => ?_⟩
  by_cases hi : i < j
  · rw [List.getElem?_append_left (by omega)] at hy
    have := h2 i a y ha hy
    exact ⟨this.1.up (by omega), (this.2.carry hcar).up (by omega)⟩
  · have hil := (List.getElem?_eq_some_iff.1 hy).1
    simp at hil
    rw [List.getElem?_append_right (by omega), hlen] at hy
    obtain rfl | rfl : i = j ∨ i = j + 1 := by omega
    · simp at hy
      subst hy
      rw [hn1] at ha; cases ha
      exact ⟨hs1.up (by omega), (hl1.carry hcar).up (by omega)⟩
    · rw [show j + 1 - j = 1 by omega] at hy
      simp at hy
      subst hy
      rw [hn2] at ha; cases ha
      exact ⟨hs2.up (by omega), (hl2.carry hcar).up (by omega)⟩

theorem BackOk.store {B j c o : Nat} {ns : List Nd} {v u : Value} {w : World} (h : BackOk B ns j v w) (hc : c < B) : BackOk B ns j v (w.setCell ⟨c, o, none⟩ u) := by
  obtain ⟨D, ms, h1, hlen, h2⟩ := h
  have hst : ∀ b, B ≤ b → (w.setCell ⟨c, o, none⟩ u).heap[b]? = w.heap[b]? := fun b hb => Below.heap_setCell _ _ _ _ (fun e => by simp at e; omega)
  refine ⟨D, ms, ⟨h1.1, h1.2.imp id ?_⟩, hlen, fun i n m hn hm => ⟨(h2 i n m hn hm).1, (h2 i n m hn hm).2.carry (fun b ob hA hb => ⟨(hst b hA.1).trans hb, hA⟩)⟩⟩
  rintro ⟨g, cap, cur, hv, hB, hg, hr⟩
  exact ⟨g, cap, cur, hv, hB, (hst g hB).trans hg, hr⟩

/-- The items of a dictionary, one by one. -/
def HeldDict (R : World → Nd → Nat → Prop) (w : World) (ao : Option Addr) (ns : List Nd) : Prop :=
  ∀ (i : Nat) (k z : Nd), ns[2 * i]? = some k → ns[2 * i + 1]? = some z → ∃ g b b1 b2, ao = some ⟨g, 0, none⟩ ∧ w.cell? ⟨g, i, none⟩ = some (.pointer (some ⟨b, 0, none⟩)) ∧ w.cell? ⟨b, 0, none⟩ = some (.iface (pTy k.kind) (.pointer (some ⟨b1, 0, none⟩))) ∧ w.cell? ⟨b, 1, none⟩ = some (.iface (pTy z.kind) (.pointer (some ⟨b2, 0, none⟩))) ∧ R w k b1 ∧ R w z b2

theorem HeldDict.of {A : Nat → Prop} {R : World → Nd → Nat → Prop} {w : World} {v : Value} {ns : List Nd} {p : Nat} (hp : ns.length = 2 * p) (h : SlotOk A R w (.dict ns) v) : ∃ ao cap, v = .slice ao p cap ∧ HeldDict R w ao ns := by
  have h' : CellsAre A w v (ns.length / 2) 1 (fun i cur => ∀ k z, ns[2 * i]? = some k → ns[2 * i + 1]? = some z → ∃ b x1 x2, A b ∧ cur[i]? = some (.pointer (some ⟨b, 0, none⟩)) ∧ w.heap[b]? = some (.cells #[x1, x2, .slice none 0 0] 216 (0, 0)) ∧ IfcTo R w k x1 ∧ IfcTo R w z x2) := h
  rw [show ns.length / 2 = p by omega] at h'
  rcases h' with ⟨h0, rfl⟩ | ⟨g, cap, cur, e, -, rfl, hg, -, -, -, hP⟩
  · exact ⟨none, 0, by rw [h0], fun i k z hk _ => by have := (List.getElem?_eq_some_iff.1 hk).1; omega⟩
  · refine ⟨_, cap, rfl, fun i k z hk hz => ?_⟩
    obtain ⟨b, x1, x2, -, h1, h2, ⟨b1, rfl, h3⟩, ⟨b2, rfl, h4⟩⟩ := hP i (by have := (List.getElem?_eq_some_iff.1 hz).1; omega) k z hk hz
    exact ⟨g, b, b1, b2, rfl, by rw [Lib.cell_of_heap hg]; exact h1, by rw [Lib.cell_of_heap h2]; rfl, by rw [Lib.cell_of_heap h2]; rfl, h3, h4⟩

theorem two_new (w : World) (m1 m2 : Nd) (T : TypeId) : ∀ j u, (m1.cells5 ++ m2.cells5)[j]? = some u → (w.alloc (.cells (m1.cells5 ++ m2.cells5).toArray T)).cell? ((⟨w.heap.size, 0, none⟩ : Addr).add j) = some u := by
  intro j u hu
  exact World.news_of_block (heap_alloc_new w _) j u hu

set_option maxRecDepth 100000 in
set_option maxHeartbeats 2000000 in
theorem nd_27 (d : Nat) (hN : NodeC d) (e : Nat) (A : Nat → Prop) (n : Nd) (b : Nat) (w : World) (hG : PreD (e + 1) n) (hW : WfN n) (hR : RepD A (d + 1) w n b) (hk : n.kind = 27) :
    Calls Tryz.prog 36 #[.iface (pTy n.kind) (.pointer (some ⟨b, 0, none⟩))] w (NodePost n w) := by
  obtain ⟨k, t, m, u, ao, cap, kids⟩ := n
  obtain rfl : k = 27 := hk
  have hn0 : (Nd.mk 27 t m u ao cap kids).kind ≠ 0 := by show (27 : Int) ≠ 0; decide
  have hn1 : (Nd.mk 27 t m u ao cap kids).kind ≠ 1 := by show (27 : Int) ≠ 1; decide
  have hPl := (hG.fit hn0).2.2.1
  have HWF := Lib.hid hW.wf
  obtain rfl : t = ⟨#[]⟩ := hPl.1 (show hasText 27 = false by decide)
  obtain rfl : u = 0 := hPl.2.1 (show hasNum 27 = false by decide)
  obtain rfl : m = ⟨#[]⟩ := hPl.2.2.1 (show (27 : Int) ≠ 2 by decide) (show (27 : Int) ≠ 3 by decide)
  have hks : ∀ (i : Nat) (x : Nd), kids[i]? = some x → GoodW e x := by
    intro i x hx
    obtain ⟨hP, hC⟩ := hG.kid (i := i) (x := x) hn0 hx
    have e1 : (fixedL 27).getD i (restL 27) = 0 := by rw [show fixedL 27 = [] from by decide, show restL 27 = 0 from by decide]; simp
    have hC2 : ofClassB x 0 = true := by rw [← e1]; exact hC hn1
    exact ⟨hP.good (expr_walk (class_0 hC2)), hW.kid (i := i) hx⟩
  have hev : kids.length % 2 = 0 := (hG.fit hn0).2.2.2.2.2 rfl
  have hsm : kids.length ≤ 1000 := by have := hG.small; simp only [Nd.kids] at this; omega
  obtain ⟨i0, hi, hz0, hz1, hz2⟩ := info_parts infoNode
  obtain ⟨p, hlen⟩ : ∃ p, kids.length = 2 * p := ⟨kids.length / 2, by omega⟩
  have hp : p ≤ 500 := by omega
  have HKS := Lib.hid hks
  have HN := Lib.hid hlen
  obtain ⟨hA, cs, hb, hs⟩ := hR
  rw [slots_27 _ rfl] at hs
  match cs, hs with
  | [v0, v1, v2, v3, v4, v5], ⟨e0, e1, e2, e3, e4, e5, _⟩ =>
    obtain ⟨aoE, capE, hv, hHD⟩ := HeldDict.of (p := p) hlen e4
    subst hv
    have HHD := Lib.hid hHD
    have c4 : w.cell? ⟨b, 4, none⟩ = some (.slice aoE p capE) := by rw [Lib.cell_of_heap hb]; rfl
    have hblt : b < w.heap.size := World.block_lt_of_cell? _ _ c4
    have hbne : ¬ b = w.heap.size := by omega
    have hbne2 : ¬ w.heap.size = b := by omega
    rw [show pTy (Nd.kind (.mk 27 ⟨#[]⟩ ⟨#[]⟩ 0 ao cap kids)) = 210 from ptrTy_27]
    clear hn0 hn1 hPl hG hW hA hb hks hsm hHD hev hlen
    have q2 := no_2 210 (by decide)
    have q3 := no_3 210 (by decide)
    have q4 := no_4 210 (by decide)
    have q5 := no_5 210 (by decide)
    have q6 := no_6 210 (by decide)
    have q7 := no_7 210 (by decide)
    have q8 := no_8 210 (by decide)
    have q9 := no_9 210 (by decide)
    have q10 := no_10 210 (by decide)
    have q11 := no_11 210 (by decide)
    have q12 := no_12 210 (by decide)
    have q13 := no_13 210 (by decide)
    have q14 := no_14 210 (by decide)
    have q15 := no_15 210 (by decide)
    have q16 := no_16 210 (by decide)
    have q17 := no_17 210 (by decide)
    have q18 := no_18 210 (by decide)
    have q19 := no_19 210 (by decide)
    have q20 := no_20 210 (by decide)
    have q21 := no_21 210 (by decide)
    have q22 := no_22 210 (by decide)
    have q23 := no_23 210 (by decide)
    have q24 := no_24 210 (by decide)
    have q25 := no_25 210 (by decide)
    have q26 := no_26 210 (by decide)
    have q27 := yes_27
    go_enter Tryz.func36, Tryz.ntmps36
    go_wp2_with fail
    go_loopg [421] p (fun gk i wr => ∃ (j : Nat) (ao' : Option Addr) (cap' : Nat), j ≤ p ∧ gk = p - j ∧ i = .int .i64 (j : Int) ∧ Hid (BackOk (w.heap.size + 2) kids (2 * j) (.slice ao' (2 * j) cap') wr) ∧ Hid (wr.heap[w.heap.size + 1]? = some (.cells #[.int .i64 27, .string ⟨#[]⟩, .string ⟨#[]⟩, .int .u64 0, .slice ao' (2 * j) cap'] 25 (0, 0))) ∧ Hid (Below (w.alloc zN).heap.size (w.alloc zN) wr))
    case atStart =>
      refine ⟨0, none, 0, by omega, by omega, rfl, Lib.hid (BackOk.start _ _ _), Lib.hid ?_, Lib.hid ?_⟩
      · have h := heap_alloc_new (w.alloc zN) (.cells #[.int .i64 27, .string ⟨#[]⟩, .string ⟨#[]⟩, .int .u64 0, .slice none 0 0] 25)
        rw [show (w.alloc zN).heap.size = w.heap.size + 1 by simp] at h
        exact h
      · exact (Below.refl _ _).alloc (Nat.le_refl _) _
    case round =>
      obtain ⟨j, ao', cap', hj, rfl, rfl, hO, hX, hB⟩ := hrel
      have hY : Below w.heap.size w wr := ((Below.refl w.heap.size w).alloc (Nat.le_refl _) zN).trans (hB.out.mono (by simp))
      have HY := Lib.hid hY
      have l1 : w.heap.size + 1 < wr.heap.size := (Array.getElem?_eq_some_iff.1 hX.out).1
      obtain ⟨kb, -⟩ := bblk hY (b := b) hblt
      obtain ⟨ka, fa⟩ := bblk hB.out (b := w.heap.size) (by simp)
      unfold zN at ka fa
      have x4 : wr.cell? ⟨w.heap.size + 1, 4, none⟩ = some (.slice ao' (2 * j) cap') := by rw [Lib.cell_of_heap hX.out]; rfl
      clear hY
      by_cases hjn : j < p
      · have hjz : (j : Int) < (p : Int) := by omega
        obtain ⟨x, hx⟩ : ∃ x, kids[2 * j]? = some x := ⟨kids[2 * j]'(by have := HN.out; omega), List.getElem?_eq_getElem _⟩
        obtain ⟨z, hz⟩ : ∃ z, kids[2 * j + 1]? = some z := ⟨kids[2 * j + 1]'(by have := HN.out; omega), List.getElem?_eq_getElem _⟩
        obtain ⟨gE, bi, b1, b2, rfl, hc0, hc1, hc2, hR1, hR2⟩ := HHD.out j x z hx hz
        have c0 : wr.cell? ⟨gE, j, none⟩ = some (.pointer (some ⟨bi, 0, none⟩)) := (HY.out.cell (World.block_lt_of_cell? _ _ hc0)).trans hc0
        have c1 : wr.cell? ⟨bi, 0, none⟩ = some (.iface (pTy x.kind) (.pointer (some ⟨b1, 0, none⟩))) := (HY.out.cell (World.block_lt_of_cell? _ _ hc1)).trans hc1
        have c2 : wr.cell? ⟨bi, 1, none⟩ = some (.iface (pTy z.kind) (.pointer (some ⟨b2, 0, none⟩))) := (HY.out.cell (World.block_lt_of_cell? _ _ hc2)).trans hc2
        have hbi : bi < w.heap.size := World.block_lt_of_cell? _ _ hc1
        have HXX := Lib.hid hx
        have HZZ := Lib.hid hz
        have HR1 := Lib.hid hR1
        have HR2 := Lib.hid hR2
        clear hx hz hc0 hc1 hc2 hR1 hR2
        have HSK := Lib.hid (show ∀ W' : World, W'.heap[w.heap.size + 1]? = wr.heap[w.heap.size + 1]? → W'.heap[bi]? = wr.heap[bi]? → (W'.cell? ⟨w.heap.size + 1, 4, none⟩ = some (.slice ao' (2 * j) cap') ∧ W'.cell? ⟨bi, 0, none⟩ = some (.iface (pTy x.kind) (.pointer (some ⟨b1, 0, none⟩))) ∧ W'.cell? ⟨bi, 1, none⟩ = some (.iface (pTy z.kind) (.pointer (some ⟨b2, 0, none⟩)))) from fun W' e1 e2 => by
          have f : ∀ c, W'.heap[c]? = wr.heap[c]? → ∀ o, W'.cell? ⟨c, o, none⟩ = wr.cell? ⟨c, o, none⟩ := fun c e o => by unfold World.cell?; rw [e]
          exact ⟨(f _ e1 _).trans x4, (f _ e2 _).trans c1, (f _ e2 _).trans c2⟩)
        go_wp2_with fail
        refine headBegin (S := fun w' => (w'.cell? ⟨w.heap.size + 1, 4, none⟩ = some (.slice ao' (2 * j) cap') ∧ w'.cell? ⟨bi, 0, none⟩ = some (.iface (pTy x.kind) (.pointer (some ⟨b1, 0, none⟩))) ∧ w'.cell? ⟨bi, 1, none⟩ = some (.iface (pTy z.kind) (.pointer (some ⟨b2, 0, none⟩))))) 15 (by kernel_rfl) ⟨x4, c1, c2⟩ (fun hHeld => ?_)
        refine headTake (i := 0) (v := ?_) rfl (by kernel_rfl) (by kernel_rfl) (by kernel_rfl) (by kernel_rfl) (fun _ _ _ h => h) (Or.inl ⟨by rfl, ?_⟩) hHeld ?_
        rotate_left 1
        · intro w hSw
          go_split_ands
          go_simp
          try with_reducible rfl
        simp only [List.getElem_toArray, List.getElem_cons_zero, List.getElem_cons_succ, Act.put, List.setIfInBounds_toArray, List.set_cons_zero, List.set_cons_succ]
        refine headTake (i := 1) (v := ?_) rfl (by kernel_rfl) (by kernel_rfl) (by kernel_rfl) (by kernel_rfl) (fun _ _ _ h => h) (Or.inl ⟨by rfl, ?_⟩) hHeld ?_
        rotate_left 1
        · intro w hSw
          go_split_ands
          go_simp
          try with_reducible rfl
        simp only [List.getElem_toArray, List.getElem_cons_zero, List.getElem_cons_succ, Act.put, List.setIfInBounds_toArray, List.set_cons_zero, List.set_cons_succ]
        refine headTake (i := 2) (v := ?_) rfl (by kernel_rfl) (by kernel_rfl) (by kernel_rfl) (by kernel_rfl) (fun _ _ _ h => h) (Or.inl ⟨by rfl, ?_⟩) hHeld ?_
        rotate_left 1
        · intro w hSw
          go_split_ands
          go_simp
          try with_reducible rfl
        simp only [List.getElem_toArray, List.getElem_cons_zero, List.getElem_cons_succ, Act.put, List.setIfInBounds_toArray, List.set_cons_zero, List.set_cons_succ]
        refine headTake (i := 3) (v := ?_) rfl (by kernel_rfl) (by kernel_rfl) (by kernel_rfl) (by kernel_rfl) (fun _ _ _ h => h) (Or.inl ⟨by rfl, ?_⟩) hHeld ?_
        rotate_left 1
        · intro w hSw
          go_split_ands
          go_simp
          try with_reducible rfl
        simp only [List.getElem_toArray, List.getElem_cons_zero, List.getElem_cons_succ, Act.put, List.setIfInBounds_toArray, List.set_cons_zero, List.set_cons_succ]
        refine headTake (i := 4) (v := ?_) rfl (by kernel_rfl) (by kernel_rfl) (by kernel_rfl) (by kernel_rfl) (fun _ _ _ h => h) (Or.inl ⟨by rfl, ?_⟩) hHeld ?_
        rotate_left 1
        · intro w hSw
          go_split_ands
          go_simp
          try with_reducible rfl
        simp only [List.getElem_toArray, List.getElem_cons_zero, List.getElem_cons_succ, Act.put, List.setIfInBounds_toArray, List.set_cons_zero, List.set_cons_succ]
        refine headTake (i := 5) (v := ?_) rfl (by kernel_rfl) (by kernel_rfl) (by kernel_rfl) (by kernel_rfl) (fun _ _ _ h => h) (Or.inl ⟨by rfl, ?_⟩) hHeld ?_
        rotate_left 1
        · intro w hSw
          go_split_ands
          go_simp
          try with_reducible rfl
        simp only [List.getElem_toArray, List.getElem_cons_zero, List.getElem_cons_succ, Act.put, List.setIfInBounds_toArray, List.set_cons_zero, List.set_cons_succ]
        refine headTake (i := 7) (v := ?_) rfl (by kernel_rfl) (by kernel_rfl) (by kernel_rfl) (by kernel_rfl) (fun _ _ _ h => h) (Or.inl ⟨by rfl, ?_⟩) hHeld ?_
        rotate_left 1
        · intro w hSw
          go_split_ands
          go_simp
          try with_reducible rfl
        simp only [List.getElem_toArray, List.getElem_cons_zero, List.getElem_cons_succ, Act.put, List.setIfInBounds_toArray, List.set_cons_zero, List.set_cons_succ]
        refine headTake (i := 8) (v := ?_) rfl (by kernel_rfl) (by kernel_rfl) (by kernel_rfl) (by kernel_rfl) (fun _ _ _ h => h) (Or.inl ⟨by rfl, ?_⟩) hHeld ?_
        rotate_left 1
        · intro w hSw
          go_split_ands
          go_simp
          try with_reducible rfl
        simp only [List.getElem_toArray, List.getElem_cons_zero, List.getElem_cons_succ, Act.put, List.setIfInBounds_toArray, List.set_cons_zero, List.set_cons_succ]
        refine headTake (i := 9) (v := ?_) rfl (by kernel_rfl) (by kernel_rfl) (by kernel_rfl) (by kernel_rfl) (fun _ _ _ h => h) (Or.inl ⟨by rfl, ?_⟩) hHeld ?_
        rotate_left 1
        · intro w hSw
          go_split_ands
          go_simp
          try with_reducible rfl
        simp only [List.getElem_toArray, List.getElem_cons_zero, List.getElem_cons_succ, Act.put, List.setIfInBounds_toArray, List.set_cons_zero, List.set_cons_succ]
        refine headTake (i := 10) (v := ?_) rfl (by kernel_rfl) (by kernel_rfl) (by kernel_rfl) (by kernel_rfl) (fun _ _ _ h => h) (Or.inl ⟨by rfl, ?_⟩) hHeld ?_
        rotate_left 1
        · intro w hSw
          go_split_ands
          go_simp
          try with_reducible rfl
        simp only [List.getElem_toArray, List.getElem_cons_zero, List.getElem_cons_succ, Act.put, List.setIfInBounds_toArray, List.set_cons_zero, List.set_cons_succ]
        refine headStep (i := 6) rfl (by kernel_rfl) (fun K hK => ?_)
        go_simp
        go_at_call 54
        refine (exprOrNone d hN e A x b1 _ (HKS.out _ x HXX.out) (HR1.out.below HY.out.drew)).mono ?_
        rintro e w1 ⟨E1, m1, rfl, hS1, hl1, hb1⟩
        have HB1 := Lib.hid ((Below.refl wr.heap.size wr).drew.trans (hb1.mono (by simp)))
        have HS1 := Lib.hid hS1
        have Hl1 : Hid (LiesIn (From wr.heap.size) E1 w1 m1) := Lib.hid (by have h := hl1; simpa using h)
        clear hb1 hS1 hl1
        refine hK.out _ _ ⟨fun _ => HSK.out w1 (HB1.out.block _ l1) (HB1.out.block _ (by omega)), fun hS => ?_⟩
        have hHeld := hS (by decide)
        clear hS hK K
        refine headStep (i := 11) rfl (by kernel_rfl) (fun K hK => ?_)
        go_simp
        go_at_call 54
        refine (exprOrNone d hN e A z b2 _ (HKS.out _ z HZZ.out) (HR2.out.below (HY.out.trans (HB1.out.mono HY.out.size)))).mono ?_
        rintro e w2 ⟨E2, m2, rfl, hS2, hl2, hb2⟩
        have HB2 := Lib.hid (HB1.out.trans (hb2.mono HB1.out.size))
        have HS2 := Lib.hid hS2
        have Hl2 := Lib.hid (hl2.mono (A' := From wr.heap.size) (fun c hc => Nat.le_trans HB1.out.size hc))
        have Hl3 := Lib.hid (Hl1.out.below hb2)
        clear hb2 hS2 hl2
        refine hK.out _ _ ⟨fun _ => HSK.out w2 (HB2.out.block _ l1) (HB2.out.block _ (by omega)), fun hS => ?_⟩
        have hHeld := hS (by decide)
        clear hS hK K
        have HO1 := Lib.hid (hO.out.below HB2.out)
        have l2 : w.heap.size + 1 < w2.heap.size := Nat.lt_of_lt_of_le l1 HB2.out.size
        have hlt : ∀ g, (Value.slice ao' (2 * j) cap').ownBlock = some g → g < wr.heap.size := by
          intro g hg
          obtain ⟨D, ms, h1, _⟩ := hO.out
          exact (World.ownsRow.lt h1 g hg).2
        have hfr : ∀ c, From wr.heap.size c → w.heap.size + 2 ≤ c ∧ some c ≠ (Value.slice ao' (2 * j) cap').ownBlock := fun c hc => ⟨by unfold From at hc; omega, fun e => by have := hlt c e.symm; unfold From at hc; omega⟩
        have HM1 := Lib.hid (Hl3.out.mono (A' := fun c => w.heap.size + 2 ≤ c ∧ some c ≠ (Value.slice ao' (2 * j) cap').ownBlock) hfr)
        have HM2 := Lib.hid (Hl2.out.mono (A' := fun c => w.heap.size + 2 ≤ c ∧ some c ≠ (Value.slice ao' (2 * j) cap').ownBlock) hfr)
        obtain ⟨D, ms, hown, -⟩ := HO1.out
        have HOW0 := Lib.hid hown
        have HOW := Lib.hid (hown.alloc (.cells (m1.cells5 ++ m2.cells5).toArray 25))
        clear hlt hfr hown
        refine headStep (i := 12) rfl (by kernel_rfl) (fun K hK => ?_)
        go_simp
        refine hK.out _ _ ⟨fun _ => HSK.out _ ((heap_alloc_old _ _ l2).trans (HB2.out.block _ l1)) ((heap_alloc_old _ _ (by omega)).trans (HB2.out.block _ (by omega))), fun hS => ?_⟩
        have hHeld := hS (by decide)
        clear hS hK K
        refine headStep (i := 13) rfl (by kernel_rfl) (fun K hK => ?_)
        refine step_append_lies _ rfl _ _ 23 rfl (w.heap.size + 2) 25 i0 _ 5 72 undNodes hi hz0 hz1 hz2 rfl (by decide) (.slice ao' (2 * j) cap') (2 * j) _ rfl HOW.out ⟨w2.heap.size, 0, none⟩ 2 2 (m1.cells5 ++ m2.cells5) rfl rfl (two_new w2 m1 m2 _) ?c2 (by decide) (by unfold maxLen; omega) (by omega) (by simp; omega) _ rfl ?_
        case c2 =>
          intro u hu
          rcases List.mem_append.1 hu with hu | hu <;> (simp [Nd.cells5] at hu; rcases hu with rfl | rfl | rfl | rfl | rfl <;> rfl)
        intro g cap2 w3 hown' hgrow hat hglt
        have HO2 := Lib.hid (BackOk.next2 HO1.out HXX.out HZZ.out HS1.out HM1.out HS2.out HM2.out HOW0.out hown' rfl hgrow (hat.imp id (fun h => by simpa using h)))
        have hne : ∀ c, c < w.heap.size + 2 → some c ≠ (Value.slice ao' (2 * j) cap').ownBlock := fun c hc e => by
          have := (World.ownsRow.lt HOW0.out _ e.symm).1
          omega
        have hst : ∀ c, c < w.heap.size + 2 → w3.heap[c]? = wr.heap[c]? := fun c hc => by
          rw [hgrow.block _ (by simp; omega) (hne c hc), heap_alloc_old _ _ (by omega), HB2.out.block _ (by omega)]
        have hbx := (hst (w.heap.size + 1) (by omega)).trans hX.out
        have y4 : w3.cell? ⟨w.heap.size + 1, 4, none⟩ = some (.slice ao' (2 * j) cap') := by rw [Lib.cell_of_heap hbx]; rfl
        have yf : w3.frozen? ⟨w.heap.size + 1, 4, none⟩ = false := Lib.frozen_of_heap hbx 4
        have HX3 : Hid ((w3.setCell ⟨w.heap.size + 1, 4, none⟩ (.slice (some ⟨g, 0, none⟩) (2 * j + 2) cap2)).heap[w.heap.size + 1]? = some (.cells #[.int .i64 27, .string ⟨#[]⟩, .string ⟨#[]⟩, .int .u64 0, .slice (some ⟨g, 0, none⟩) (2 * j + 2) cap2] 25 (0, 0))) := Lib.hid (by simp [World.setCell, Array.getElem?_modify, hbx])
        have HB5 : Hid (Below (w.alloc zN).heap.size (w.alloc zN) (w3.setCell ⟨w.heap.size + 1, 4, none⟩ (.slice (some ⟨g, 0, none⟩) (2 * j + 2) cap2))) := Lib.hid (Below.setCell (((hB.out.trans (HB2.out.mono hB.out.size)).alloc (Nat.le_trans hB.out.size HB2.out.size) _).grown hgrow (by simp; omega) (fun c hc => by
          have := (World.ownsRow.lt HOW0.out _ hc).1
          simp; omega)) (by simp) _)
        have HO3 := Lib.hid (HO2.out.store (c := w.heap.size + 1) (o := 4) (u := .slice (some ⟨g, 0, none⟩) (2 * j + 2) cap2) (by omega))
        have HS3 := Lib.hid (HSK.out w3 (hst _ (by omega)) (hst _ (by omega)))
        clear hown' hgrow hat hbx hne hst hHeld
        refine hK.out _ _ ⟨fun _ => HS3.out, fun _ => ?_⟩
        clear hK K
        refine headStep (i := 14) rfl (by kernel_rfl) (fun K hK => ?_)
        go_simp
        refine hK.out _ _ ⟨fun _ => HS3.out, fun _ => ?_⟩
        clear hK K
        refine headStep (i := 15) rfl (by kernel_rfl) (fun K hK => ?_)
        go_simp
        refine hK.out _ _ ⟨fun h => absurd h (by decide), fun _ => ?_⟩
        clear hK K
        refine headDone (by kernel_rfl) ?_ _
        go_wp2_with fail
        go_roundg (p - (j + 1))
        case measure => omega
        case rel => exact ⟨j + 1, some ⟨g, 0, none⟩, cap2, by omega, rfl, by push_cast; rfl, HO3, HX3, HB5⟩
      · have hjz : ¬ (j : Int) < (p : Int) := by omega
        obtain rfl : j = p := by omega
        have y0 : wr.cell? ⟨w.heap.size + 1, 0, none⟩ = some (.int .i64 27) := by rw [Lib.cell_of_heap hX.out]; rfl
        have y1 : wr.cell? ⟨w.heap.size + 1, 1, none⟩ = some (.string ⟨#[]⟩) := by rw [Lib.cell_of_heap hX.out]; rfl
        have y2 : wr.cell? ⟨w.heap.size + 1, 2, none⟩ = some (.string ⟨#[]⟩) := by rw [Lib.cell_of_heap hX.out]; rfl
        have y3 : wr.cell? ⟨w.heap.size + 1, 3, none⟩ = some (.int .u64 0) := by rw [Lib.cell_of_heap hX.out]; rfl
        go_wp2_with fail
        have hO2 := hO.out
        rw [← HN.out] at hO2
        obtain ⟨D, ao2, cap2, ms, he, h1, h2, h3⟩ := hO2.done
        rw [HN.out] at he
        cases he
        have hbl := back_list (w := w.alloc zN) (W := wr) (cap := cap') h1 HWF.out hB.out h2 (h3.carry (fun c o hA ho => ⟨ho, by unfold From at hA ⊢; simp; omega⟩))
        rw [HN.out] at hbl
        exact bodyPost_ret (v := .agg #[.int .i64 27, .string ⟨#[]⟩, .string ⟨#[]⟩, .int .u64 0, .slice ao' (2 * j) cap']) (by simp [results, Tryz.f36, go_sem, ka]) rfl (NodePost.stored _ _ _ _ _ hbl)
end Go.Proofs.YtongafghllkomaaGreatDoor
