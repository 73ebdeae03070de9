/-
  unnode at a dictionary: what it lays. No conditions.
-/
import Derived.Test.YtongafghllkomaaGreatDoorTests
import Derived.Test.YtongafghllkomaaGreatDoorMap
namespace Go.Proofs.YtongafghllkomaaGreatDoor
open Go.RowKit
set_option linter.unusedVariables false
set_option linter.unusedSimpArgs false

theorem infoDict : (Tryz.prog.info? 214).map (fun i => (i.zero, i.size, i.bytes)) = some (some (.pointer none), 1, 8) := by kernel_rfl
theorem undDict : Tryz.prog.underlying 211 = some (.slice 214) := by kernel_rfl

/-- An item of a dictionary lies, and what stands in it. -/
def ItemAt (A : Nat → Prop) (d : Nat) (w : World) (k z : Nd) (x : Value) : Prop :=
  ∃ b x1 x2, A b ∧ x = .pointer (some ⟨b, 0, none⟩) ∧ w.heap[b]? = some (.cells #[x1, x2, .slice none 0 0] 216 (0, 0)) ∧ IfcTo (RepD A d) w k x1 ∧ IfcTo (RepD A d) w z x2

theorem ItemAt.carry {A A' : Nat → Prop} {d : Nat} {w w' : World} {k z : Nd} {x : Value} (h : ItemAt A d w k z x) (hc : Carries A A' w w') : ItemAt A' d w' k z x := by
  obtain ⟨b, x1, x2, h1, h2, h3, ⟨b1, e1, r1⟩, ⟨b2, e2, r2⟩⟩ := h
  obtain ⟨h4, h5⟩ := hc b _ h1 h3
  exact ⟨b, x1, x2, h5, h2, h4, ⟨b1, e1, r1.carry hc⟩, ⟨b2, e2, r2.carry hc⟩⟩

/-- What the loop has made: j items. -/
def DictOk (B d : Nat) (ns : List Nd) (j : Nat) (v : Value) (w : World) : Prop :=
  ∃ xs : List Value, w.ownsRow B 214 1 v j xs ∧ ∀ (i : Nat) (k z : Nd) (x : Value), ns[2 * i]? = some k → ns[2 * i + 1]? = some z → xs[i]? = some x → ItemAt (fun b => B ≤ b ∧ some b ≠ v.ownBlock) d w k z x

theorem DictOk.next {B d : Nat} {ns : List Nd} {j : Nat} {v v' x : Value} {wr W w3 : World} {g cap : Nat} {k z : Nd} {xs : List Value} (h : DictOk (B + 2) d ns j v wr) (hxs : wr.ownsRow (B + 2) 214 1 v j xs) (hb : Below wr.heap.size wr W) (hk : ns[2 * j]? = some k) (hz : ns[2 * j + 1]? = some z)
    (hx : ItemAt (fun b => B + 2 ≤ b ∧ some b ≠ v.ownBlock) d W k z x) (hown : w3.ownsRow (B + 2) 214 1 v' (j + 1) (xs ++ [x])) (hv' : v' = .slice (some ⟨g, 0, none⟩) (j + 1) cap) (hg : W.grownBy w3 v.ownBlock) (hat : v.ownBlock = some g ∨ g = W.heap.size) (u : Value) :
    DictOk (B + 2) d ns (j + 1) v' (w3.setCell ⟨B + 1, 4, none⟩ u) := by
  obtain ⟨ys, h1, h2⟩ := h
  have hys : ys = xs := by
    rcases h1.2 with ⟨hv, h0⟩ | ⟨g1, c1, cur1, hv, _, hg1, _, _, _, ht1⟩
    · have e1 := h1.1; have e2 := hxs.1
      rw [h0] at e1 e2
      simp at e1 e2
      rw [e1, e2]
    · rcases hxs.2 with ⟨hv2, h0⟩ | ⟨g3, c3, cur3, hv3, _, hg3, _, _, _, ht3⟩
      · rw [hv] at hv2; cases hv2
      · rw [hv] at hv3; cases hv3
        rw [hg1] at hg3; cases hg3
        rw [← ht1, ← ht3]
  subst hys
  have hlen : ys.length = j := by have := h1.1; omega
  have hst : ∀ c, c ≠ B + 1 → (w3.setCell ⟨B + 1, 4, none⟩ u).heap[c]? = w3.heap[c]? := fun c hc => Below.heap_setCell _ _ _ _ (fun e => hc (by simpa using e))
  have hcar : Carries (fun b => B + 2 ≤ b ∧ some b ≠ v.ownBlock) (fun b => B + 2 ≤ b ∧ some b ≠ v'.ownBlock) W (w3.setCell ⟨B + 1, 4, none⟩ u) := by
    intro b o hA hbo
    have hlt : b < W.heap.size := (Array.getElem?_eq_some_iff.1 hbo).1
    refine ⟨?_, hA.1, ?_⟩
    · rw [hst b (by have := hA.1; omega)]
      exact (hg.block b hlt hA.2).trans hbo
    · rw [hv']
      simp only [Value.ownBlock]
      rcases hat with h | h
      · rw [← h]; exact hA.2
      · intro e; cases e; omega
  have hown4 : (w3.setCell ⟨B + 1, 4, none⟩ u).ownsRow (B + 2) 214 1 v' (j + 1) (ys ++ [x]) := by
    refine ⟨hown.1, hown.2.imp id ?_⟩
    rintro ⟨g1, c1, cur1, hv, hB1, hg1, hr⟩
    exact ⟨g1, c1, cur1, hv, hB1, (hst g1 (by omega)).trans hg1, hr⟩
  refine ⟨ys ++ [x], hown4, fun i k1 z1 y hk1 hz1 hy => ?_⟩
  by_cases hi : i < j
  · rw [List.getElem?_append_left (by omega)] at hy
    exact ((h2 i k1 z1 y hk1 hz1 hy).carry (Carries.of_below hb)).carry hcar
  · have hil := (List.getElem?_eq_some_iff.1 hy).1
    simp at hil
    obtain rfl : i = j := by omega
    rw [List.getElem?_append_right (by omega), hlen] at hy
    simp at hy
    subst hy
    rw [hk] at hk1; cases hk1
    rw [hz] at hz1; cases hz1
    exact hx.carry hcar

theorem DictOk.done {B d p : Nat} {ns : List Nd} {v : Value} {w : World} (h : DictOk B d ns p v w) (hp : ns.length = 2 * p) :
    CellsAre (From B) w v (ns.length / 2) 1 (fun i cur => ∀ k z, ns[2 * i]? = some k → ns[2 * i + 1]? = some z → ∃ b x1 x2, From B b ∧ cur[i]? = some (.pointer (some ⟨b, 0, none⟩)) ∧ w.heap[b]? = some (.cells #[x1, x2, .slice none 0 0] 216 (0, 0)) ∧ IfcTo (RepD (From B) d) w k x1 ∧ IfcTo (RepD (From B) d) w z x2) := by
  obtain ⟨xs, h1, h2⟩ := h
  have hl := h1.1
  rw [show ns.length / 2 = p by omega]
  rcases h1.2 with ⟨rfl, h0⟩ | ⟨g, cap, cur, rfl, hB, hg, hc1, hc2, hc3, hc4⟩
  · exact Or.inl ⟨h0, rfl⟩
  · refine Or.inr ⟨g, cap, cur, _, hB, rfl, hg, hc1, hc2, hc3, fun i hi k z hk hz => ?_⟩
    obtain ⟨y, hx⟩ : ∃ y, xs[i]? = some y := ⟨xs[i]'(by omega), List.getElem?_eq_getElem _⟩
    obtain ⟨b, x1, x2, hA, e1, hb, ⟨b1, q1, r1⟩, ⟨b2, q2, r2⟩⟩ := h2 i k z _ hk hz hx
    rw [← hc4] at hx
    rw [List.getElem?_take] at hx
    split at hx
    · exact ⟨b, x1, x2, hA.1, by rw [← e1]; simpa using hx, hb, ⟨b1, q1, r1.mono fun _ hb => hb.1⟩, ⟨b2, q2, r2.mono fun _ hb => hb.1⟩⟩
    · cases hx

set_option maxRecDepth 100000 in
set_option maxHeartbeats 2000000 in
theorem un_27 (d : Nat) (hU : UnC d) (n : Nd) (D : Nat) (w : World) (hL : LiesD D w n) (hG : PreD (d + 1) n) (hk : n.kind = 27) :
    Calls Tryz.prog 31 #[n.val] w (UnPost (d + 1) n w) := by
  obtain ⟨D, rfl⟩ : ∃ E, D = E + 1 := by cases D with | zero => exact hL.elim | succ E => exact ⟨E, rfl⟩
  obtain ⟨k, t, m, u, ao, cap, kids⟩ := n
  obtain rfl : k = 27 := hk
  have hn0 : (Nd.mk 27 t m u ao cap kids).kind ≠ 0 := by show (27 : Int) ≠ 0; decide
  have hn1 : (Nd.mk 27 t m u ao cap kids).kind ≠ 1 := by show (27 : Int) ≠ 1; decide
  have hks : ∀ (i : Nat) (x : Nd), kids[i]? = some x → GoodD d x ∧ x.kind ∈ ([16, 17, 18, 19, 20, 21, 22, 23, 24, 25, 26, 27, 28, 30, 33, 34, 35, 36, 37, 38, 39, 41, 42, 43] : List Int) := by
    intro i x hx
    obtain ⟨hP, hC⟩ := hG.kid (i := i) (x := x) hn0 hx
    have e1 : (fixedL 27).getD i (restL 27) = 0 := by rw [show fixedL 27 = [] from by decide, show restL 27 = 0 from by decide]; simp
    have hC2 : ofClassB x 0 = true := by rw [← e1]; exact hC hn1
    have hkx := class_0 hC2
    exact ⟨hP.good (expr_walk hkx), hkx⟩
  have hev : kids.length % 2 = 0 := (hG.fit hn0).2.2.2.2.2 rfl
  have hsm : kids.length ≤ 1000 := by have := hG.small; simp only [Nd.kids] at this; omega
  obtain ⟨i0, hi, hz0, hz1, hz2⟩ := info_parts infoDict
  obtain ⟨p, hlen⟩ : ∃ p, kids.length = 2 * p := ⟨kids.length / 2, by omega⟩
  have hp : p ≤ 500 := by omega
  have HKS := Lib.hid hks
  have HL := Lib.hid hL
  have HN := Lib.hid hlen
  obtain ⟨len, hlen2⟩ : ∃ len, kids.length = len := ⟨_, rfl⟩
  have HLP := Lib.hid (show len = 2 * p from by omega)
  have HN2 := Lib.hid hlen2
  show Calls _ _ #[.agg #[.int .i64 27, .string t, .string m, .int .u64 u, .slice ao kids.length cap]] w _
  rw [hlen2]
  clear hn0 hn1 hks hL hG hev hsm hlen hlen2
  go_enter Tryz.func31, Tryz.ntmps31
  go_wp2_with fail
  go_loopg [6] p (fun gk i wr => ∃ (j : Nat) (ao' : Option Addr) (cap' : Nat), j ≤ p ∧ gk = p - j ∧ i = .int .i64 ((2 * j : Nat) : Int) ∧ Hid (DictOk (w.heap.size + 2) d kids j (.slice ao' j cap') wr) ∧ Hid (wr.heap[w.heap.size + 1]? = some (.cells #[.pointer none, .slice none 0 0, .slice none 0 0, .slice none 0 0, .slice ao' j cap', .slice none 0 0] 213 (0, 0))) ∧ Hid (Below w.heap.size w wr) ∧ Hid (wr.heap[w.heap.size]? = some (.cells #[.int .i64 27, .string t, .string m, .int .u64 u, .slice ao len cap] 25 (0, 0))))
  case atStart =>
    refine ⟨0, none, 0, by omega, by omega, rfl, Lib.hid ⟨[], ⟨rfl, Or.inl ⟨rfl, rfl⟩⟩, by intro i k z x _ _ h; simp at h⟩, Lib.hid ?_, Lib.hid (((Below.refl _ _).alloc (Nat.le_refl _) _).alloc (by simp) _), Lib.hid ?_⟩
    · have := heap_alloc_new (w.alloc (.cells #[.int .i64 27, .string t, .string m, .int .u64 u, .slice ao len cap] 25)) (.cells #[.pointer none, .slice none 0 0, .slice none 0 0, .slice none 0 0, .slice none 0 0, .slice none 0 0] 213)
      simpa using this
    · rw [heap_alloc_old _ _ (by simp)]
      exact heap_alloc_new _ _
  case round =>
    obtain ⟨j, ao', cap', hj, rfl, rfl, hO, hX, hB, hN⟩ := hrel
    have b4 : wr.cell? ⟨w.heap.size, 4, none⟩ = some (.slice ao len cap) := by rw [Lib.cell_of_heap hN.out]; rfl
    have x4 : wr.cell? ⟨w.heap.size + 1, 4, none⟩ = some (.slice ao' j cap') := by rw [Lib.cell_of_heap hX.out]; rfl
    have xf : wr.frozen? ⟨w.heap.size + 1, 4, none⟩ = false := Lib.frozen_of_heap hX.out 4
    by_cases hjn : j < p
    · have hjz : ((2 * j : Nat) : Int) + 1 < (len : Int) := by have := HLP.out; omega
      have hjz0 : ((2 * j : Nat) : Int) < (len : Int) := by have := HLP.out; omega
      have hj0 : (0 : Int) ≤ 2 * (j : Int) := by omega
      have hj1 : 2 * (j : Int) < (len : Int) := by have := HLP.out; omega
      have hj2 : (0 : Int) ≤ 2 * (j : Int) + 1 := by omega
      have hj3 : 2 * (j : Int) + 1 < (len : Int) := by have := HLP.out; omega
      have hj4 : (2 * (j : Int)).toNat = 2 * j := by omega
      have hj6 : IntKind.i64.wrap (2 * (j : Int) + 1) = 2 * (j : Int) + 1 := by
        have e : (2 * (j : Int) + 1) % 2 ^ 64 = 2 * (j : Int) + 1 := Int.emod_eq_of_lt (by omega) (by omega)
        simp only [IntKind.wrap, IntKind.bits, IntKind.signed, e]
        rw [if_neg]
        simp
        omega
      have hj5 : (2 * (j : Int) + 1).toNat = 2 * j + 1 := by omega
      obtain ⟨x, hx⟩ : ∃ x, kids[2 * j]? = some x := ⟨kids[2 * j]'(by have := HN.out; omega), List.getElem?_eq_getElem _⟩
      obtain ⟨z, hz⟩ : ∃ z, kids[2 * j + 1]? = some z := ⟨kids[2 * j + 1]'(by have := HN.out; omega), List.getElem?_eq_getElem _⟩
      obtain ⟨b, o, hao, c0, c1, c2, c3, c4, hLx⟩ := kid_cells HL.out hx hB.out
      obtain rfl : ao = some ⟨b, o, none⟩ := hao
      obtain ⟨b2, o2, hao2, d0, d1, d2, d3, d4, hLz⟩ := kid_cells HL.out hz hB.out
      cases hao2
      have HXX := Lib.hid hx
      have HZ := Lib.hid hz
      have HLX := Lib.hid hLx
      have HLZ := Lib.hid hLz
      have hblt : b < w.heap.size := by
        obtain ⟨⟨b', o', ha, hc⟩, -⟩ := HL.out.2 (2 * j) x HXX.out
        cases ha
        exact hc.lt
      clear hx hz hLx hLz
      have HSH := Lib.hid (show ∀ w' : World, w'.heap[w.heap.size]? = wr.heap[w.heap.size]? → w'.heap[w.heap.size + 1]? = wr.heap[w.heap.size + 1]? → w'.heap[b]? = wr.heap[b]? → (w'.cell? ⟨w.heap.size, 4, none⟩ = some (.slice (some ⟨b, o, none⟩) len cap) ∧ w'.cell? ⟨w.heap.size + 1, 4, none⟩ = some (.slice ao' j cap') ∧ w'.cell? ⟨b, o + 2 * j * 5, none⟩ = some (.int .i64 x.kind) ∧ w'.cell? ⟨b, o + 2 * j * 5 + 1, none⟩ = some (.string x.text) ∧ w'.cell? ⟨b, o + 2 * j * 5 + 2, none⟩ = some (.string x.more) ∧ w'.cell? ⟨b, o + 2 * j * 5 + 3, none⟩ = some (.int .u64 x.num) ∧ w'.cell? ⟨b, o + 2 * j * 5 + 4, none⟩ = some (.slice x.ao x.kids.length x.cap) ∧ w'.cell? ⟨b, o + (2 * j + 1) * 5, none⟩ = some (.int .i64 z.kind) ∧ w'.cell? ⟨b, o + (2 * j + 1) * 5 + 1, none⟩ = some (.string z.text) ∧ w'.cell? ⟨b, o + (2 * j + 1) * 5 + 2, none⟩ = some (.string z.more) ∧ w'.cell? ⟨b, o + (2 * j + 1) * 5 + 3, none⟩ = some (.int .u64 z.num) ∧ w'.cell? ⟨b, o + (2 * j + 1) * 5 + 4, none⟩ = some (.slice z.ao z.kids.length z.cap)) from by
        intro w' e1 e2 e3
        have f : ∀ c, w'.heap[c]? = wr.heap[c]? → ∀ o, w'.cell? ⟨c, o, none⟩ = wr.cell? ⟨c, o, none⟩ := fun c e o => by unfold World.cell?; rw [e]
        exact ⟨(f _ e1 _).trans b4, (f _ e2 _).trans x4, (f _ e3 _).trans c0, (f _ e3 _).trans c1, (f _ e3 _).trans c2, (f _ e3 _).trans c3, (f _ e3 _).trans c4, (f _ e3 _).trans d0, (f _ e3 _).trans d1, (f _ e3 _).trans d2, (f _ e3 _).trans d3, (f _ e3 _).trans d4⟩)
      have HSW := Lib.hid (show ∀ w' : World, Below wr.heap.size wr w' → (w'.cell? ⟨w.heap.size, 4, none⟩ = some (.slice (some ⟨b, o, none⟩) len cap) ∧ w'.cell? ⟨w.heap.size + 1, 4, none⟩ = some (.slice ao' j cap') ∧ w'.cell? ⟨b, o + 2 * j * 5, none⟩ = some (.int .i64 x.kind) ∧ w'.cell? ⟨b, o + 2 * j * 5 + 1, none⟩ = some (.string x.text) ∧ w'.cell? ⟨b, o + 2 * j * 5 + 2, none⟩ = some (.string x.more) ∧ w'.cell? ⟨b, o + 2 * j * 5 + 3, none⟩ = some (.int .u64 x.num) ∧ w'.cell? ⟨b, o + 2 * j * 5 + 4, none⟩ = some (.slice x.ao x.kids.length x.cap) ∧ w'.cell? ⟨b, o + (2 * j + 1) * 5, none⟩ = some (.int .i64 z.kind) ∧ w'.cell? ⟨b, o + (2 * j + 1) * 5 + 1, none⟩ = some (.string z.text) ∧ w'.cell? ⟨b, o + (2 * j + 1) * 5 + 2, none⟩ = some (.string z.more) ∧ w'.cell? ⟨b, o + (2 * j + 1) * 5 + 3, none⟩ = some (.int .u64 z.num) ∧ w'.cell? ⟨b, o + (2 * j + 1) * 5 + 4, none⟩ = some (.slice z.ao z.kids.length z.cap)) from fun w' hb =>
        HSH.out w' (hb.block _ (block_lt_of_cell b4)) (hb.block _ (block_lt_of_cell x4)) (hb.block _ (block_lt_of_cell c0)))
      go_wp2_with fail
      refine headBegin (S := fun w' => w'.cell? ⟨w.heap.size, 4, none⟩ = some (.slice (some ⟨b, o, none⟩) len cap) ∧ w'.cell? ⟨w.heap.size + 1, 4, none⟩ = some (.slice ao' j cap') ∧ w'.cell? ⟨b, o + 2 * j * 5, none⟩ = some (.int .i64 x.kind) ∧ w'.cell? ⟨b, o + 2 * j * 5 + 1, none⟩ = some (.string x.text) ∧ w'.cell? ⟨b, o + 2 * j * 5 + 2, none⟩ = some (.string x.more) ∧ w'.cell? ⟨b, o + 2 * j * 5 + 3, none⟩ = some (.int .u64 x.num) ∧ w'.cell? ⟨b, o + 2 * j * 5 + 4, none⟩ = some (.slice x.ao x.kids.length x.cap) ∧ w'.cell? ⟨b, o + (2 * j + 1) * 5, none⟩ = some (.int .i64 z.kind) ∧ w'.cell? ⟨b, o + (2 * j + 1) * 5 + 1, none⟩ = some (.string z.text) ∧ w'.cell? ⟨b, o + (2 * j + 1) * 5 + 2, none⟩ = some (.string z.more) ∧ w'.cell? ⟨b, o + (2 * j + 1) * 5 + 3, none⟩ = some (.int .u64 z.num) ∧ w'.cell? ⟨b, o + (2 * j + 1) * 5 + 4, none⟩ = some (.slice z.ao z.kids.length z.cap)) 22 (by kernel_rfl) ⟨b4, x4, c0, c1, c2, c3, c4, d0, d1, d2, d3, d4⟩ (fun hHeld => ?_)
      refine headTake (i := 0) (v := ?_) rfl (by kernel_rfl) (by kernel_rfl) (by kernel_rfl) (by kernel_rfl) (fun _ _ _ h => h) (Or.inl ⟨by rfl, ?_⟩) hHeld ?_
      rotate_left 1
      · intro w hSw
        go_split_ands
        go_simp
        try with_reducible rfl
      simp only [List.getElem_toArray, List.getElem_cons_zero, List.getElem_cons_succ, Act.put, List.setIfInBounds_toArray, List.set_cons_zero, List.set_cons_succ]
      refine headTake (i := 1) (v := ?_) rfl (by kernel_rfl) (by kernel_rfl) (by kernel_rfl) (by kernel_rfl) (fun _ _ _ h => h) (Or.inl ⟨by rfl, ?_⟩) hHeld ?_
      rotate_left 1
      · intro w hSw
        go_split_ands
        go_simp
        try with_reducible rfl
      simp only [List.getElem_toArray, List.getElem_cons_zero, List.getElem_cons_succ, Act.put, List.setIfInBounds_toArray, List.set_cons_zero, List.set_cons_succ]
      refine headTake (i := 2) (v := ?_) rfl (by kernel_rfl) (by kernel_rfl) (by kernel_rfl) (by kernel_rfl) (fun _ _ _ h => h) (Or.inl ⟨by rfl, ?_⟩) hHeld ?_
      rotate_left 1
      · intro w hSw
        go_split_ands
        go_simp
        try with_reducible rfl
      simp only [List.getElem_toArray, List.getElem_cons_zero, List.getElem_cons_succ, Act.put, List.setIfInBounds_toArray, List.set_cons_zero, List.set_cons_succ]
      refine headTake (i := 3) (v := ?_) rfl (by kernel_rfl) (by kernel_rfl) (by kernel_rfl) (by kernel_rfl) (fun _ _ _ h => h) (Or.inl ⟨by rfl, ?_⟩) hHeld ?_
      rotate_left 1
      · intro w hSw
        go_split_ands
        go_simp
        try with_reducible rfl
      simp only [List.getElem_toArray, List.getElem_cons_zero, List.getElem_cons_succ, Act.put, List.setIfInBounds_toArray, List.set_cons_zero, List.set_cons_succ]
      refine headTake (i := 4) (v := ?_) rfl (by kernel_rfl) (by kernel_rfl) (by kernel_rfl) (by kernel_rfl) (fun _ _ _ h => h) (Or.inl ⟨by rfl, ?_⟩) hHeld ?_
      rotate_left 1
      · intro w hSw
        go_split_ands
        go_simp
        try with_reducible rfl
      simp only [List.getElem_toArray, List.getElem_cons_zero, List.getElem_cons_succ, Act.put, List.setIfInBounds_toArray, List.set_cons_zero, List.set_cons_succ]
      refine headTake (i := 5) (v := ?_) rfl (by kernel_rfl) (by kernel_rfl) (by kernel_rfl) (by kernel_rfl) (fun _ _ _ h => h) (Or.inl ⟨by rfl, ?_⟩) hHeld ?_
      rotate_left 1
      · intro w hSw
        go_split_ands
        go_simp
        try with_reducible rfl
      simp only [List.getElem_toArray, List.getElem_cons_zero, List.getElem_cons_succ, Act.put, List.setIfInBounds_toArray, List.set_cons_zero, List.set_cons_succ]
      refine headTake (i := 6) (v := ?_) rfl (by kernel_rfl) (by kernel_rfl) (by kernel_rfl) (by kernel_rfl) (fun _ _ _ h => h) (Or.inl ⟨by rfl, ?_⟩) hHeld ?_
      rotate_left 1
      · intro w hSw
        go_split_ands
        go_simp
        try with_reducible rfl
      simp only [List.getElem_toArray, List.getElem_cons_zero, List.getElem_cons_succ, Act.put, List.setIfInBounds_toArray, List.set_cons_zero, List.set_cons_succ]
      refine headTake (i := 7) (v := ?_) rfl (by kernel_rfl) (by kernel_rfl) (by kernel_rfl) (by kernel_rfl) (fun _ _ _ h => h) (Or.inl ⟨by rfl, ?_⟩) hHeld ?_
      rotate_left 1
      · intro w hSw
        go_split_ands
        go_simp
        try with_reducible rfl
      simp only [List.getElem_toArray, List.getElem_cons_zero, List.getElem_cons_succ, Act.put, List.setIfInBounds_toArray, List.set_cons_zero, List.set_cons_succ]
      refine headTake (i := 8) (v := ?_) rfl (by kernel_rfl) (by kernel_rfl) (by kernel_rfl) (by kernel_rfl) (fun _ _ _ h => h) (Or.inl ⟨by rfl, ?_⟩) hHeld ?_
      rotate_left 1
      · intro w hSw
        go_split_ands
        go_simp
        try with_reducible rfl
      simp only [List.getElem_toArray, List.getElem_cons_zero, List.getElem_cons_succ, Act.put, List.setIfInBounds_toArray, List.set_cons_zero, List.set_cons_succ]
      refine headTake (i := 9) (v := ?_) rfl (by kernel_rfl) (by kernel_rfl) (by kernel_rfl) (by kernel_rfl) (fun _ _ _ h => h) (Or.inl ⟨by rfl, ?_⟩) hHeld ?_
      rotate_left 1
      · intro w hSw
        go_split_ands
        go_simp
        try with_reducible rfl
      simp only [List.getElem_toArray, List.getElem_cons_zero, List.getElem_cons_succ, Act.put, List.setIfInBounds_toArray, List.set_cons_zero, List.set_cons_succ]
      refine headTake (i := 11) (v := ?_) rfl (by kernel_rfl) (by kernel_rfl) (by kernel_rfl) (by kernel_rfl) (fun _ _ _ h => h) (Or.inl ⟨by rfl, ?_⟩) hHeld ?_
      rotate_left 1
      · intro w hSw
        go_split_ands
        go_simp
        try with_reducible rfl
      simp only [List.getElem_toArray, List.getElem_cons_zero, List.getElem_cons_succ, Act.put, List.setIfInBounds_toArray, List.set_cons_zero, List.set_cons_succ]
      refine headTake (i := 12) (v := ?_) rfl (by kernel_rfl) (by kernel_rfl) (by kernel_rfl) (by kernel_rfl) (fun _ _ _ h => h) (Or.inl ⟨by rfl, ?_⟩) hHeld ?_
      rotate_left 1
      · intro w hSw
        go_split_ands
        go_simp
        try with_reducible rfl
      simp only [List.getElem_toArray, List.getElem_cons_zero, List.getElem_cons_succ, Act.put, List.setIfInBounds_toArray, List.set_cons_zero, List.set_cons_succ]
      refine headTake (i := 13) (v := ?_) rfl (by kernel_rfl) (by kernel_rfl) (by kernel_rfl) (by kernel_rfl) (fun _ _ _ h => h) (Or.inl ⟨by rfl, ?_⟩) hHeld ?_
      rotate_left 1
      · intro w hSw
        go_split_ands
        go_simp
        try with_reducible rfl
      simp only [List.getElem_toArray, List.getElem_cons_zero, List.getElem_cons_succ, Act.put, List.setIfInBounds_toArray, List.set_cons_zero, List.set_cons_succ]
      refine headTake (i := 14) (v := ?_) rfl (by kernel_rfl) (by kernel_rfl) (by kernel_rfl) (by kernel_rfl) (fun _ _ _ h => h) (Or.inl ⟨by rfl, ?_⟩) hHeld ?_
      rotate_left 1
      · intro w hSw
        go_split_ands
        go_simp
        try with_reducible rfl
      simp only [List.getElem_toArray, List.getElem_cons_zero, List.getElem_cons_succ, Act.put, List.setIfInBounds_toArray, List.set_cons_zero, List.set_cons_succ]
      refine headTake (i := 15) (v := ?_) rfl (by kernel_rfl) (by kernel_rfl) (by kernel_rfl) (by kernel_rfl) (fun _ _ _ h => h) (Or.inl ⟨by rfl, ?_⟩) hHeld ?_
      rotate_left 1
      · intro w hSw
        go_split_ands
        go_simp
        try with_reducible rfl
      simp only [List.getElem_toArray, List.getElem_cons_zero, List.getElem_cons_succ, Act.put, List.setIfInBounds_toArray, List.set_cons_zero, List.set_cons_succ]
      refine headTake (i := 16) (v := ?_) rfl (by kernel_rfl) (by kernel_rfl) (by kernel_rfl) (by kernel_rfl) (fun _ _ _ h => h) (Or.inl ⟨by rfl, ?_⟩) hHeld ?_
      rotate_left 1
      · intro w hSw
        go_split_ands
        go_simp
        try with_reducible rfl
      simp only [List.getElem_toArray, List.getElem_cons_zero, List.getElem_cons_succ, Act.put, List.setIfInBounds_toArray, List.set_cons_zero, List.set_cons_succ]
      refine headStep (i := 10) rfl (by kernel_rfl) (fun K hK => ?_)
      go_simp
      go_at_call 73
      refine (nodeOfExpression d hU x D _ (HLX.out.below (Below.refl _ _).drew) (HKS.out _ x HXX.out).1 (HKS.out _ x HXX.out).2).mono ?_
      rintro e w1 ⟨e1, rfl, hR1, hb1⟩
      have HB1 := Lib.hid ((Below.refl wr.heap.size wr).drew.trans (hb1.mono (Nat.le_refl _)))
      have HR1 := Lib.hid hR1
      clear hb1 hR1 hHeld
      refine hK.out _ _ ⟨fun _ => HSW.out w1 HB1.out, fun hS => ?_⟩
      have hHeld := hS (by decide)
      clear hS hK K
      refine headStep (i := 17) rfl (by kernel_rfl) (fun K hK => ?_)
      go_simp
      go_at_call 73
      refine (nodeOfExpression d hU z D w1 (HLZ.out.below HB1.out) (HKS.out _ z HZ.out).1 (HKS.out _ z HZ.out).2).mono ?_
      rintro e w2 ⟨e2, rfl, hR2, hb2⟩
      have HB2 := Lib.hid (HB1.out.trans (hb2.mono HB1.out.size))
      have HR2 := Lib.hid hR2
      have HR3 := Lib.hid (HR1.out.below hb2)
      clear hb2 hR2 hHeld
      refine hK.out _ _ ⟨fun _ => HSW.out w2 HB2.out, fun hS => ?_⟩
      have hHeld := hS (by decide)
      clear hS hK K
      refine headTake (i := 18) (v := ?_) rfl (by kernel_rfl) (by kernel_rfl) (by kernel_rfl) (by kernel_rfl) (fun _ _ _ h => h) (Or.inl ⟨by rfl, ?_⟩) hHeld ?_
      rotate_left 1
      · intro w hSw
        go_split_ands
        go_simp
        try with_reducible rfl
      simp only [List.getElem_toArray, List.getElem_cons_zero, List.getElem_cons_succ, Act.put, List.setIfInBounds_toArray, List.set_cons_zero, List.set_cons_succ]
      refine headStep (i := 19) rfl (by kernel_rfl) (fun K hK => ?_)
      go_simp
      have HB3 := Lib.hid (HB2.out.alloc (HB2.out.size) (.cells #[.iface (pTy x.kind) (.pointer (some ⟨e1, 0, none⟩)), .iface (pTy z.kind) (.pointer (some ⟨e2, 0, none⟩)), .slice none 0 0] 216))
      clear hHeld
      refine hK.out _ _ ⟨fun _ => HSW.out _ HB3.out, fun hS => ?_⟩
      have hHeld := hS (by decide)
      clear hS hK K
      refine headStep (i := 20) rfl (by kernel_rfl) (fun K hK => ?_)
      go_simp
      have HB4 := Lib.hid (HB3.out.alloc (HB3.out.size) (.cells #[.pointer (some ⟨w2.heap.size, 0, none⟩)] 214))
      clear hHeld
      refine hK.out _ _ ⟨fun _ => HSW.out _ HB4.out, fun hS => ?_⟩
      have hHeld := hS (by decide)
      clear hS hK K
      obtain ⟨xs, hown0, -⟩ := hO.out
      have HOW := Lib.hid (show World.ownsRow _ (w.heap.size + 2) 214 1 (.slice ao' j cap') j xs from hown0.kept ⟨HB4.out.os, HB4.out.tape, HB4.out.output, HB4.out.size, fun i hi _ => HB4.out.block i hi⟩ (row := none) (by
        cases hv : (Value.slice ao' j cap').ownBlock with
        | none => exact Or.inl rfl
        | some g => exact Or.inr (by simp)))
      have HOW0 := Lib.hid hown0
      have HA := Lib.hid (show ∀ c, wr.heap.size ≤ c → w.heap.size + 2 ≤ c ∧ some c ≠ (Value.slice ao' j cap').ownBlock from by
        intro c hc
        have l1 : w.heap.size + 1 < wr.heap.size := block_lt_of_cell x4
        refine ⟨by omega, fun e => ?_⟩
        have := (World.ownsRow.lt hown0 c e.symm).2
        omega)
      clear hown0
      refine headStep (i := 21) rfl (by kernel_rfl) (fun K hK => ?_)
      refine step_append_lies _ rfl _ _ 211 rfl (w.heap.size + 2) 214 i0 (.pointer none) 1 8 undDict hi hz0 hz1 hz2 rfl (by decide) _ _ _ rfl HOW.out ⟨w2.heap.size + 1, 0, none⟩ 1 1 [.pointer (some ⟨w2.heap.size, 0, none⟩)] rfl rfl ?c1 ?c2 (by decide) ?c3 ?c4 ?c5 _ rfl ?_
      case c1 =>
        intro i v hv
        have hblk : ∀ o1 o2, ((w2.alloc o1).alloc o2).heap[w2.heap.size + 1]? = some o2 := fun o1 o2 => by have := heap_alloc_new (w2.alloc o1) o2; simpa using this
        rw [add0, Lib.cell_of_heap (hblk _ _)]
        simpa using hv
      case c2 => intro v hv; simp at hv; subst hv; rfl
      case c3 => unfold maxLen; omega
      case c4 => omega
      case c5 =>
        have l1 : w.heap.size + 1 < wr.heap.size := block_lt_of_cell x4
        have := HB4.out.size
        omega
      intro g cap2 w3 hown' hgrow hat hglt
      have HIT := Lib.hid (show ItemAt (fun c => w.heap.size + 2 ≤ c ∧ some c ≠ (Value.slice ao' j cap').ownBlock) d ((w2.alloc (.cells #[.iface (pTy x.kind) (.pointer (some ⟨e1, 0, none⟩)), .iface (pTy z.kind) (.pointer (some ⟨e2, 0, none⟩)), .slice none 0 0] 216)).alloc (.cells #[.pointer (some ⟨w2.heap.size, 0, none⟩)] 214)) x z (.pointer (some ⟨w2.heap.size, 0, none⟩)) from
        ⟨w2.heap.size, _, _, HA.out _ HB2.out.size, rfl, (by rw [heap_alloc_old _ _ (by simp)]; exact heap_alloc_new _ _), ⟨e1, rfl, (HR3.out.mono fun c hc => HA.out c hc).below (((Below.refl w2.heap.size w2).alloc (Nat.le_refl _) _).alloc (by simp) _)⟩, ⟨e2, rfl, (HR2.out.mono fun c hc => HA.out c (Nat.le_trans HB1.out.size hc)).below (((Below.refl w2.heap.size w2).alloc (Nat.le_refl _) _).alloc (by simp) _)⟩⟩)
      have HO2 := Lib.hid (DictOk.next (u := .slice (some ⟨g, 0, none⟩) (j + 1) cap2) hO.out HOW0.out HB4.out HXX.out HZ.out HIT.out hown' rfl hgrow hat)
      have hgs := hgrow.size
      have hbx : w3.heap[w.heap.size + 1]? = some (.cells #[.pointer none, .slice none 0 0, .slice none 0 0, .slice none 0 0, .slice ao' j cap', .slice none 0 0] 213 (0, 0)) := by
        have l1 : w.heap.size + 1 < wr.heap.size := block_lt_of_cell x4
        have hne : some (w.heap.size + 1) ≠ (Value.slice ao' j cap').ownBlock := fun e => by
          have := (World.ownsRow.lt HOW0.out _ e.symm).1
          omega
        rw [hgrow.block _ (Nat.lt_of_lt_of_le l1 HB4.out.size) hne, HB4.out.block _ l1]
        exact hX.out
      have hbn : w3.heap[w.heap.size]? = some (.cells #[.int .i64 27, .string t, .string m, .int .u64 u, .slice (some ⟨b, o, none⟩) len cap] 25 (0, 0)) := by
        have l1 : w.heap.size < wr.heap.size := block_lt_of_cell b4
        have hne : some (w.heap.size) ≠ (Value.slice ao' j cap').ownBlock := fun e => by
          have := (World.ownsRow.lt HOW0.out _ e.symm).1
          omega
        rw [hgrow.block _ (Nat.lt_of_lt_of_le l1 HB4.out.size) hne, HB4.out.block _ l1]
        exact hN.out
      have y4 : w3.cell? ⟨w.heap.size + 1, 4, none⟩ = some (.slice ao' j cap') := by rw [Lib.cell_of_heap hbx]; rfl
      have yf : w3.frozen? ⟨w.heap.size + 1, 4, none⟩ = false := Lib.frozen_of_heap hbx 4
      have HX3 : Hid ((w3.setCell ⟨w.heap.size + 1, 4, none⟩ (.slice (some ⟨g, 0, none⟩) (j + 1) cap2)).heap[w.heap.size + 1]? = some (.cells #[.pointer none, .slice none 0 0, .slice none 0 0, .slice none 0 0, .slice (some ⟨g, 0, none⟩) (j + 1) cap2, .slice none 0 0] 213 (0, 0))) := Lib.hid (by simp [World.setCell, Array.getElem?_modify, hbx])
      have HN3 : Hid ((w3.setCell ⟨w.heap.size + 1, 4, none⟩ (.slice (some ⟨g, 0, none⟩) (j + 1) cap2)).heap[w.heap.size]? = some (.cells #[.int .i64 27, .string t, .string m, .int .u64 u, .slice (some ⟨b, o, none⟩) len cap] 25 (0, 0))) := Lib.hid ((Below.heap_setCell _ _ _ _ (by simp)).trans hbn)
      have HB5 : Hid (Below w.heap.size w (w3.setCell ⟨w.heap.size + 1, 4, none⟩ (.slice (some ⟨g, 0, none⟩) (j + 1) cap2))) := Lib.hid (Below.setCell ((hB.out.trans (HB4.out.mono hB.out.size)).grown hgrow (Nat.le_trans hB.out.size HB4.out.size) (fun c hc => by
          have := (World.ownsRow.lt HOW0.out _ hc).1
          omega)) (by simp) _)
      have hbb : w3.heap[b]? = wr.heap[b]? := by
        have l2 : b < wr.heap.size := block_lt_of_cell c0
        have hne : some b ≠ (Value.slice ao' j cap').ownBlock := fun e => by
          have := (World.ownsRow.lt HOW0.out _ e.symm).1
          omega
        rw [hgrow.block _ (Nat.lt_of_lt_of_le l2 HB4.out.size) hne, HB4.out.block _ l2]
      have HS3 := Lib.hid (HSH.out w3 (hbn.trans hN.out.symm) (hbx.trans hX.out.symm) hbb)
      clear hown' hgrow hat hbx hbn hHeld HIT hgs hbb
      refine hK.out _ _ ⟨fun _ => HS3.out, fun _ => ?_⟩
      clear hK K
      refine headStep (i := 22) rfl (by kernel_rfl) (fun K hK => ?_)
      go_simp
      refine hK.out _ _ ⟨fun h => absurd h (by decide), fun _ => ?_⟩
      clear hK K
      refine headStep (i := 23) rfl (by kernel_rfl) (fun K hK => ?_)
      go_simp
      refine hK.out _ _ ⟨fun h => absurd h (by decide), fun _ => ?_⟩
      clear hK K
      refine headStep (i := 24) rfl (by kernel_rfl) (fun K hK => ?_)
      go_simp
      refine hK.out _ _ ⟨fun h => absurd h (by decide), fun _ => ?_⟩
      clear hK K
      refine headDone (by kernel_rfl) ?_ _
      go_wp2_with fail
      go_roundg (p - (j + 1))
      case measure => omega
      case rel => exact ⟨j + 1, some ⟨g, 0, none⟩, cap2, by omega, rfl, by push_cast; rfl, HO2, HX3, HB5, HN3⟩
    · have hjz : ¬ ((2 * j : Nat) : Int) + 1 < (len : Int) := by have := HLP.out; omega
      obtain rfl : j = p := by omega
      go_wp2_with fail
      go_ret
      refine ⟨w.heap.size + 1, by rw [show pTy (Nd.kind (.mk 27 t m u ao cap kids)) = 210 from ptrTy_27]; rfl, ⟨Nat.le_succ _, [.pointer none, .slice none 0 0, .slice none 0 0, .slice none 0 0, .slice ao' j cap', .slice none 0 0], ?_, ?_⟩, hB.out⟩
      · rw [show sTy (Nd.kind (.mk 27 t m u ao cap kids)) = 213 from sTy_27]
        exact hX.out
      · rw [slots_27 _ rfl]
        exact ⟨rfl, rfl, rfl, rfl, (hO.out.done HN.out).carry (fun b o h1 h2 => ⟨h2, Nat.le_trans (Nat.le_add_right _ 2) h1⟩) (fun i cur _ h k z hk hz => by
          obtain ⟨b, x1, x2, g1, g2, g3, ⟨b1, q1, r1⟩, ⟨b2, q2, r2⟩⟩ := h k z hk hz
          exact ⟨b, x1, x2, Nat.le_trans (Nat.le_add_right _ 2) g1, g2, g3, ⟨b1, q1, r1.mono fun c hc => Nat.le_trans (Nat.le_add_right _ 2) hc⟩, ⟨b2, q2, r2.mono fun c hc => Nat.le_trans (Nat.le_add_right _ 2) hc⟩⟩), rfl, trivial⟩
end Go.Proofs.YtongafghllkomaaGreatDoor
