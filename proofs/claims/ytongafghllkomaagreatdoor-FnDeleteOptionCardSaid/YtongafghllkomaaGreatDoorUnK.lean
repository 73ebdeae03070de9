/-
  unnode kind by kind, part K: what it lays, given its own contract a level down. No conditions.
-/
import Derived.Test.YtongafghllkomaaGreatDoorUnF
namespace Go.Proofs.YtongafghllkomaaGreatDoor
open Go.RowKit
set_option linter.unusedVariables false


/-- One level more, for lists. -/
theorem CellsAre.up {ptr : Bool} {d B : Nat} {ns : List Nd} {w : World} {v : Value} (h : CellsAre (From B) w v ns.length 1 (fun i cur => ∀ n, ns[i]? = some n → ∃ x, cur[i]? = some x ∧ HeldBy ptr (RepD (From B) d) w n x)) :
    CellsAre (From B) w v ns.length 1 (fun i cur => ∀ n, ns[i]? = some n → ∃ x, cur[i]? = some x ∧ HeldBy ptr (RepD (From B) (d + 1)) w n x) :=
  CellsAre.carry h (fun b o hA hb => ⟨hb, hA⟩) (fun i x _ hx n hn => let ⟨y, h1, h2⟩ := hx n hn; ⟨y, h1, h2.imp fun b hr => hr.up⟩)

/-- A list's kids, by its class. -/
theorem list_good {d : Nat} {y : Nd} (hP : PreD (d + 1) y) (h1 : y.kind = 1) : ∀ x ∈ y.kids, PreD d x := by
  intro x hx
  obtain ⟨i, hi, e⟩ := List.mem_iff_getElem.1 hx
  exact (hP.kid (i := i) (x := x) (by omega) (by rw [List.getElem?_eq_getElem hi, e])).1

theorem class_16 {y : Nd} (h : ofClassB y 16 = true) : y.kind = 1 ∧ ∀ x ∈ y.kids, x.kind = 29 := by
  have h : ((y.kind == 1) && y.kids.all (fun x => [(29 : Int)].contains x.kind)) = true := h
  simp at h; exact h
theorem class_17 {y : Nd} (h : ofClassB y 17 = true) : y.kind = 1 ∧ ∀ x ∈ y.kids, x.kind = 5 := by
  have h : ((y.kind == 1) && y.kids.all (fun x => x.kind == 5)) = true := h
  simp at h; exact h
theorem class_18 {y : Nd} (h : ofClassB y 18 = true) : y.kind = 1 ∧ ∀ x ∈ y.kids, isStmtB x.kind = true := by
  have h : ((y.kind == 1) && y.kids.all (fun x => isStmtB x.kind)) = true := h
  simp at h; exact h
theorem store_carries {A : Nat → Prop} {c : Nat} {W w1 : World} {v : Value} {ob : Obj} (hb : Below (W.alloc ob).heap.size (W.alloc ob) w1) : Carries A A W (w1.setCell ⟨W.heap.size, c, none⟩ v) := by
  intro b' o hA hb'
  have hlt : b' < W.heap.size := (Array.getElem?_eq_some_iff.1 hb').1
  refine ⟨?_, hA⟩
  rw [Below.heap_setCell _ _ _ _ (fun e => by simp at e; omega), hb.block b' (by simp; omega), heap_alloc_old _ _ hlt]
  exact hb'

theorem CellsAre.store {ptr : Bool} {d B B' c : Nat} {ns : List Nd} {W w1 : World} {v y : Value} {ob : Obj} (h : CellsAre (From B) W v ns.length 1 (fun i cur => ∀ n, ns[i]? = some n → ∃ x, cur[i]? = some x ∧ HeldBy ptr (RepD (From B) d) W n x)) (hB : B' ≤ B) (hb : Below (W.alloc ob).heap.size (W.alloc ob) w1) :
    CellsAre (From B') (w1.setCell ⟨W.heap.size, c, none⟩ y) v ns.length 1 (fun i cur => ∀ n, ns[i]? = some n → ∃ x, cur[i]? = some x ∧ HeldBy ptr (RepD (From B') d) (w1.setCell ⟨W.heap.size, c, none⟩ y) n x) :=
  CellsAre.carry h (fun b o h1 h2 => ⟨(store_carries (A := From B) hb b o h1 h2).1, Nat.le_trans hB h1⟩) (fun i x _ hx n hn => let ⟨z, h1, h2⟩ := hx n hn; ⟨z, h1, h2.imp fun b hr => hr.carry (fun b o h1 h2 => ⟨(store_carries (A := From B) hb b o h1 h2).1, Nat.le_trans hB h1⟩)⟩)

/-- A store into a block that was made behind a node leaves it. -/
theorem RepD.store {A : Nat → Prop} {d b c : Nat} {W w1 : World} {n : Nd} {v : Value} {ob : Obj} (h : RepD A d W n b) (hb : Below (W.alloc ob).heap.size (W.alloc ob) w1) : RepD A d (w1.setCell ⟨W.heap.size, c, none⟩ v) n b := by
  refine h.carry fun b' o hA hb' => ⟨?_, hA⟩
  have hlt : b' < W.heap.size := (Array.getElem?_eq_some_iff.1 hb').1
  rw [Below.heap_setCell _ _ _ _ (fun e => by simp at e; omega), hb.block b' (by simp; omega), heap_alloc_old _ _ hlt]
  exact hb'

/-- A store into a block that was there ahead of a node leaves it. -/
theorem RepD.store2 {X d b B c : Nat} {w1 : World} {n : Nd} {v : Value} (h : RepD (From X) d w1 n b) (hX : B < X) : RepD (From X) d (w1.setCell ⟨B, c, none⟩ v) n b := by
  refine h.carry fun b' o hA hb' => ⟨?_, hA⟩
  rw [Below.heap_setCell _ _ _ _ (fun e => by simp at e; unfold From at hA; omega)]
  exact hb'

/-- What the block holds behind the store. -/
theorem block_set {W w1 : World} {cs : Array Value} {T : TypeId} {c : Nat} {v : Value} (hb : Below (W.alloc (.cells cs T)).heap.size (W.alloc (.cells cs T)) w1) : (w1.setCell ⟨W.heap.size, c, none⟩ v).heap[W.heap.size]? = some (.cells (cs.setIfInBounds c v) T (0, 0)) := by
  have h1 : w1.heap[W.heap.size]? = some (.cells cs T (0, 0)) := by
    rw [hb.block W.heap.size (by simp)]
    exact heap_alloc_new _ _
  simp [World.setCell, Array.getElem?_modify, h1]

theorem class_7 {x : Nd} (h : ofClassB x 7 = true) : x.kind = 6 ∨ x.kind ∈ exprL := by
  have h : ((x.kind == 6) || isExprB x.kind) = true := h
  rw [Bool.or_eq_true] at h
  rcases h with h | h
  · exact Or.inl (by simpa using h)
  · exact Or.inr (class_0 (x := x) h)

set_option maxRecDepth 100000 in
set_option maxHeartbeats 2000000 in
theorem un_20 (d : Nat) (hU : UnC (d + 1)) (hU2 : UnC d) (n : Nd) (D : Nat) (w : World) (hL : LiesD D w n) (hG : PreD (d + 1 + 1) n) (hk : n.kind = 20) :
    Calls Tryz.prog 31 #[n.val] w (UnPost (d + 1 + 1) n w) := by
  obtain ⟨D, rfl⟩ : ∃ E, D = E + 1 := by cases D with | zero => exact hL.elim | succ E => exact ⟨E, rfl⟩
  obtain ⟨k, t, m, u, ao, cap, kids⟩ := n
  obtain rfl : k = 20 := hk
  have hn0 : (Nd.mk 20 t m u ao cap kids).kind ≠ 0 := by show (20 : Int) ≠ 0; decide
  have hn1 : (Nd.mk 20 t m u ao cap kids).kind ≠ 1 := by show (20 : Int) ≠ 1; decide
  have hln : kids.length = 2 := by
    have h1 := ((hG.fit hn0).2.2.2.1 hn1)
    have e1 : (fixedL 20).length = 2 := by decide
    have e2 : restL 20 = 28 := by decide
    simp only [Nd.kind, Nd.kids] at h1
    rw [e1, e2] at h1
    omega
  obtain ⟨x0, x1, rfl⟩ : ∃ x y, kids = [x, y] := kids2 (n := Nd.mk 20 t m u ao cap kids) hln
  obtain ⟨b, o, hao0, p00, p01, p02, p03, p04, hLx0⟩ := kid_cells (j := 0) hL rfl (Below.refl _ _)
  obtain rfl : ao = some ⟨b, o, none⟩ := hao0
  obtain ⟨bq, oq, hao1, p10, p11, p12, p13, p14, hLx1⟩ := kid_cells (j := 1) hL rfl (Below.refl _ _)
  cases hao1
  obtain ⟨hP0, hC0⟩ := hG.kid (i := 0) (x := x0) hn0 rfl
  obtain ⟨hP1, hC1⟩ := hG.kid (i := 1) (x := x1) hn0 rfl
  obtain ⟨hk0, hk0s⟩ := class_16 (hC0 hn1)
  have hk1 : x1.kind = 6 ∨ x1.kind ∈ exprL := class_7 (hC1 hn1)
  simp only [Nat.zero_mul, Nat.add_zero, Nat.one_mul] at p00 p01 p02 p03 p04 p10 p11 p12 p13 p14
  obtain ⟨D2, rfl⟩ : ∃ E, D = E + 1 := by cases D with | zero => exact hLx0.elim | succ E => exact ⟨E, rfl⟩
  have HLL := Lib.hid (show ListLies D2 w x0.ao x0.kids from hLx0.2)
  have HKS := Lib.hid (show ∀ x ∈ x0.kids, GoodD d x ∧ x.kind ∈ ([29] : List Int) from fun x hx => ⟨(list_good hP0 hk0 x hx).good (by rw [hk0s x hx]; decide), by rw [hk0s x hx]; decide⟩)
  have HSM := Lib.hid (show x0.kids.length ≤ 1000 from by have := hP0.small; omega)
  have HG1 := Lib.hid (hP1.good (by rcases hk1 with h | h; (rw [h]; decide); exact expr_walk h))
  have HL1 := Lib.hid hLx1
  have hblt : b < w.heap.size := World.block_lt_of_cell? _ _ p00
  clear hn0 hn1 hln hP0 hC0 hP1 hC1 hk0 hk0s hk1 hLx0 hLx1 hL hG
  show Calls _ _ #[.agg #[.int .i64 20, .string t, .string m, .int .u64 u, .slice (some ⟨b, o, none⟩) 2 cap]] w _
  go_enter Tryz.func31, Tryz.ntmps31
  go_wp2_with fail
  refine (exactly_any _ _ _ _ _ 2 _ _).mono ?_
  rintro e w1 ⟨rfl, hb1⟩
  have hz1 : w.heap.size < w1.heap.size := by have := hb1.size; simp at this; omega
  have HB1 := Lib.hid (((Below.refl w.heap.size w).alloc (Nat.le_refl _) _).trans (hb1.mono (by simp)))
  obtain ⟨k0, -⟩ := bblk hb1 (b := w.heap.size) (by simp)
  obtain ⟨k1, -⟩ := bblk hb1 (b := b) (by simp; omega)
  clear hb1
  go_wp2_with fail
  go_region_held3 (fun w' => (w'.cell? ⟨w.heap.size, 4, none⟩ = some (.slice (some ⟨b, o, none⟩) 2 cap) ∧ w'.cell? ⟨b, o + 4, none⟩ = some (.slice x0.ao x0.kids.length x0.cap) ∧ w'.cell? ⟨b, o + 5, none⟩ = some (.int .i64 x1.kind) ∧ w'.cell? ⟨b, o + 5 + 1, none⟩ = some (.string x1.text) ∧ w'.cell? ⟨b, o + 5 + 2, none⟩ = some (.string x1.more) ∧ w'.cell? ⟨b, o + 5 + 3, none⟩ = some (.int .u64 x1.num) ∧ w'.cell? ⟨b, o + 5 + 4, none⟩ = some (.slice x1.ao x1.kids.length x1.cap))) (go_keep) (first | (go_at_call 78; refine (nodesOfProperty d hU2 D2 x0.kids x0.ao x0.cap _ HSM.out (by first | exact HLL.out.below HB1.out | exact HLL.out.below (HB1.out.drew) | exact HLL.out.below ‹Below w.heap.size w _› | exact HLL.out.below (Below.drew ‹Below w.heap.size w _›)) HKS.out).mono ?_; rintro e c0w ⟨ao1, cap1, rfl, hcs, hb0⟩; have HZ0 : Below w.heap.size w c0w := (by first | exact Below.trans ‹Below w.heap.size w _› (hb0.mono (Below.size ‹Below w.heap.size w _›)) | exact Below.trans (Below.drew ‹Below w.heap.size w _›) (hb0.mono (by have := Below.size ‹Below w.heap.size w _›; simpa using this)) | exact HB1.out.trans (hb0.mono HB1.out.size) | exact (HB1.out.drew).trans (hb0.mono (by have := HB1.out.size; simpa using this))); have hz0 : w.heap.size < c0w.heap.size := (by have h := hb0.size; (try simp at h); omega); obtain ⟨ka0, -⟩ := bblk hb0 (b := w.heap.size) (by first | omega | (simp; omega)); obtain ⟨kb0, -⟩ := bblk hb0 (b := b) (by first | omega | (simp; omega))) | (go_at_call 31; refine (hU x1 (D2 + 1) _ (by first | exact HL1.out.below HB1.out | exact HL1.out.below (HB1.out.drew) | exact HL1.out.below ‹Below w.heap.size w _› | exact HL1.out.below (Below.drew ‹Below w.heap.size w _›)) HG1.out).mono ?_; rintro e c1w ⟨b1, rfl, hR1, hb1⟩; have HZ1 : Below w.heap.size w c1w := (by first | exact Below.trans ‹Below w.heap.size w _› (hb1.mono (Below.size ‹Below w.heap.size w _›)) | exact Below.trans (Below.drew ‹Below w.heap.size w _›) (hb1.mono (by have := Below.size ‹Below w.heap.size w _›; simpa using this)) | exact HB1.out.trans (hb1.mono HB1.out.size) | exact (HB1.out.drew).trans (hb1.mono (by have := HB1.out.size; simpa using this))); have hz1 : w.heap.size < c1w.heap.size := (by have h := hb1.size; (try simp at h); omega); obtain ⟨ka1, -⟩ := bblk hb1 (b := w.heap.size) (by first | omega | (simp; omega)); obtain ⟨kb1, -⟩ := bblk hb1 (b := b) (by first | omega | (simp; omega))))
  go_wp2_with fail
  go_ret
  refine unpost _ ptrTy_20 sTy_20 rfl HZ1 ?_
  rw [slots_20 _ rfl]
  exact ⟨rfl, rfl, rfl, rfl, CellsAre.fin (CellsAre.up hcs) ((by first | exact hb1 | (have h := hb1; simpa using h) : Below c0w.heap.size c0w c1w).alloc (by first | omega | exact Below.size hb1) _) (by first | omega | (simp; omega)), rfl, rfl, ⟨b1, rfl, ((hR1.mono (From.le (by first | omega | (simp; omega)))).below ((Below.refl _ _).alloc (Nat.le_refl _) _))⟩, trivial⟩

set_option maxRecDepth 100000 in
set_option maxHeartbeats 2000000 in
theorem un_19 (d : Nat) (hU : UnC d) (n : Nd) (D : Nat) (w : World) (hL : LiesD D w n) (hG : PreD (d + 1) n) (hk : n.kind = 19) :
    Calls Tryz.prog 31 #[n.val] w (UnPost (d + 1) n w) := by
  obtain ⟨D, rfl⟩ : ∃ E, D = E + 1 := by cases D with | zero => exact hL.elim | succ E => exact ⟨E, rfl⟩
  obtain ⟨k, t, m, u, ao, cap, kids⟩ := n
  obtain rfl : k = 19 := hk
  have hn0 : (Nd.mk 19 t m u ao cap kids).kind ≠ 0 := by show (19 : Int) ≠ 0; decide
  have hn1 : (Nd.mk 19 t m u ao cap kids).kind ≠ 1 := by show (19 : Int) ≠ 1; decide
  have hln : kids.length = 2 := by
    have h1 := ((hG.fit hn0).2.2.2.1 hn1)
    have e1 : (fixedL 19).length = 2 := by decide
    have e2 : restL 19 = 28 := by decide
    simp only [Nd.kind, Nd.kids] at h1
    rw [e1, e2] at h1
    omega
  obtain ⟨x0, x1, rfl⟩ : ∃ x y, kids = [x, y] := kids2 (n := Nd.mk 19 t m u ao cap kids) hln
  obtain ⟨b, o, hao0, p00, p01, p02, p03, p04, hLx0⟩ := kid_cells (j := 0) hL rfl (Below.refl _ _)
  obtain rfl : ao = some ⟨b, o, none⟩ := hao0
  obtain ⟨bq, oq, hao1, p10, p11, p12, p13, p14, hLx1⟩ := kid_cells (j := 1) hL rfl (Below.refl _ _)
  cases hao1
  obtain ⟨hP0, hC0⟩ := hG.kid (i := 0) (x := x0) hn0 rfl
  obtain ⟨hP1, hC1⟩ := hG.kid (i := 1) (x := x1) hn0 rfl
  have hk0 : x0.kind ∈ exprL := class_0 (hC0 hn1)
  have hk1 : x1.kind = 16 := by simpa using class_few [16] rfl (hC1 hn1)
  simp only [Nat.zero_mul, Nat.add_zero, Nat.one_mul] at p00 p01 p02 p03 p04 p10 p11 p12 p13 p14
  have hkz : (x1.kind != 0) = true := by rw [hk1]; rfl
  have HG0 := Lib.hid (hP0.good (expr_walk hk0))
  have HG1 := Lib.hid (hP1.good (by rw [hk1]; decide))
  have HK0 := Lib.hid hk0
  have HK1 := Lib.hid hk1
  have HL0 := Lib.hid hLx0
  have HL1 := Lib.hid hLx1
  have hblt : b < w.heap.size := World.block_lt_of_cell? _ _ p00
  clear hn0 hn1 hln hP0 hC0 hP1 hC1 hk0 hk1 hLx0 hLx1 hL hG
  show Calls _ _ #[.agg #[.int .i64 19, .string t, .string m, .int .u64 u, .slice (some ⟨b, o, none⟩) 2 cap]] w _
  go_enter Tryz.func31, Tryz.ntmps31
  go_wp2_with fail
  refine (exactly_any _ _ _ _ _ 2 _ _).mono ?_
  rintro e w1 ⟨rfl, hb1⟩
  have hz1 : w.heap.size < w1.heap.size := by have := hb1.size; simp at this; omega
  have HB1 := Lib.hid (((Below.refl w.heap.size w).alloc (Nat.le_refl _) _).trans (hb1.mono (by simp)))
  obtain ⟨k0, -⟩ := bblk hb1 (b := w.heap.size) (by simp)
  obtain ⟨k1, -⟩ := bblk hb1 (b := b) (by simp; omega)
  clear hb1
  go_wp2_with fail
  refine (nodeOfExpression d hU x0 D _ (HL0.out.below HB1.out) HG0.out HK0.out).mono ?_
  rintro e c0w ⟨b0, rfl, hR0, hb0⟩
  have HZ0 := Lib.hid (HB1.out.trans (hb0.mono HB1.out.size))
  have hz0 : w.heap.size < c0w.heap.size := by have := hb0.size; omega
  have hbz : b < c0w.heap.size := by omega
  obtain ⟨ka0, -⟩ := bblk hb0 (b := w.heap.size) (by omega)
  obtain ⟨kb0, -⟩ := bblk hb0 (b := b) (by omega)
  have HR0 := Lib.hid (hR0.mono (From.le HB1.out.size))
  clear hR0 hb0
  go_wp2_with fail
  refine (nodeOf_16 d hU x1 D _ (HL1.out.below (HZ0.out.alloc HZ0.out.size _)) HG1.out HK1.out).mono ?_
  rintro e c1w ⟨b1, rfl, hR1, hb1⟩
  have HB := Lib.hid hb1
  have HR1 := Lib.hid hR1
  have hz2 : c0w.heap.size < c1w.heap.size := by have := hb1.size; simp at this; omega
  obtain ⟨ka1, fa1⟩ := bblk hb1 (b := c0w.heap.size) (by simp)
  clear hb1 hR1
  go_wp2_with fail
  go_ret
  refine ⟨c0w.heap.size, by rw [show pTy (Nd.kind (.mk 19 t m u (some ⟨b, o, none⟩) cap [x0, x1])) = 178 from ptrTy_19]; rfl, ⟨HZ0.out.size, [.pointer none, .slice none 0 0, .slice none 0 0, .iface (pTy x0.kind) (.pointer (some ⟨b0, 0, none⟩)), .pointer (some ⟨b1, 0, none⟩)], ?_, ?_⟩, ?_⟩
  rotate_left
  · rw [slots_19 _ rfl]
    exact ⟨rfl, rfl, rfl, ⟨b0, rfl, HR0.out.store HB.out⟩, ⟨b1, rfl, (HR1.out.store2 (by simp)).mono (From.le (by simp; omega))⟩, trivial⟩
  · exact ((HZ0.out.alloc HZ0.out.size _).trans (HB.out.mono (by simp; omega))).setCell (by show w.heap.size ≤ c0w.heap.size; omega) _
  · rw [show sTy (Nd.kind (.mk 19 t m u (some ⟨b, o, none⟩) cap [x0, x1])) = 180 from sTy_19]
    exact block_set HB.out

set_option maxRecDepth 100000 in
set_option maxHeartbeats 2000000 in
theorem un_3_none (d : Nat) (hU : UnC (d + 1)) (hU2 : UnC d) (n : Nd) (D : Nat) (w : World) (hL : LiesD D w n) (hG : PreD (d + 1 + 1) n) (hk : n.kind = 3) (hm : (n.kid 0).kind = 0) :
    Calls Tryz.prog 31 #[n.val] w (UnPost (d + 1 + 1) n w) := by
  obtain ⟨D, rfl⟩ : ∃ E, D = E + 1 := by cases D with | zero => exact hL.elim | succ E => exact ⟨E, rfl⟩
  obtain ⟨k, t, m, u, ao, cap, kids⟩ := n
  obtain rfl : k = 3 := hk
  have hn0 : (Nd.mk 3 t m u ao cap kids).kind ≠ 0 := by show (3 : Int) ≠ 0; decide
  have hn1 : (Nd.mk 3 t m u ao cap kids).kind ≠ 1 := by show (3 : Int) ≠ 1; decide
  have hln : kids.length = 3 := by
    have h1 := ((hG.fit hn0).2.2.2.1 hn1)
    have e1 : (fixedL 3).length = 3 := by decide
    have e2 : restL 3 = 28 := by decide
    simp only [Nd.kind, Nd.kids] at h1
    rw [e1, e2] at h1
    omega
  obtain ⟨x0, x1, x2, rfl⟩ : ∃ x y z, kids = [x, y, z] := kids3 (n := Nd.mk 3 t m u ao cap kids) hln
  obtain ⟨b, o, hao0, p00, p01, p02, p03, p04, hLx0⟩ := kid_cells (j := 0) hL rfl (Below.refl _ _)
  obtain rfl : ao = some ⟨b, o, none⟩ := hao0
  obtain ⟨bq, oq, hao1, p10, p11, p12, p13, p14, hLx1⟩ := kid_cells (j := 1) hL rfl (Below.refl _ _)
  cases hao1
  obtain ⟨bq, oq, hao2, p20, p21, p22, p23, p24, hLx2⟩ := kid_cells (j := 2) hL rfl (Below.refl _ _)
  cases hao2
  obtain ⟨hP0, hC0⟩ := hG.kid (i := 0) (x := x0) hn0 rfl
  obtain ⟨hP1, hC1⟩ := hG.kid (i := 1) (x := x1) hn0 rfl
  obtain ⟨hP2, hC2⟩ := hG.kid (i := 2) (x := x2) hn0 rfl
  have hk0 : x0.kind = 0 := hm
  obtain ⟨hk1, hk1s⟩ := class_17 (hC1 hn1)
  obtain ⟨hk2, hk2s⟩ := class_18 (hC2 hn1)
  simp only [Nat.zero_mul, Nat.add_zero, Nat.one_mul, Nat.reduceMul] at p00 p01 p02 p03 p04 p10 p11 p12 p13 p14 p20 p21 p22 p23 p24
  obtain ⟨D2, rfl⟩ : ∃ E, D = E + 1 := by cases D with | zero => exact hLx0.elim | succ E => exact ⟨E, rfl⟩
  have hkz : (x0.kind != 0) = false := by rw [hk0]; rfl
  have HLL1 := Lib.hid (show ListLies D2 w x1.ao x1.kids from hLx1.2)
  have HKS1 := Lib.hid (show ∀ x ∈ x1.kids, GoodD d x ∧ x.kind ∈ ([5] : List Int) from fun x hx => ⟨(list_good hP1 hk1 x hx).good (by rw [hk1s x hx]; decide), by rw [hk1s x hx]; decide⟩)
  have HSM1 := Lib.hid (show x1.kids.length ≤ 1000 from by have := hP1.small; omega)
  have HLL2 := Lib.hid (show ListLies D2 w x2.ao x2.kids from hLx2.2)
  have HKS2 := Lib.hid (show ∀ x ∈ x2.kids, GoodD d x ∧ x.kind ∈ ([7, 8, 9, 10, 11, 12, 14, 15] : List Int) from fun x hx => ⟨(list_good hP2 hk2 x hx).good (stmt_walk (stmt_of (list_good hP2 hk2 x hx) (hk2s x hx))), stmt_of (list_good hP2 hk2 x hx) (hk2s x hx)⟩)
  have HSM2 := Lib.hid (show x2.kids.length ≤ 1000 from by have := hP2.small; omega)
  have HK0 := Lib.hid hk0
  have HL0 := Lib.hid hLx0
  have hblt : b < w.heap.size := World.block_lt_of_cell? _ _ p00
  clear hn0 hn1 hln hP0 hC0 hP1 hC1 hP2 hC2 hk0 hk1 hk1s hk2 hk2s hLx0 hLx1 hLx2 hL hG hm
  show Calls _ _ #[.agg #[.int .i64 3, .string t, .string m, .int .u64 u, .slice (some ⟨b, o, none⟩) 3 cap]] w _
  go_enter Tryz.func31, Tryz.ntmps31
  go_wp2_with fail
  refine (exactly_any _ _ _ _ _ 3 _ _).mono ?_
  rintro e w1 ⟨rfl, hb1⟩
  have hz1 : w.heap.size < w1.heap.size := by have := hb1.size; simp at this; omega
  have HB1 := Lib.hid (((Below.refl w.heap.size w).alloc (Nat.le_refl _) _).trans (hb1.mono (by simp)))
  obtain ⟨k0, -⟩ := bblk hb1 (b := w.heap.size) (by simp)
  obtain ⟨k1, -⟩ := bblk hb1 (b := b) (by simp; omega)
  clear hb1
  go_wp2_with fail
  go_region_held3 (fun w' => (w'.cell? ⟨w.heap.size, 1, none⟩ = some (.string t) ∧ w'.cell? ⟨w.heap.size, 2, none⟩ = some (.string m) ∧ w'.cell? ⟨w.heap.size, 4, none⟩ = some (.slice (some ⟨b, o, none⟩) 3 cap) ∧ w'.cell? ⟨b, o + 5 + 4, none⟩ = some (.slice x1.ao x1.kids.length x1.cap) ∧ w'.cell? ⟨b, o + 10 + 4, none⟩ = some (.slice x2.ao x2.kids.length x2.cap))) (go_keep) (first | (go_at_call 60; refine (nodesOfImportDeclaration d hU2 D2 x1.kids x1.ao x1.cap _ HSM1.out (by first | exact HLL1.out.below HB1.out | exact HLL1.out.below (HB1.out.drew) | exact HLL1.out.below ‹Below w.heap.size w _› | exact HLL1.out.below (Below.drew ‹Below w.heap.size w _›)) HKS1.out).mono ?_; rintro e c1w ⟨ao1, cap1, rfl, hcs1, hb1⟩; have HZ1 : Below w.heap.size w c1w := (by first | exact Below.trans ‹Below w.heap.size w _› (hb1.mono (Below.size ‹Below w.heap.size w _›)) | exact Below.trans (Below.drew ‹Below w.heap.size w _›) (hb1.mono (by have := Below.size ‹Below w.heap.size w _›; simpa using this)) | exact HB1.out.trans (hb1.mono HB1.out.size) | exact (HB1.out.drew).trans (hb1.mono (by have := HB1.out.size; simpa using this))); have hz1 : w.heap.size < c1w.heap.size := (by have h := hb1.size; (try simp at h); omega); obtain ⟨ka1, -⟩ := bblk hb1 (b := w.heap.size) (by first | omega | (simp; omega)); obtain ⟨kb1, -⟩ := bblk hb1 (b := b) (by first | omega | (simp; omega))) | (go_at_call 61; refine (nodesOfStatement d hU2 D2 x2.kids x2.ao x2.cap _ HSM2.out (by first | exact HLL2.out.below HB1.out | exact HLL2.out.below (HB1.out.drew) | exact HLL2.out.below ‹Below w.heap.size w _› | exact HLL2.out.below (Below.drew ‹Below w.heap.size w _›)) HKS2.out).mono ?_; rintro e c2w ⟨ao2, cap2, rfl, hcs2, hb2⟩; have HZ2 : Below w.heap.size w c2w := (by first | exact Below.trans ‹Below w.heap.size w _› (hb2.mono (Below.size ‹Below w.heap.size w _›)) | exact Below.trans (Below.drew ‹Below w.heap.size w _›) (hb2.mono (by have := Below.size ‹Below w.heap.size w _›; simpa using this)) | exact HB1.out.trans (hb2.mono HB1.out.size) | exact (HB1.out.drew).trans (hb2.mono (by have := HB1.out.size; simpa using this))); have hz2 : w.heap.size < c2w.heap.size := (by have h := hb2.size; (try simp at h); omega); obtain ⟨ka2, -⟩ := bblk hb2 (b := w.heap.size) (by first | omega | (simp; omega)); obtain ⟨kb2, -⟩ := bblk hb2 (b := b) (by first | omega | (simp; omega))))
  have hbz : b < c2w.heap.size := by omega
  have HZ := Lib.hid HZ2
  go_wp2_with fail
  go_ret
  refine unpost _ ptrTy_3 sTy_3 rfl HZ.out ?_
  rw [slots_3 _ rfl]
  exact ⟨rfl, rfl, rfl, rfl, rfl, Or.inl ⟨HK0.out, rfl⟩, CellsAre.fin (CellsAre.up hcs1) ((by first | exact hb2 | (have h := hb2; simpa using h) : Below c1w.heap.size c1w c2w).alloc (by first | exact hb2 | (have h := hb2; simpa using h) : Below c1w.heap.size c1w c2w).size _) (by first | omega | (simp; omega) | (have h1 := hb1.size; have h2 := hb2.size; (try simp at h1); (try simp at h2); omega)), CellsAre.fin (CellsAre.up hcs2) ((Below.refl _ _).alloc (Nat.le_refl _) _) (by first | omega | (simp; omega) | (have h1 := hb1.size; have h2 := hb2.size; (try simp at h1); (try simp at h2); omega)), rfl, trivial⟩

set_option maxRecDepth 100000 in
set_option maxHeartbeats 2000000 in
theorem un_3 (d : Nat) (hU : UnC (d + 1)) (hU2 : UnC d) (n : Nd) (D : Nat) (w : World) (hL : LiesD D w n) (hG : PreD (d + 1 + 1) n) (hk : n.kind = 3) (hm : (n.kid 0).kind ≠ 0) :
    Calls Tryz.prog 31 #[n.val] w (UnPost (d + 1 + 1) n w) := by
  obtain ⟨D, rfl⟩ : ∃ E, D = E + 1 := by cases D with | zero => exact hL.elim | succ E => exact ⟨E, rfl⟩
  obtain ⟨k, t, m, u, ao, cap, kids⟩ := n
  obtain rfl : k = 3 := hk
  have hn0 : (Nd.mk 3 t m u ao cap kids).kind ≠ 0 := by show (3 : Int) ≠ 0; decide
  have hn1 : (Nd.mk 3 t m u ao cap kids).kind ≠ 1 := by show (3 : Int) ≠ 1; decide
  have hln : kids.length = 3 := by
    have h1 := ((hG.fit hn0).2.2.2.1 hn1)
    have e1 : (fixedL 3).length = 3 := by decide
    have e2 : restL 3 = 28 := by decide
    simp only [Nd.kind, Nd.kids] at h1
    rw [e1, e2] at h1
    omega
  obtain ⟨x0, x1, x2, rfl⟩ : ∃ x y z, kids = [x, y, z] := kids3 (n := Nd.mk 3 t m u ao cap kids) hln
  obtain ⟨b, o, hao0, p00, p01, p02, p03, p04, hLx0⟩ := kid_cells (j := 0) hL rfl (Below.refl _ _)
  obtain rfl : ao = some ⟨b, o, none⟩ := hao0
  obtain ⟨bq, oq, hao1, p10, p11, p12, p13, p14, hLx1⟩ := kid_cells (j := 1) hL rfl (Below.refl _ _)
  cases hao1
  obtain ⟨bq, oq, hao2, p20, p21, p22, p23, p24, hLx2⟩ := kid_cells (j := 2) hL rfl (Below.refl _ _)
  cases hao2
  obtain ⟨hP0, hC0⟩ := hG.kid (i := 0) (x := x0) hn0 rfl
  obtain ⟨hP1, hC1⟩ := hG.kid (i := 1) (x := x1) hn0 rfl
  obtain ⟨hP2, hC2⟩ := hG.kid (i := 2) (x := x2) hn0 rfl
  have hk0 : x0.kind = 4 := by
    have h := class_few [4, 0] rfl (hC0 hn1)
    have h2 : x0.kind ≠ 0 := hm
    simp at h; omega
  obtain ⟨hk1, hk1s⟩ := class_17 (hC1 hn1)
  obtain ⟨hk2, hk2s⟩ := class_18 (hC2 hn1)
  simp only [Nat.zero_mul, Nat.add_zero, Nat.one_mul, Nat.reduceMul] at p00 p01 p02 p03 p04 p10 p11 p12 p13 p14 p20 p21 p22 p23 p24
  obtain ⟨D2, rfl⟩ : ∃ E, D = E + 1 := by cases D with | zero => exact hLx0.elim | succ E => exact ⟨E, rfl⟩
  have hkz : (x0.kind != 0) = true := by rw [hk0]; rfl
  have HLL1 := Lib.hid (show ListLies D2 w x1.ao x1.kids from hLx1.2)
  have HKS1 := Lib.hid (show ∀ x ∈ x1.kids, GoodD d x ∧ x.kind ∈ ([5] : List Int) from fun x hx => ⟨(list_good hP1 hk1 x hx).good (by rw [hk1s x hx]; decide), by rw [hk1s x hx]; decide⟩)
  have HSM1 := Lib.hid (show x1.kids.length ≤ 1000 from by have := hP1.small; omega)
  have HLL2 := Lib.hid (show ListLies D2 w x2.ao x2.kids from hLx2.2)
  have HKS2 := Lib.hid (show ∀ x ∈ x2.kids, GoodD d x ∧ x.kind ∈ ([7, 8, 9, 10, 11, 12, 14, 15] : List Int) from fun x hx => ⟨(list_good hP2 hk2 x hx).good (stmt_walk (stmt_of (list_good hP2 hk2 x hx) (hk2s x hx))), stmt_of (list_good hP2 hk2 x hx) (hk2s x hx)⟩)
  have HSM2 := Lib.hid (show x2.kids.length ≤ 1000 from by have := hP2.small; omega)
  have HG0 := Lib.hid (hP0.good (by rw [hk0]; decide))
  have HK0 := Lib.hid hk0
  have HL0 := Lib.hid hLx0
  have hblt : b < w.heap.size := World.block_lt_of_cell? _ _ p00
  clear hn0 hn1 hln hP0 hC0 hP1 hC1 hP2 hC2 hk0 hk1 hk1s hk2 hk2s hLx0 hLx1 hLx2 hL hG hm
  show Calls _ _ #[.agg #[.int .i64 3, .string t, .string m, .int .u64 u, .slice (some ⟨b, o, none⟩) 3 cap]] w _
  go_enter Tryz.func31, Tryz.ntmps31
  go_wp2_with fail
  refine (exactly_any _ _ _ _ _ 3 _ _).mono ?_
  rintro e w1 ⟨rfl, hb1⟩
  have hz1 : w.heap.size < w1.heap.size := by have := hb1.size; simp at this; omega
  have HB1 := Lib.hid (((Below.refl w.heap.size w).alloc (Nat.le_refl _) _).trans (hb1.mono (by simp)))
  obtain ⟨k0, -⟩ := bblk hb1 (b := w.heap.size) (by simp)
  obtain ⟨k1, -⟩ := bblk hb1 (b := b) (by simp; omega)
  clear hb1
  go_wp2_with fail
  go_region_held3 (fun w' => (w'.cell? ⟨w.heap.size, 1, none⟩ = some (.string t) ∧ w'.cell? ⟨w.heap.size, 2, none⟩ = some (.string m) ∧ w'.cell? ⟨w.heap.size, 4, none⟩ = some (.slice (some ⟨b, o, none⟩) 3 cap) ∧ w'.cell? ⟨b, o + 5 + 4, none⟩ = some (.slice x1.ao x1.kids.length x1.cap) ∧ w'.cell? ⟨b, o + 10 + 4, none⟩ = some (.slice x2.ao x2.kids.length x2.cap))) (go_keep) (first | (go_at_call 60; refine (nodesOfImportDeclaration d hU2 D2 x1.kids x1.ao x1.cap _ HSM1.out (by first | exact HLL1.out.below HB1.out | exact HLL1.out.below (HB1.out.drew) | exact HLL1.out.below ‹Below w.heap.size w _› | exact HLL1.out.below (Below.drew ‹Below w.heap.size w _›)) HKS1.out).mono ?_; rintro e c1w ⟨ao1, cap1, rfl, hcs1, hb1⟩; have HZ1 : Below w.heap.size w c1w := (by first | exact Below.trans ‹Below w.heap.size w _› (hb1.mono (Below.size ‹Below w.heap.size w _›)) | exact Below.trans (Below.drew ‹Below w.heap.size w _›) (hb1.mono (by have := Below.size ‹Below w.heap.size w _›; simpa using this)) | exact HB1.out.trans (hb1.mono HB1.out.size) | exact (HB1.out.drew).trans (hb1.mono (by have := HB1.out.size; simpa using this))); have hz1 : w.heap.size < c1w.heap.size := (by have h := hb1.size; (try simp at h); omega); obtain ⟨ka1, -⟩ := bblk hb1 (b := w.heap.size) (by first | omega | (simp; omega)); obtain ⟨kb1, -⟩ := bblk hb1 (b := b) (by first | omega | (simp; omega))) | (go_at_call 61; refine (nodesOfStatement d hU2 D2 x2.kids x2.ao x2.cap _ HSM2.out (by first | exact HLL2.out.below HB1.out | exact HLL2.out.below (HB1.out.drew) | exact HLL2.out.below ‹Below w.heap.size w _› | exact HLL2.out.below (Below.drew ‹Below w.heap.size w _›)) HKS2.out).mono ?_; rintro e c2w ⟨ao2, cap2, rfl, hcs2, hb2⟩; have HZ2 : Below w.heap.size w c2w := (by first | exact Below.trans ‹Below w.heap.size w _› (hb2.mono (Below.size ‹Below w.heap.size w _›)) | exact Below.trans (Below.drew ‹Below w.heap.size w _›) (hb2.mono (by have := Below.size ‹Below w.heap.size w _›; simpa using this)) | exact HB1.out.trans (hb2.mono HB1.out.size) | exact (HB1.out.drew).trans (hb2.mono (by have := HB1.out.size; simpa using this))); have hz2 : w.heap.size < c2w.heap.size := (by have h := hb2.size; (try simp at h); omega); obtain ⟨ka2, -⟩ := bblk hb2 (b := w.heap.size) (by first | omega | (simp; omega)); obtain ⟨kb2, -⟩ := bblk hb2 (b := b) (by first | omega | (simp; omega))))
  have hbz : b < c2w.heap.size := by omega
  have HZ := Lib.hid HZ2
  go_wp2_with fail
  refine (nodeOf_4 (d + 1) hU x0 (D2 + 1) _ (HL0.out.below (HZ.out.alloc HZ.out.size _)) HG0.out HK0.out).mono ?_
  rintro e c3w ⟨b3, rfl, hR3, hb3⟩
  have HB := Lib.hid hb3
  have HR3 := Lib.hid hR3
  have hz3 : c2w.heap.size < c3w.heap.size := by have := hb3.size; simp at this; omega
  obtain ⟨ka3, fa3⟩ := bblk hb3 (b := c2w.heap.size) (by simp)
  clear hb3 hR3
  go_wp2_with fail
  go_ret
  refine ⟨c2w.heap.size, by rw [show pTy (Nd.kind (.mk 3 t m u (some ⟨b, o, none⟩) cap [x0, x1, x2])) = 80 from ptrTy_3]; rfl, ⟨HZ.out.size, [.pointer none, .slice none 0 0, .slice none 0 0, .string t, .string m, .pointer (some ⟨b3, 0, none⟩), .slice ao1 x1.kids.length cap1, .slice ao2 x2.kids.length cap2, .slice none 0 0], ?_, ?_⟩, ?_⟩
  rotate_left
  · rw [slots_3 _ rfl]
    exact ⟨rfl, rfl, rfl, rfl, rfl, Or.inr ⟨(show x0.kind ≠ 0 from (by have h := HK0.out; omega)), b3, rfl, (HR3.out.store2 (by simp)).mono (From.le (by simp; omega))⟩, CellsAre.store (CellsAre.fin (CellsAre.up hcs1) (by first | exact hb2 | (have h := hb2; simpa using h) : Below c1w.heap.size c1w c2w) (by first | omega | (simp; omega) | (have h1 := hb1.size; have h2 := hb2.size; (try simp at h1); (try simp at h2); omega))) (Nat.le_refl _) HB.out, CellsAre.store (CellsAre.up hcs2) (by first | omega | (simp; omega) | (have h1 := hb1.size; have h2 := hb2.size; (try simp at h1); (try simp at h2); omega)) HB.out, rfl, trivial⟩
  · exact ((HZ.out.alloc HZ.out.size _).trans (HB.out.mono (by simp; omega))).setCell (by show w.heap.size ≤ c2w.heap.size; omega) _
  · rw [show sTy (Nd.kind (.mk 3 t m u (some ⟨b, o, none⟩) cap [x0, x1, x2])) = 111 from sTy_3]
    exact block_set HB.out

end Go.Proofs.YtongafghllkomaaGreatDoor
