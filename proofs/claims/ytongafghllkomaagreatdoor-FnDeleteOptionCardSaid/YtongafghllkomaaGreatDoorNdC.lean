/-
  node kind by kind, part C: it hands back the tree that lies there, given its own contract a level down. No conditions.
-/
import Derived.Test.YtongafghllkomaaGreatDoorOrNone
import Derived.Test.YtongafghllkomaaGreatDoorTests
import Derived.Deep.RegionHeld3
import Derived.Deep.RegionWith
namespace Go.Proofs.YtongafghllkomaaGreatDoor
open Go.RowKit
set_option linter.unusedVariables false
set_option linter.unusedSimpArgs false

set_option maxRecDepth 100000 in
set_option maxHeartbeats 2000000 in
theorem nd_10 (d : Nat) (hN : NodeC d) (e : Nat) (A : Nat → Prop) (n : Nd) (b : Nat) (w : World) (hG : PreD (e + 1) n) (hW : WfN n) (hR : RepD A (d + 1) w n b) (hk : n.kind = 10) :
    Calls Tryz.prog 36 #[.iface (pTy n.kind) (.pointer (some ⟨b, 0, none⟩))] w (NodePost n w) := by
  obtain ⟨k, t, m, u, ao, cap, kids⟩ := n
  obtain rfl : k = 10 := hk
  have hn0 : (Nd.mk 10 t m u ao cap kids).kind ≠ 0 := by show (10 : Int) ≠ 0; decide
  have hn1 : (Nd.mk 10 t m u ao cap kids).kind ≠ 1 := by show (10 : Int) ≠ 1; decide
  have hPl := (hG.fit hn0).2.2.1
  have HWF := Lib.hid hW.wf
  obtain rfl : t = ⟨#[]⟩ := hPl.1 (show hasText 10 = false by decide)
  obtain rfl : u = 0 := hPl.2.1 (show hasNum 10 = false by decide)
  obtain rfl : m = ⟨#[]⟩ := hPl.2.2.1 (show (10 : Int) ≠ 2 by decide) (show (10 : Int) ≠ 3 by decide)
  have hln : kids.length = 2 := by
    have h1 := ((hG.fit hn0).2.2.2.1 hn1)
    have e1 : (fixedL 10).length = 2 := by decide
    have e2 : restL 10 = 28 := by decide
    simp only [Nd.kind, Nd.kids] at h1
    rw [e1, e2] at h1
    omega
  obtain ⟨x0, x1, rfl⟩ : ∃ x0 x1, kids = [x0, x1] := kids2 (n := Nd.mk 10 ⟨#[]⟩ ⟨#[]⟩ 0 ao cap kids) hln
  obtain ⟨hP0, hC0⟩ := hG.kid (i := 0) (x := x0) hn0 rfl
  have hf0 : x0.kind ∈ ([33] : List Int) := class_few [33] rfl (hC0 hn1)
  have hk0 : x0.kind = 33 := by
    have h := hf0
    simp at h
    omega
  have hw0 : x0.kind ∈ walkL := by rw [hk0]; decide
  have HG0 := Lib.hid (show GoodW e x0 from ⟨hP0.good hw0, hW.kid (i := 0) rfl⟩)
  have HK0 := Lib.hid hk0
  obtain ⟨hP1, hC1⟩ := hG.kid (i := 1) (x := x1) hn0 rfl
  have hw1 : x1.kind ∈ walkL := expr_walk (class_0 (hC1 hn1))
  have HG1 := Lib.hid (show GoodW e x1 from ⟨hP1.good hw1, hW.kid (i := 1) rfl⟩)
  obtain ⟨hA, cs, hb, hs⟩ := hR
  rw [slots_10 _ rfl] at hs
  match cs, hs with
  | [v0, v1, v2, v3, v4], ⟨e0, e1, e2, e3, e4, _⟩ =>
    obtain ⟨b0, rfl, hR0⟩ := (show PtrTo (RepD A d) w x0 v3 from e3)
    have HR0 := Lib.hid hR0
    have c3 : w.cell? ⟨b, 3, none⟩ = some (.pointer (some ⟨b0, 0, none⟩)) := by rw [Lib.cell_of_heap hb]; rfl
    obtain ⟨b1, rfl, hR1⟩ := (show IfcTo (RepD A d) w x1 v4 from e4)
    have HR1 := Lib.hid hR1
    have c4 : w.cell? ⟨b, 4, none⟩ = some (.iface (pTy x1.kind) (.pointer (some ⟨b1, 0, none⟩))) := by rw [Lib.cell_of_heap hb]; rfl
    have hblt : b < w.heap.size := World.block_lt_of_cell? _ _ c3
    have hbne : ¬ b = w.heap.size := by omega
    have hbne2 : ¬ w.heap.size = b := by omega
    rw [show pTy (Nd.kind (.mk 10 ⟨#[]⟩ ⟨#[]⟩ 0 ao cap [x0, x1])) = 133 from ptrTy_10]
    clear hn0 hn1 hPl hln hG hW hA hb hP0 hC0 hP1 hC1
    have q2 := no_2 133 (by decide)
    have q3 := no_3 133 (by decide)
    have q4 := no_4 133 (by decide)
    have q5 := no_5 133 (by decide)
    have q6 := no_6 133 (by decide)
    have q7 := no_7 133 (by decide)
    have q8 := no_8 133 (by decide)
    have q9 := no_9 133 (by decide)
    have q10 := yes_10
    go_enter Tryz.func36, Tryz.ntmps36
    go_wp2_with fail
    go_region_held3 (fun w' => (w'.cell? ⟨b, 3, none⟩ = some (.pointer (some ⟨b0, 0, none⟩)) ∧ w'.cell? ⟨b, 4, none⟩ = some (.iface (pTy x1.kind) (.pointer (some ⟨b1, 0, none⟩))))) (go_keep) (first | (go_at_call_of 93 b0; refine (orNone_33 d hN e A x0 b0 _ HG0.out (by first | exact HR0.out.below ((Below.refl _ _).alloc (Nat.le_refl _) _) | exact HR0.out.below (Below.drew ((Below.refl _ _).alloc (Nat.le_refl _) _))) HK0.out).mono ?_; rintro e c0w ⟨E0, m0, rfl, hS0, hl0, hb0⟩; have HZ0 : Below (w.alloc zN).heap.size (w.alloc zN) c0w := (by first | exact hb0 | exact (Below.drew (Below.refl _ _)).trans (hb0.mono (by simp))); have HY0 : Below w.heap.size w c0w := ((Below.refl w.heap.size w).alloc (Nat.le_refl _) zN).trans (HZ0.mono (by simp)); have hz0 : w.heap.size < c0w.heap.size := (by have := Below.size HZ0; (try simp at this); omega); obtain ⟨kb0, -⟩ := bblk hb0 (b := b) (by first | omega | (simp; omega)); obtain ⟨ka0, fa0⟩ := bblk hb0 (b := w.heap.size) (by first | omega | (simp; done) | (simp; omega))) | (go_at_call_of 54 b1; refine (exprOrNone d hN e A x1 b1 _ HG1.out (by first | exact HR1.out.below HY0 | exact HR1.out.below (Below.drew HY0))).mono ?_; rintro e c1w ⟨E1, m1, rfl, hS1, hl1, hb1⟩; have HZ1 : Below (w.alloc zN).heap.size (w.alloc zN) c1w := (by first | exact Below.trans HZ0 (hb1.mono (Below.size HZ0)) | exact Below.trans (Below.drew HZ0) (hb1.mono (by have := Below.size HZ0; simpa using this))); have HY1 : Below w.heap.size w c1w := ((Below.refl w.heap.size w).alloc (Nat.le_refl _) zN).trans (HZ1.mono (by simp)); have hz1 : w.heap.size < c1w.heap.size := (by have := Below.size HZ1; (try simp at this); omega); obtain ⟨kb1, -⟩ := bblk hb1 (b := b) (by first | omega | (simp; omega)); obtain ⟨ka1, fa1⟩ := bblk hb1 (b := w.heap.size) (by first | omega | (simp; done) | (simp; omega))))
    go_wp2_with fail
    refine bodyPost_ret (v := .agg #[.int .i64 10, .string ⟨#[]⟩, .string ⟨#[]⟩, .int .u64 0, .slice (some ⟨c1w.heap.size, 0, none⟩) 2 2]) (by simp [results, Tryz.f36, go_sem, ka0, hz0, Nat.ne_of_lt hz0, ka1, hz1, Nat.ne_of_lt hz1]) rfl (NodePost.stored2 _ _ _ _ _ HZ1 (back_fin [m0, m1] rfl HWF.out HZ1 rfl ?_))
    intro i x y hx hy
    match i with
    | 0 => simp at hx hy; subst hx hy; exact ⟨E0, hS0, ((hl0.mono (From.le (by first | exact Nat.le_refl _ | omega | (simp; omega) | (have := Below.size HZ0; simp; omega) | (have := Below.size HZ0; simp at this ⊢; omega)))).below (by first | exact hb1 | (have h := hb1; simpa using h)))⟩
    | 1 => simp at hx hy; subst hx hy; exact ⟨E1, hS1, (hl1.mono (From.le (by first | exact Nat.le_refl _ | omega | (simp; omega) | (have := Below.size HZ1; simp; omega) | (have := Below.size HZ0; simp at this ⊢; omega))))⟩
    | _ + 2 => simp at hx

set_option maxRecDepth 100000 in
set_option maxHeartbeats 2000000 in
theorem nd_11 (d : Nat) (hN : NodeC d) (e : Nat) (A : Nat → Prop) (n : Nd) (b : Nat) (w : World) (hG : PreD (e + 1) n) (hW : WfN n) (hR : RepD A (d + 1) w n b) (hk : n.kind = 11) :
    Calls Tryz.prog 36 #[.iface (pTy n.kind) (.pointer (some ⟨b, 0, none⟩))] w (NodePost n w) := by
  obtain ⟨k, t, m, u, ao, cap, kids⟩ := n
  obtain rfl : k = 11 := hk
  have hn0 : (Nd.mk 11 t m u ao cap kids).kind ≠ 0 := by show (11 : Int) ≠ 0; decide
  have hn1 : (Nd.mk 11 t m u ao cap kids).kind ≠ 1 := by show (11 : Int) ≠ 1; decide
  have hPl := (hG.fit hn0).2.2.1
  have HWF := Lib.hid hW.wf
  obtain rfl : t = ⟨#[]⟩ := hPl.1 (show hasText 11 = false by decide)
  obtain rfl : u = 0 := hPl.2.1 (show hasNum 11 = false by decide)
  obtain rfl : m = ⟨#[]⟩ := hPl.2.2.1 (show (11 : Int) ≠ 2 by decide) (show (11 : Int) ≠ 3 by decide)
  have hln : kids.length = 2 := by
    have h1 := ((hG.fit hn0).2.2.2.1 hn1)
    have e1 : (fixedL 11).length = 2 := by decide
    have e2 : restL 11 = 28 := by decide
    simp only [Nd.kind, Nd.kids] at h1
    rw [e1, e2] at h1
    omega
  obtain ⟨x0, x1, rfl⟩ : ∃ x0 x1, kids = [x0, x1] := kids2 (n := Nd.mk 11 ⟨#[]⟩ ⟨#[]⟩ 0 ao cap kids) hln
  obtain ⟨hP0, hC0⟩ := hG.kid (i := 0) (x := x0) hn0 rfl
  have hf0 : x0.kind ∈ ([17] : List Int) := class_few [17] rfl (hC0 hn1)
  have hk0 : x0.kind = 17 := by
    have h := hf0
    simp at h
    omega
  have hw0 : x0.kind ∈ walkL := by rw [hk0]; decide
  have HG0 := Lib.hid (show GoodW e x0 from ⟨hP0.good hw0, hW.kid (i := 0) rfl⟩)
  have HK0 := Lib.hid hk0
  obtain ⟨hP1, hC1⟩ := hG.kid (i := 1) (x := x1) hn0 rfl
  have hw1 : x1.kind ∈ walkL := expr_walk (class_0 (hC1 hn1))
  have HG1 := Lib.hid (show GoodW e x1 from ⟨hP1.good hw1, hW.kid (i := 1) rfl⟩)
  obtain ⟨hA, cs, hb, hs⟩ := hR
  rw [slots_11 _ rfl] at hs
  match cs, hs with
  | [v0, v1, v2, v3, v4], ⟨e0, e1, e2, e3, e4, _⟩ =>
    obtain ⟨b0, rfl, hR0⟩ := (show PtrTo (RepD A d) w x0 v3 from e3)
    have HR0 := Lib.hid hR0
    have c3 : w.cell? ⟨b, 3, none⟩ = some (.pointer (some ⟨b0, 0, none⟩)) := by rw [Lib.cell_of_heap hb]; rfl
    obtain ⟨b1, rfl, hR1⟩ := (show IfcTo (RepD A d) w x1 v4 from e4)
    have HR1 := Lib.hid hR1
    have c4 : w.cell? ⟨b, 4, none⟩ = some (.iface (pTy x1.kind) (.pointer (some ⟨b1, 0, none⟩))) := by rw [Lib.cell_of_heap hb]; rfl
    have hblt : b < w.heap.size := World.block_lt_of_cell? _ _ c3
    have hbne : ¬ b = w.heap.size := by omega
    have hbne2 : ¬ w.heap.size = b := by omega
    rw [show pTy (Nd.kind (.mk 11 ⟨#[]⟩ ⟨#[]⟩ 0 ao cap [x0, x1])) = 136 from ptrTy_11]
    clear hn0 hn1 hPl hln hG hW hA hb hP0 hC0 hP1 hC1
    have q2 := no_2 136 (by decide)
    have q3 := no_3 136 (by decide)
    have q4 := no_4 136 (by decide)
    have q5 := no_5 136 (by decide)
    have q6 := no_6 136 (by decide)
    have q7 := no_7 136 (by decide)
    have q8 := no_8 136 (by decide)
    have q9 := no_9 136 (by decide)
    have q10 := no_10 136 (by decide)
    have q11 := yes_11
    go_enter Tryz.func36, Tryz.ntmps36
    go_wp2_with fail
    go_region_held3 (fun w' => (w'.cell? ⟨b, 3, none⟩ = some (.pointer (some ⟨b0, 0, none⟩)) ∧ w'.cell? ⟨b, 4, none⟩ = some (.iface (pTy x1.kind) (.pointer (some ⟨b1, 0, none⟩))))) (go_keep) (first | (go_at_call_of 95 b0; refine (orNone_17 d hN e A x0 b0 _ HG0.out (by first | exact HR0.out.below ((Below.refl _ _).alloc (Nat.le_refl _) _) | exact HR0.out.below (Below.drew ((Below.refl _ _).alloc (Nat.le_refl _) _))) HK0.out).mono ?_; rintro e c0w ⟨E0, m0, rfl, hS0, hl0, hb0⟩; have HZ0 : Below (w.alloc zN).heap.size (w.alloc zN) c0w := (by first | exact hb0 | exact (Below.drew (Below.refl _ _)).trans (hb0.mono (by simp))); have HY0 : Below w.heap.size w c0w := ((Below.refl w.heap.size w).alloc (Nat.le_refl _) zN).trans (HZ0.mono (by simp)); have hz0 : w.heap.size < c0w.heap.size := (by have := Below.size HZ0; (try simp at this); omega); obtain ⟨kb0, -⟩ := bblk hb0 (b := b) (by first | omega | (simp; omega)); obtain ⟨ka0, fa0⟩ := bblk hb0 (b := w.heap.size) (by first | omega | (simp; done) | (simp; omega))) | (go_at_call_of 54 b1; refine (exprOrNone d hN e A x1 b1 _ HG1.out (by first | exact HR1.out.below HY0 | exact HR1.out.below (Below.drew HY0))).mono ?_; rintro e c1w ⟨E1, m1, rfl, hS1, hl1, hb1⟩; have HZ1 : Below (w.alloc zN).heap.size (w.alloc zN) c1w := (by first | exact Below.trans HZ0 (hb1.mono (Below.size HZ0)) | exact Below.trans (Below.drew HZ0) (hb1.mono (by have := Below.size HZ0; simpa using this))); have HY1 : Below w.heap.size w c1w := ((Below.refl w.heap.size w).alloc (Nat.le_refl _) zN).trans (HZ1.mono (by simp)); have hz1 : w.heap.size < c1w.heap.size := (by have := Below.size HZ1; (try simp at this); omega); obtain ⟨kb1, -⟩ := bblk hb1 (b := b) (by first | omega | (simp; omega)); obtain ⟨ka1, fa1⟩ := bblk hb1 (b := w.heap.size) (by first | omega | (simp; done) | (simp; omega))))
    go_wp2_with fail
    refine bodyPost_ret (v := .agg #[.int .i64 11, .string ⟨#[]⟩, .string ⟨#[]⟩, .int .u64 0, .slice (some ⟨c1w.heap.size, 0, none⟩) 2 2]) (by simp [results, Tryz.f36, go_sem, ka0, hz0, Nat.ne_of_lt hz0, ka1, hz1, Nat.ne_of_lt hz1]) rfl (NodePost.stored2 _ _ _ _ _ HZ1 (back_fin [m0, m1] rfl HWF.out HZ1 rfl ?_))
    intro i x y hx hy
    match i with
    | 0 => simp at hx hy; subst hx hy; exact ⟨E0, hS0, ((hl0.mono (From.le (by first | exact Nat.le_refl _ | omega | (simp; omega) | (have := Below.size HZ0; simp; omega) | (have := Below.size HZ0; simp at this ⊢; omega)))).below (by first | exact hb1 | (have h := hb1; simpa using h)))⟩
    | 1 => simp at hx hy; subst hx hy; exact ⟨E1, hS1, (hl1.mono (From.le (by first | exact Nat.le_refl _ | omega | (simp; omega) | (have := Below.size HZ1; simp; omega) | (have := Below.size HZ0; simp at this ⊢; omega))))⟩
    | _ + 2 => simp at hx

set_option maxRecDepth 100000 in
set_option maxHeartbeats 2000000 in
theorem nd_17 (d : Nat) (hN : NodeC d) (e : Nat) (A : Nat → Prop) (n : Nd) (b : Nat) (w : World) (hG : PreD (e + 1) n) (hW : WfN n) (hR : RepD A (d + 1) w n b) (hk : n.kind = 17) :
    Calls Tryz.prog 36 #[.iface (pTy n.kind) (.pointer (some ⟨b, 0, none⟩))] w (NodePost n w) := by
  obtain ⟨k, t, m, u, ao, cap, kids⟩ := n
  obtain rfl : k = 17 := hk
  have hn0 : (Nd.mk 17 t m u ao cap kids).kind ≠ 0 := by show (17 : Int) ≠ 0; decide
  have hn1 : (Nd.mk 17 t m u ao cap kids).kind ≠ 1 := by show (17 : Int) ≠ 1; decide
  have hPl := (hG.fit hn0).2.2.1
  have HWF := Lib.hid hW.wf
  obtain rfl : t = ⟨#[]⟩ := hPl.1 (show hasText 17 = false by decide)
  obtain rfl : u = 0 := hPl.2.1 (show hasNum 17 = false by decide)
  obtain rfl : m = ⟨#[]⟩ := hPl.2.2.1 (show (17 : Int) ≠ 2 by decide) (show (17 : Int) ≠ 3 by decide)
  have hln : kids.length = 2 := by
    have h1 := ((hG.fit hn0).2.2.2.1 hn1)
    have e1 : (fixedL 17).length = 2 := by decide
    have e2 : restL 17 = 28 := by decide
    simp only [Nd.kind, Nd.kids] at h1
    rw [e1, e2] at h1
    omega
  obtain ⟨x0, x1, rfl⟩ : ∃ x0 x1, kids = [x0, x1] := kids2 (n := Nd.mk 17 ⟨#[]⟩ ⟨#[]⟩ 0 ao cap kids) hln
  obtain ⟨hP0, hC0⟩ := hG.kid (i := 0) (x := x0) hn0 rfl
  have hw0 : x0.kind ∈ walkL := expr_walk (class_0 (hC0 hn1))
  have HG0 := Lib.hid (show GoodW e x0 from ⟨hP0.good hw0, hW.kid (i := 0) rfl⟩)
  obtain ⟨hP1, hC1⟩ := hG.kid (i := 1) (x := x1) hn0 rfl
  have hf1 : x1.kind ∈ ([33, 34] : List Int) := class_few [33, 34] rfl (hC1 hn1)
  have hw1 : x1.kind ∈ walkL := by revert hf1; unfold walkL; simp; omega
  have HG1 := Lib.hid (show GoodW e x1 from ⟨hP1.good hw1, hW.kid (i := 1) rfl⟩)
  obtain ⟨hA, cs, hb, hs⟩ := hR
  rw [slots_17 _ rfl] at hs
  match cs, hs with
  | [v0, v1, v2, v3, v4, v5, v6], ⟨e0, e1, e2, e3, e4, e5, e6, _⟩ =>
    obtain ⟨b0, rfl, hR0⟩ := (show IfcTo (RepD A d) w x0 v3 from e3)
    have HR0 := Lib.hid hR0
    have c3 : w.cell? ⟨b, 3, none⟩ = some (.iface (pTy x0.kind) (.pointer (some ⟨b0, 0, none⟩))) := by rw [Lib.cell_of_heap hb]; rfl
    obtain ⟨b1, rfl, hR1⟩ := (show IfcTo (RepD A d) w x1 v5 from e5)
    have HR1 := Lib.hid hR1
    have c5 : w.cell? ⟨b, 5, none⟩ = some (.iface (pTy x1.kind) (.pointer (some ⟨b1, 0, none⟩))) := by rw [Lib.cell_of_heap hb]; rfl
    have hblt : b < w.heap.size := World.block_lt_of_cell? _ _ c3
    have hbne : ¬ b = w.heap.size := by omega
    have hbne2 : ¬ w.heap.size = b := by omega
    rw [show pTy (Nd.kind (.mk 17 ⟨#[]⟩ ⟨#[]⟩ 0 ao cap [x0, x1])) = 137 from ptrTy_17]
    clear hn0 hn1 hPl hln hG hW hA hb hP0 hC0 hP1 hC1
    have q2 := no_2 137 (by decide)
    have q3 := no_3 137 (by decide)
    have q4 := no_4 137 (by decide)
    have q5 := no_5 137 (by decide)
    have q6 := no_6 137 (by decide)
    have q7 := no_7 137 (by decide)
    have q8 := no_8 137 (by decide)
    have q9 := no_9 137 (by decide)
    have q10 := no_10 137 (by decide)
    have q11 := no_11 137 (by decide)
    have q12 := no_12 137 (by decide)
    have q13 := no_13 137 (by decide)
    have q14 := no_14 137 (by decide)
    have q15 := no_15 137 (by decide)
    have q16 := no_16 137 (by decide)
    have q17 := yes_17
    go_enter Tryz.func36, Tryz.ntmps36
    go_wp2_with fail
    go_region_held3 (fun w' => (w'.cell? ⟨b, 3, none⟩ = some (.iface (pTy x0.kind) (.pointer (some ⟨b0, 0, none⟩))) ∧ w'.cell? ⟨b, 5, none⟩ = some (.iface (pTy x1.kind) (.pointer (some ⟨b1, 0, none⟩))))) (go_keep) (first | (go_at_call_of 54 b0; refine (exprOrNone d hN e A x0 b0 _ HG0.out (by first | exact HR0.out.below ((Below.refl _ _).alloc (Nat.le_refl _) _) | exact HR0.out.below (Below.drew ((Below.refl _ _).alloc (Nat.le_refl _) _)))).mono ?_; rintro e c0w ⟨E0, m0, rfl, hS0, hl0, hb0⟩; have HZ0 : Below (w.alloc zN).heap.size (w.alloc zN) c0w := (by first | exact hb0 | exact (Below.drew (Below.refl _ _)).trans (hb0.mono (by simp))); have HY0 : Below w.heap.size w c0w := ((Below.refl w.heap.size w).alloc (Nat.le_refl _) zN).trans (HZ0.mono (by simp)); have hz0 : w.heap.size < c0w.heap.size := (by have := Below.size HZ0; (try simp at this); omega); obtain ⟨kb0, -⟩ := bblk hb0 (b := b) (by first | omega | (simp; omega)); obtain ⟨ka0, fa0⟩ := bblk hb0 (b := w.heap.size) (by first | omega | (simp; done) | (simp; omega))) | (go_at_call_of 54 b1; refine (exprOrNone d hN e A x1 b1 _ HG1.out (by first | exact HR1.out.below HY0 | exact HR1.out.below (Below.drew HY0))).mono ?_; rintro e c1w ⟨E1, m1, rfl, hS1, hl1, hb1⟩; have HZ1 : Below (w.alloc zN).heap.size (w.alloc zN) c1w := (by first | exact Below.trans HZ0 (hb1.mono (Below.size HZ0)) | exact Below.trans (Below.drew HZ0) (hb1.mono (by have := Below.size HZ0; simpa using this))); have HY1 : Below w.heap.size w c1w := ((Below.refl w.heap.size w).alloc (Nat.le_refl _) zN).trans (HZ1.mono (by simp)); have hz1 : w.heap.size < c1w.heap.size := (by have := Below.size HZ1; (try simp at this); omega); obtain ⟨kb1, -⟩ := bblk hb1 (b := b) (by first | omega | (simp; omega)); obtain ⟨ka1, fa1⟩ := bblk hb1 (b := w.heap.size) (by first | omega | (simp; done) | (simp; omega))))
    go_wp2_with fail
    refine bodyPost_ret (v := .agg #[.int .i64 17, .string ⟨#[]⟩, .string ⟨#[]⟩, .int .u64 0, .slice (some ⟨c1w.heap.size, 0, none⟩) 2 2]) (by simp [results, Tryz.f36, go_sem, ka0, hz0, Nat.ne_of_lt hz0, ka1, hz1, Nat.ne_of_lt hz1]) rfl (NodePost.stored2 _ _ _ _ _ HZ1 (back_fin [m0, m1] rfl HWF.out HZ1 rfl ?_))
    intro i x y hx hy
    match i with
    | 0 => simp at hx hy; subst hx hy; exact ⟨E0, hS0, ((hl0.mono (From.le (by first | exact Nat.le_refl _ | omega | (simp; omega) | (have := Below.size HZ0; simp; omega) | (have := Below.size HZ0; simp at this ⊢; omega)))).below (by first | exact hb1 | (have h := hb1; simpa using h)))⟩
    | 1 => simp at hx hy; subst hx hy; exact ⟨E1, hS1, (hl1.mono (From.le (by first | exact Nat.le_refl _ | omega | (simp; omega) | (have := Below.size HZ1; simp; omega) | (have := Below.size HZ0; simp at this ⊢; omega))))⟩
    | _ + 2 => simp at hx

set_option maxRecDepth 100000 in
set_option maxHeartbeats 2000000 in
theorem nd_18 (d : Nat) (hN : NodeC d) (e : Nat) (A : Nat → Prop) (n : Nd) (b : Nat) (w : World) (hG : PreD (e + 1) n) (hW : WfN n) (hR : RepD A (d + 1) w n b) (hk : n.kind = 18) :
    Calls Tryz.prog 36 #[.iface (pTy n.kind) (.pointer (some ⟨b, 0, none⟩))] w (NodePost n w) := by
  obtain ⟨k, t, m, u, ao, cap, kids⟩ := n
  obtain rfl : k = 18 := hk
  have hn0 : (Nd.mk 18 t m u ao cap kids).kind ≠ 0 := by show (18 : Int) ≠ 0; decide
  have hn1 : (Nd.mk 18 t m u ao cap kids).kind ≠ 1 := by show (18 : Int) ≠ 1; decide
  have hPl := (hG.fit hn0).2.2.1
  have HWF := Lib.hid hW.wf
  obtain rfl : t = ⟨#[]⟩ := hPl.1 (show hasText 18 = false by decide)
  obtain rfl : u = 0 := hPl.2.1 (show hasNum 18 = false by decide)
  obtain rfl : m = ⟨#[]⟩ := hPl.2.2.1 (show (18 : Int) ≠ 2 by decide) (show (18 : Int) ≠ 3 by decide)
  have hln : kids.length = 2 := by
    have h1 := ((hG.fit hn0).2.2.2.1 hn1)
    have e1 : (fixedL 18).length = 2 := by decide
    have e2 : restL 18 = 28 := by decide
    simp only [Nd.kind, Nd.kids] at h1
    rw [e1, e2] at h1
    omega
  obtain ⟨x0, x1, rfl⟩ : ∃ x0 x1, kids = [x0, x1] := kids2 (n := Nd.mk 18 ⟨#[]⟩ ⟨#[]⟩ 0 ao cap kids) hln
  obtain ⟨hP0, hC0⟩ := hG.kid (i := 0) (x := x0) hn0 rfl
  have hw0 : x0.kind ∈ walkL := expr_walk (class_0 (hC0 hn1))
  have HG0 := Lib.hid (show GoodW e x0 from ⟨hP0.good hw0, hW.kid (i := 0) rfl⟩)
  obtain ⟨hP1, hC1⟩ := hG.kid (i := 1) (x := x1) hn0 rfl
  have hw1 : x1.kind ∈ walkL := expr_walk (class_0 (hC1 hn1))
  have HG1 := Lib.hid (show GoodW e x1 from ⟨hP1.good hw1, hW.kid (i := 1) rfl⟩)
  obtain ⟨hA, cs, hb, hs⟩ := hR
  rw [slots_18 _ rfl] at hs
  match cs, hs with
  | [v0, v1, v2, v3, v4, v5, v6], ⟨e0, e1, e2, e3, e4, e5, e6, _⟩ =>
    obtain ⟨b0, rfl, hR0⟩ := (show IfcTo (RepD A d) w x0 v3 from e3)
    have HR0 := Lib.hid hR0
    have c3 : w.cell? ⟨b, 3, none⟩ = some (.iface (pTy x0.kind) (.pointer (some ⟨b0, 0, none⟩))) := by rw [Lib.cell_of_heap hb]; rfl
    obtain ⟨b1, rfl, hR1⟩ := (show IfcTo (RepD A d) w x1 v5 from e5)
    have HR1 := Lib.hid hR1
    have c5 : w.cell? ⟨b, 5, none⟩ = some (.iface (pTy x1.kind) (.pointer (some ⟨b1, 0, none⟩))) := by rw [Lib.cell_of_heap hb]; rfl
    have hblt : b < w.heap.size := World.block_lt_of_cell? _ _ c3
    have hbne : ¬ b = w.heap.size := by omega
    have hbne2 : ¬ w.heap.size = b := by omega
    rw [show pTy (Nd.kind (.mk 18 ⟨#[]⟩ ⟨#[]⟩ 0 ao cap [x0, x1])) = 175 from ptrTy_18]
    clear hn0 hn1 hPl hln hG hW hA hb hP0 hC0 hP1 hC1
    have q2 := no_2 175 (by decide)
    have q3 := no_3 175 (by decide)
    have q4 := no_4 175 (by decide)
    have q5 := no_5 175 (by decide)
    have q6 := no_6 175 (by decide)
    have q7 := no_7 175 (by decide)
    have q8 := no_8 175 (by decide)
    have q9 := no_9 175 (by decide)
    have q10 := no_10 175 (by decide)
    have q11 := no_11 175 (by decide)
    have q12 := no_12 175 (by decide)
    have q13 := no_13 175 (by decide)
    have q14 := no_14 175 (by decide)
    have q15 := no_15 175 (by decide)
    have q16 := no_16 175 (by decide)
    have q17 := no_17 175 (by decide)
    have q18 := yes_18
    go_enter Tryz.func36, Tryz.ntmps36
    go_wp2_with fail
    go_region_held3 (fun w' => (w'.cell? ⟨b, 3, none⟩ = some (.iface (pTy x0.kind) (.pointer (some ⟨b0, 0, none⟩))) ∧ w'.cell? ⟨b, 5, none⟩ = some (.iface (pTy x1.kind) (.pointer (some ⟨b1, 0, none⟩))))) (go_keep) (first | (go_at_call_of 54 b0; refine (exprOrNone d hN e A x0 b0 _ HG0.out (by first | exact HR0.out.below ((Below.refl _ _).alloc (Nat.le_refl _) _) | exact HR0.out.below (Below.drew ((Below.refl _ _).alloc (Nat.le_refl _) _)))).mono ?_; rintro e c0w ⟨E0, m0, rfl, hS0, hl0, hb0⟩; have HZ0 : Below (w.alloc zN).heap.size (w.alloc zN) c0w := (by first | exact hb0 | exact (Below.drew (Below.refl _ _)).trans (hb0.mono (by simp))); have HY0 : Below w.heap.size w c0w := ((Below.refl w.heap.size w).alloc (Nat.le_refl _) zN).trans (HZ0.mono (by simp)); have hz0 : w.heap.size < c0w.heap.size := (by have := Below.size HZ0; (try simp at this); omega); obtain ⟨kb0, -⟩ := bblk hb0 (b := b) (by first | omega | (simp; omega)); obtain ⟨ka0, fa0⟩ := bblk hb0 (b := w.heap.size) (by first | omega | (simp; done) | (simp; omega))) | (go_at_call_of 54 b1; refine (exprOrNone d hN e A x1 b1 _ HG1.out (by first | exact HR1.out.below HY0 | exact HR1.out.below (Below.drew HY0))).mono ?_; rintro e c1w ⟨E1, m1, rfl, hS1, hl1, hb1⟩; have HZ1 : Below (w.alloc zN).heap.size (w.alloc zN) c1w := (by first | exact Below.trans HZ0 (hb1.mono (Below.size HZ0)) | exact Below.trans (Below.drew HZ0) (hb1.mono (by have := Below.size HZ0; simpa using this))); have HY1 : Below w.heap.size w c1w := ((Below.refl w.heap.size w).alloc (Nat.le_refl _) zN).trans (HZ1.mono (by simp)); have hz1 : w.heap.size < c1w.heap.size := (by have := Below.size HZ1; (try simp at this); omega); obtain ⟨kb1, -⟩ := bblk hb1 (b := b) (by first | omega | (simp; omega)); obtain ⟨ka1, fa1⟩ := bblk hb1 (b := w.heap.size) (by first | omega | (simp; done) | (simp; omega))))
    go_wp2_with fail
    refine bodyPost_ret (v := .agg #[.int .i64 18, .string ⟨#[]⟩, .string ⟨#[]⟩, .int .u64 0, .slice (some ⟨c1w.heap.size, 0, none⟩) 2 2]) (by simp [results, Tryz.f36, go_sem, ka0, hz0, Nat.ne_of_lt hz0, ka1, hz1, Nat.ne_of_lt hz1]) rfl (NodePost.stored2 _ _ _ _ _ HZ1 (back_fin [m0, m1] rfl HWF.out HZ1 rfl ?_))
    intro i x y hx hy
    match i with
    | 0 => simp at hx hy; subst hx hy; exact ⟨E0, hS0, ((hl0.mono (From.le (by first | exact Nat.le_refl _ | omega | (simp; omega) | (have := Below.size HZ0; simp; omega) | (have := Below.size HZ0; simp at this ⊢; omega)))).below (by first | exact hb1 | (have h := hb1; simpa using h)))⟩
    | 1 => simp at hx hy; subst hx hy; exact ⟨E1, hS1, (hl1.mono (From.le (by first | exact Nat.le_refl _ | omega | (simp; omega) | (have := Below.size HZ1; simp; omega) | (have := Below.size HZ0; simp at this ⊢; omega))))⟩
    | _ + 2 => simp at hx

set_option maxRecDepth 100000 in
set_option maxHeartbeats 2000000 in
theorem nd_24 (d : Nat) (hN : NodeC d) (e : Nat) (A : Nat → Prop) (n : Nd) (b : Nat) (w : World) (hG : PreD (e + 1) n) (hW : WfN n) (hR : RepD A (d + 1) w n b) (hk : n.kind = 24) :
    Calls Tryz.prog 36 #[.iface (pTy n.kind) (.pointer (some ⟨b, 0, none⟩))] w (NodePost n w) := by
  obtain ⟨k, t, m, u, ao, cap, kids⟩ := n
  obtain rfl : k = 24 := hk
  have hn0 : (Nd.mk 24 t m u ao cap kids).kind ≠ 0 := by show (24 : Int) ≠ 0; decide
  have hn1 : (Nd.mk 24 t m u ao cap kids).kind ≠ 1 := by show (24 : Int) ≠ 1; decide
  have hPl := (hG.fit hn0).2.2.1
  have HWF := Lib.hid hW.wf
  obtain rfl : t = ⟨#[]⟩ := hPl.1 (show hasText 24 = false by decide)
  obtain rfl : u = 0 := hPl.2.1 (show hasNum 24 = false by decide)
  obtain rfl : m = ⟨#[]⟩ := hPl.2.2.1 (show (24 : Int) ≠ 2 by decide) (show (24 : Int) ≠ 3 by decide)
  have hln : kids.length = 3 := by
    have h1 := ((hG.fit hn0).2.2.2.1 hn1)
    have e1 : (fixedL 24).length = 3 := by decide
    have e2 : restL 24 = 28 := by decide
    simp only [Nd.kind, Nd.kids] at h1
    rw [e1, e2] at h1
    omega
  obtain ⟨x0, x1, x2, rfl⟩ : ∃ x0 x1 x2, kids = [x0, x1, x2] := kids3 (n := Nd.mk 24 ⟨#[]⟩ ⟨#[]⟩ 0 ao cap kids) hln
  obtain ⟨hP0, hC0⟩ := hG.kid (i := 0) (x := x0) hn0 rfl
  have hw0 : x0.kind ∈ walkL := expr_walk (class_0 (hC0 hn1))
  have HG0 := Lib.hid (show GoodW e x0 from ⟨hP0.good hw0, hW.kid (i := 0) rfl⟩)
  obtain ⟨hP1, hC1⟩ := hG.kid (i := 1) (x := x1) hn0 rfl
  have hw1 : x1.kind ∈ walkL := expr_walk (class_0 (hC1 hn1))
  have HG1 := Lib.hid (show GoodW e x1 from ⟨hP1.good hw1, hW.kid (i := 1) rfl⟩)
  obtain ⟨hP2, hC2⟩ := hG.kid (i := 2) (x := x2) hn0 rfl
  have hw2 : x2.kind ∈ walkL := expr_walk (class_0 (hC2 hn1))
  have HG2 := Lib.hid (show GoodW e x2 from ⟨hP2.good hw2, hW.kid (i := 2) rfl⟩)
  obtain ⟨hA, cs, hb, hs⟩ := hR
  rw [slots_24 _ rfl] at hs
  match cs, hs with
  | [v0, v1, v2, v3, v4, v5, v6, v7, v8], ⟨e0, e1, e2, e3, e4, e5, e6, e7, e8, _⟩ =>
    obtain ⟨b0, rfl, hR0⟩ := (show IfcTo (RepD A d) w x0 v4 from e4)
    have HR0 := Lib.hid hR0
    have c4 : w.cell? ⟨b, 4, none⟩ = some (.iface (pTy x0.kind) (.pointer (some ⟨b0, 0, none⟩))) := by rw [Lib.cell_of_heap hb]; rfl
    obtain ⟨b1, rfl, hR1⟩ := (show IfcTo (RepD A d) w x1 v6 from e6)
    have HR1 := Lib.hid hR1
    have c6 : w.cell? ⟨b, 6, none⟩ = some (.iface (pTy x1.kind) (.pointer (some ⟨b1, 0, none⟩))) := by rw [Lib.cell_of_heap hb]; rfl
    obtain ⟨b2, rfl, hR2⟩ := (show IfcTo (RepD A d) w x2 v8 from e8)
    have HR2 := Lib.hid hR2
    have c8 : w.cell? ⟨b, 8, none⟩ = some (.iface (pTy x2.kind) (.pointer (some ⟨b2, 0, none⟩))) := by rw [Lib.cell_of_heap hb]; rfl
    have hblt : b < w.heap.size := World.block_lt_of_cell? _ _ c4
    have hbne : ¬ b = w.heap.size := by omega
    have hbne2 : ¬ w.heap.size = b := by omega
    rw [show pTy (Nd.kind (.mk 24 ⟨#[]⟩ ⟨#[]⟩ 0 ao cap [x0, x1, x2])) = 201 from ptrTy_24]
    clear hn0 hn1 hPl hln hG hW hA hb hP0 hC0 hP1 hC1 hP2 hC2
    have q2 := no_2 201 (by decide)
    have q3 := no_3 201 (by decide)
    have q4 := no_4 201 (by decide)
    have q5 := no_5 201 (by decide)
    have q6 := no_6 201 (by decide)
    have q7 := no_7 201 (by decide)
    have q8 := no_8 201 (by decide)
    have q9 := no_9 201 (by decide)
    have q10 := no_10 201 (by decide)
    have q11 := no_11 201 (by decide)
    have q12 := no_12 201 (by decide)
    have q13 := no_13 201 (by decide)
    have q14 := no_14 201 (by decide)
    have q15 := no_15 201 (by decide)
    have q16 := no_16 201 (by decide)
    have q17 := no_17 201 (by decide)
    have q18 := no_18 201 (by decide)
    have q19 := no_19 201 (by decide)
    have q20 := no_20 201 (by decide)
    have q21 := no_21 201 (by decide)
    have q22 := no_22 201 (by decide)
    have q23 := no_23 201 (by decide)
    have q24 := yes_24
    go_enter Tryz.func36, Tryz.ntmps36
    go_wp2_with fail
    go_region_held3 (fun w' => (w'.cell? ⟨b, 4, none⟩ = some (.iface (pTy x0.kind) (.pointer (some ⟨b0, 0, none⟩))) ∧ w'.cell? ⟨b, 6, none⟩ = some (.iface (pTy x1.kind) (.pointer (some ⟨b1, 0, none⟩))) ∧ w'.cell? ⟨b, 8, none⟩ = some (.iface (pTy x2.kind) (.pointer (some ⟨b2, 0, none⟩))))) (go_keep) (first | (go_at_call_of 54 b0; refine (exprOrNone d hN e A x0 b0 _ HG0.out (by first | exact HR0.out.below ((Below.refl _ _).alloc (Nat.le_refl _) _) | exact HR0.out.below (Below.drew ((Below.refl _ _).alloc (Nat.le_refl _) _)))).mono ?_; rintro e c0w ⟨E0, m0, rfl, hS0, hl0, hb0⟩; have HZ0 : Below (w.alloc zN).heap.size (w.alloc zN) c0w := (by first | exact hb0 | exact (Below.drew (Below.refl _ _)).trans (hb0.mono (by simp))); have HY0 : Below w.heap.size w c0w := ((Below.refl w.heap.size w).alloc (Nat.le_refl _) zN).trans (HZ0.mono (by simp)); have hz0 : w.heap.size < c0w.heap.size := (by have := Below.size HZ0; (try simp at this); omega); obtain ⟨kb0, -⟩ := bblk hb0 (b := b) (by first | omega | (simp; omega)); obtain ⟨ka0, fa0⟩ := bblk hb0 (b := w.heap.size) (by first | omega | (simp; done) | (simp; omega))) | (go_at_call_of 54 b1; refine (exprOrNone d hN e A x1 b1 _ HG1.out (by first | exact HR1.out.below HY0 | exact HR1.out.below (Below.drew HY0))).mono ?_; rintro e c1w ⟨E1, m1, rfl, hS1, hl1, hb1⟩; have HZ1 : Below (w.alloc zN).heap.size (w.alloc zN) c1w := (by first | exact Below.trans HZ0 (hb1.mono (Below.size HZ0)) | exact Below.trans (Below.drew HZ0) (hb1.mono (by have := Below.size HZ0; simpa using this))); have HY1 : Below w.heap.size w c1w := ((Below.refl w.heap.size w).alloc (Nat.le_refl _) zN).trans (HZ1.mono (by simp)); have hz1 : w.heap.size < c1w.heap.size := (by have := Below.size HZ1; (try simp at this); omega); obtain ⟨kb1, -⟩ := bblk hb1 (b := b) (by first | omega | (simp; omega)); obtain ⟨ka1, fa1⟩ := bblk hb1 (b := w.heap.size) (by first | omega | (simp; done) | (simp; omega))) | (go_at_call_of 54 b2; refine (exprOrNone d hN e A x2 b2 _ HG2.out (by first | exact HR2.out.below HY1 | exact HR2.out.below (Below.drew HY1))).mono ?_; rintro e c2w ⟨E2, m2, rfl, hS2, hl2, hb2⟩; have HZ2 : Below (w.alloc zN).heap.size (w.alloc zN) c2w := (by first | exact Below.trans HZ1 (hb2.mono (Below.size HZ1)) | exact Below.trans (Below.drew HZ1) (hb2.mono (by have := Below.size HZ1; simpa using this))); have HY2 : Below w.heap.size w c2w := ((Below.refl w.heap.size w).alloc (Nat.le_refl _) zN).trans (HZ2.mono (by simp)); have hz2 : w.heap.size < c2w.heap.size := (by have := Below.size HZ2; (try simp at this); omega); obtain ⟨kb2, -⟩ := bblk hb2 (b := b) (by first | omega | (simp; omega)); obtain ⟨ka2, fa2⟩ := bblk hb2 (b := w.heap.size) (by first | omega | (simp; done) | (simp; omega))))
    go_wp2_with fail
    refine bodyPost_ret (v := .agg #[.int .i64 24, .string ⟨#[]⟩, .string ⟨#[]⟩, .int .u64 0, .slice (some ⟨c2w.heap.size, 0, none⟩) 3 3]) (by simp [results, Tryz.f36, go_sem, ka0, hz0, Nat.ne_of_lt hz0, ka1, hz1, Nat.ne_of_lt hz1, ka2, hz2, Nat.ne_of_lt hz2]) rfl (NodePost.stored2 _ _ _ _ _ HZ2 (back_fin [m0, m1, m2] rfl HWF.out HZ2 rfl ?_))
    intro i x y hx hy
    match i with
    | 0 => simp at hx hy; subst hx hy; exact ⟨E0, hS0, (((hl0.mono (From.le (by first | exact Nat.le_refl _ | omega | (simp; omega) | (have := Below.size HZ0; simp; omega) | (have := Below.size HZ0; simp at this ⊢; omega)))).below (by first | exact hb1 | (have h := hb1; simpa using h))).below (by first | exact hb2 | (have h := hb2; simpa using h)))⟩
    | 1 => simp at hx hy; subst hx hy; exact ⟨E1, hS1, ((hl1.mono (From.le (by first | exact Nat.le_refl _ | omega | (simp; omega) | (have := Below.size HZ1; simp; omega) | (have := Below.size HZ0; simp at this ⊢; omega)))).below (by first | exact hb2 | (have h := hb2; simpa using h)))⟩
    | 2 => simp at hx hy; subst hx hy; exact ⟨E2, hS2, (hl2.mono (From.le (by first | exact Nat.le_refl _ | omega | (simp; omega) | (have := Below.size HZ2; simp; omega) | (have := Below.size HZ1; simp at this ⊢; omega))))⟩
    | _ + 3 => simp at hx
end Go.Proofs.YtongafghllkomaaGreatDoor
