/-
  node kind by kind, part B: it hands back the tree that lies there, given its own contract a level down. No conditions.
-/
import Derived.Test.YtongafghllkomaaGreatDoorOrNone
import Derived.Test.YtongafghllkomaaGreatDoorTests
import Derived.Deep.RegionHeld3
import Derived.Deep.RegionWith
namespace Go.Proofs.YtongafghllkomaaGreatDoor
open Go.RowKit
set_option linter.unusedVariables false
set_option linter.unusedSimpArgs false

set_option maxRecDepth 100000 in
set_option maxHeartbeats 2000000 in
theorem nd_4 (d : Nat) (hN : NodeC d) (e : Nat) (A : Nat → Prop) (n : Nd) (b : Nat) (w : World) (hG : PreD (e + 1) n) (hW : WfN n) (hR : RepD A (d + 1) w n b) (hk : n.kind = 4) :
    Calls Tryz.prog 36 #[.iface (pTy n.kind) (.pointer (some ⟨b, 0, none⟩))] w (NodePost n w) := by
  obtain ⟨k, t, m, u, ao, cap, kids⟩ := n
  obtain rfl : k = 4 := hk
  have hn0 : (Nd.mk 4 t m u ao cap kids).kind ≠ 0 := by show (4 : Int) ≠ 0; decide
  have hn1 : (Nd.mk 4 t m u ao cap kids).kind ≠ 1 := by show (4 : Int) ≠ 1; decide
  have hPl := (hG.fit hn0).2.2.1
  have HWF := Lib.hid hW.wf
  obtain rfl : t = ⟨#[]⟩ := hPl.1 (show hasText 4 = false by decide)
  obtain rfl : u = 0 := hPl.2.1 (show hasNum 4 = false by decide)
  obtain rfl : m = ⟨#[]⟩ := hPl.2.2.1 (show (4 : Int) ≠ 2 by decide) (show (4 : Int) ≠ 3 by decide)
  have hln : kids.length = 1 := by
    have h1 := ((hG.fit hn0).2.2.2.1 hn1)
    have e1 : (fixedL 4).length = 1 := by decide
    have e2 : restL 4 = 28 := by decide
    simp only [Nd.kind, Nd.kids] at h1
    rw [e1, e2] at h1
    omega
  obtain ⟨x0, rfl⟩ : ∃ x0, kids = [x0] := kids1 (n := Nd.mk 4 ⟨#[]⟩ ⟨#[]⟩ 0 ao cap kids) hln
  obtain ⟨hP0, hC0⟩ := hG.kid (i := 0) (x := x0) hn0 rfl
  have hf0 : x0.kind ∈ ([33] : List Int) := class_few [33] rfl (hC0 hn1)
  have hk0 : x0.kind = 33 := by
    have h := hf0
    simp at h
    omega
  have hw0 : x0.kind ∈ walkL := by rw [hk0]; decide
  have HG0 := Lib.hid (show GoodW e x0 from ⟨hP0.good hw0, hW.kid (i := 0) rfl⟩)
  have HK0 := Lib.hid hk0
  obtain ⟨hA, cs, hb, hs⟩ := hR
  rw [slots_4 _ rfl] at hs
  match cs, hs with
  | [v0, v1, v2, v3], ⟨e0, e1, e2, e3, _⟩ =>
    obtain ⟨b0, rfl, hR0⟩ := (show PtrTo (RepD A d) w x0 v3 from e3)
    have HR0 := Lib.hid hR0
    have c3 : w.cell? ⟨b, 3, none⟩ = some (.pointer (some ⟨b0, 0, none⟩)) := by rw [Lib.cell_of_heap hb]; rfl
    have hblt : b < w.heap.size := World.block_lt_of_cell? _ _ c3
    have hbne : ¬ b = w.heap.size := by omega
    have hbne2 : ¬ w.heap.size = b := by omega
    rw [show pTy (Nd.kind (.mk 4 ⟨#[]⟩ ⟨#[]⟩ 0 ao cap [x0])) = 109 from ptrTy_4]
    clear hn0 hn1 hPl hln hG hW hA hb hP0 hC0
    have q2 := no_2 109 (by decide)
    have q3 := no_3 109 (by decide)
    have q4 := yes_4
    go_enter Tryz.func36, Tryz.ntmps36
    go_wp2_with fail
    (go_at_call 93; refine (orNone_33 d hN e A x0 b0 _ HG0.out (by first | exact HR0.out.below ((Below.refl _ _).alloc (Nat.le_refl _) _) | exact HR0.out.below (Below.drew ((Below.refl _ _).alloc (Nat.le_refl _) _))) HK0.out).mono ?_; rintro e c0w ⟨E0, m0, rfl, hS0, hl0, hb0⟩; have HZ0 : Below (w.alloc zN).heap.size (w.alloc zN) c0w := (by first | exact hb0 | exact (Below.drew (Below.refl _ _)).trans (hb0.mono (by simp))); have HY0 : Below w.heap.size w c0w := ((Below.refl w.heap.size w).alloc (Nat.le_refl _) zN).trans (HZ0.mono (by simp)); have hz0 : w.heap.size < c0w.heap.size := (by have := Below.size HZ0; (try simp at this); omega); obtain ⟨kb0, -⟩ := bblk hb0 (b := b) (by first | omega | (simp; omega)); obtain ⟨ka0, fa0⟩ := bblk hb0 (b := w.heap.size) (by first | omega | (simp; done) | (simp; omega)))
    go_wp2_with fail
    refine bodyPost_ret (v := .agg #[.int .i64 4, .string ⟨#[]⟩, .string ⟨#[]⟩, .int .u64 0, .slice (some ⟨c0w.heap.size, 0, none⟩) 1 1]) (by simp [results, Tryz.f36, go_sem, ka0, hz0, Nat.ne_of_lt hz0]) rfl (NodePost.stored2 _ _ _ _ _ HZ0 (back_fin [m0] rfl HWF.out HZ0 rfl ?_))
    intro i x y hx hy
    match i with
    | 0 => simp at hx hy; subst hx hy; exact ⟨E0, hS0, (hl0.mono (From.le (by first | exact Nat.le_refl _ | omega | (simp; omega) | (have := Below.size HZ0; simp; omega) | (have := Below.size HZ0; simp at this ⊢; omega))))⟩
    | _ + 1 => simp at hx

set_option maxRecDepth 100000 in
set_option maxHeartbeats 2000000 in
theorem nd_5 (d : Nat) (hN : NodeC d) (e : Nat) (A : Nat → Prop) (n : Nd) (b : Nat) (w : World) (hG : PreD (e + 1) n) (hW : WfN n) (hR : RepD A (d + 1) w n b) (hk : n.kind = 5) (hm : (n.kid 0).kind ≠ 0) :
    Calls Tryz.prog 36 #[.iface (pTy n.kind) (.pointer (some ⟨b, 0, none⟩))] w (NodePost n w) := by
  obtain ⟨k, t, m, u, ao, cap, kids⟩ := n
  obtain rfl : k = 5 := hk
  have hn0 : (Nd.mk 5 t m u ao cap kids).kind ≠ 0 := by show (5 : Int) ≠ 0; decide
  have hn1 : (Nd.mk 5 t m u ao cap kids).kind ≠ 1 := by show (5 : Int) ≠ 1; decide
  have hPl := (hG.fit hn0).2.2.1
  have HWF := Lib.hid hW.wf
  obtain rfl : t = ⟨#[]⟩ := hPl.1 (show hasText 5 = false by decide)
  obtain rfl : u = 0 := hPl.2.1 (show hasNum 5 = false by decide)
  obtain rfl : m = ⟨#[]⟩ := hPl.2.2.1 (show (5 : Int) ≠ 2 by decide) (show (5 : Int) ≠ 3 by decide)
  have hln : kids.length = 2 := by
    have h1 := ((hG.fit hn0).2.2.2.1 hn1)
    have e1 : (fixedL 5).length = 2 := by decide
    have e2 : restL 5 = 28 := by decide
    simp only [Nd.kind, Nd.kids] at h1
    rw [e1, e2] at h1
    omega
  obtain ⟨x0, x1, rfl⟩ : ∃ x0 x1, kids = [x0, x1] := kids2 (n := Nd.mk 5 ⟨#[]⟩ ⟨#[]⟩ 0 ao cap kids) hln
  obtain ⟨hP0, hC0⟩ := hG.kid (i := 0) (x := x0) hn0 rfl
  have hx0 : x0.kind ≠ 0 := hm
  have hf0 : x0.kind ∈ ([33, 0] : List Int) := class_few [33, 0] rfl (hC0 hn1)
  have hk0 : x0.kind = 33 := by
    have h := hf0
    simp at h
    omega
  have hw0 : x0.kind ∈ walkL := by rw [hk0]; decide
  have HG0 := Lib.hid (show GoodW e x0 from ⟨hP0.good hw0, hW.kid (i := 0) rfl⟩)
  have HK0 := Lib.hid hk0
  obtain ⟨hP1, hC1⟩ := hG.kid (i := 1) (x := x1) hn0 rfl
  have hf1 : x1.kind ∈ ([34] : List Int) := class_few [34] rfl (hC1 hn1)
  have hk1 : x1.kind = 34 := by
    have h := hf1
    simp at h
    omega
  have hw1 : x1.kind ∈ walkL := by rw [hk1]; decide
  have HG1 := Lib.hid (show GoodW e x1 from ⟨hP1.good hw1, hW.kid (i := 1) rfl⟩)
  have HK1 := Lib.hid hk1
  obtain ⟨hA, cs, hb, hs⟩ := hR
  rw [slots_5 _ rfl] at hs
  match cs, hs with
  | [v0, v1, v2, v3, v4], ⟨e0, e1, e2, e3, e4, _⟩ =>
    obtain ⟨b0, rfl, hR0⟩ : PtrTo (RepD A d) w x0 v3 := by
      rcases e3 with e | e
      · exact absurd e.1 hx0
      · exact e.2
    have HR0 := Lib.hid hR0
    have c3 : w.cell? ⟨b, 3, none⟩ = some (.pointer (some ⟨b0, 0, none⟩)) := by rw [Lib.cell_of_heap hb]; rfl
    obtain ⟨b1, rfl, hR1⟩ := (show PtrTo (RepD A d) w x1 v4 from e4)
    have HR1 := Lib.hid hR1
    have c4 : w.cell? ⟨b, 4, none⟩ = some (.pointer (some ⟨b1, 0, none⟩)) := by rw [Lib.cell_of_heap hb]; rfl
    have hblt : b < w.heap.size := World.block_lt_of_cell? _ _ c3
    have hbne : ¬ b = w.heap.size := by omega
    have hbne2 : ¬ w.heap.size = b := by omega
    rw [show pTy (Nd.kind (.mk 5 ⟨#[]⟩ ⟨#[]⟩ 0 ao cap [x0, x1])) = 104 from ptrTy_5]
    clear hn0 hn1 hPl hln hG hW hA hb hP0 hC0 hP1 hC1
    have q2 := no_2 104 (by decide)
    have q3 := no_3 104 (by decide)
    have q4 := no_4 104 (by decide)
    have q5 := yes_5
    go_enter Tryz.func36, Tryz.ntmps36
    go_wp2_with fail
    go_region_held3 (fun w' => (w'.cell? ⟨b, 3, none⟩ = some (.pointer (some ⟨b0, 0, none⟩)) ∧ w'.cell? ⟨b, 4, none⟩ = some (.pointer (some ⟨b1, 0, none⟩)))) (go_keep) (first | (go_at_call_of 93 b0; refine (orNone_33 d hN e A x0 b0 _ HG0.out (by first | exact HR0.out.below ((Below.refl _ _).alloc (Nat.le_refl _) _) | exact HR0.out.below (Below.drew ((Below.refl _ _).alloc (Nat.le_refl _) _))) HK0.out).mono ?_; rintro e c0w ⟨E0, m0, rfl, hS0, hl0, hb0⟩; have HZ0 : Below (w.alloc zN).heap.size (w.alloc zN) c0w := (by first | exact hb0 | exact (Below.drew (Below.refl _ _)).trans (hb0.mono (by simp))); have HY0 : Below w.heap.size w c0w := ((Below.refl w.heap.size w).alloc (Nat.le_refl _) zN).trans (HZ0.mono (by simp)); have hz0 : w.heap.size < c0w.heap.size := (by have := Below.size HZ0; (try simp at this); omega); obtain ⟨kb0, -⟩ := bblk hb0 (b := b) (by first | omega | (simp; omega)); obtain ⟨ka0, fa0⟩ := bblk hb0 (b := w.heap.size) (by first | omega | (simp; done) | (simp; omega))) | (go_at_call_of 94 b1; refine (orNone_34 d hN e A x1 b1 _ HG1.out (by first | exact HR1.out.below HY0 | exact HR1.out.below (Below.drew HY0)) HK1.out).mono ?_; rintro e c1w ⟨E1, m1, rfl, hS1, hl1, hb1⟩; have HZ1 : Below (w.alloc zN).heap.size (w.alloc zN) c1w := (by first | exact Below.trans HZ0 (hb1.mono (Below.size HZ0)) | exact Below.trans (Below.drew HZ0) (hb1.mono (by have := Below.size HZ0; simpa using this))); have HY1 : Below w.heap.size w c1w := ((Below.refl w.heap.size w).alloc (Nat.le_refl _) zN).trans (HZ1.mono (by simp)); have hz1 : w.heap.size < c1w.heap.size := (by have := Below.size HZ1; (try simp at this); omega); obtain ⟨kb1, -⟩ := bblk hb1 (b := b) (by first | omega | (simp; omega)); obtain ⟨ka1, fa1⟩ := bblk hb1 (b := w.heap.size) (by first | omega | (simp; done) | (simp; omega))))
    go_wp2_with fail
    refine bodyPost_ret (v := .agg #[.int .i64 5, .string ⟨#[]⟩, .string ⟨#[]⟩, .int .u64 0, .slice (some ⟨c1w.heap.size, 0, none⟩) 2 2]) (by simp [results, Tryz.f36, go_sem, ka0, hz0, Nat.ne_of_lt hz0, ka1, hz1, Nat.ne_of_lt hz1]) rfl (NodePost.stored2 _ _ _ _ _ HZ1 (back_fin [m0, m1] rfl HWF.out HZ1 rfl ?_))
    intro i x y hx hy
    match i with
    | 0 => simp at hx hy; subst hx hy; exact ⟨E0, hS0, ((hl0.mono (From.le (by first | exact Nat.le_refl _ | omega | (simp; omega) | (have := Below.size HZ0; simp; omega) | (have := Below.size HZ0; simp at this ⊢; omega)))).below (by first | exact hb1 | (have h := hb1; simpa using h)))⟩
    | 1 => simp at hx hy; subst hx hy; exact ⟨E1, hS1, (hl1.mono (From.le (by first | exact Nat.le_refl _ | omega | (simp; omega) | (have := Below.size HZ1; simp; omega) | (have := Below.size HZ0; simp at this ⊢; omega))))⟩
    | _ + 2 => simp at hx

set_option maxRecDepth 100000 in
set_option maxHeartbeats 2000000 in
theorem nd_5_none (d : Nat) (hN : NodeC d) (e : Nat) (A : Nat → Prop) (n : Nd) (b : Nat) (w : World) (hG : PreD (e + 1) n) (hW : WfN n) (hR : RepD A (d + 1) w n b) (hk : n.kind = 5) (hm : (n.kid 0).kind = 0) :
    Calls Tryz.prog 36 #[.iface (pTy n.kind) (.pointer (some ⟨b, 0, none⟩))] w (NodePost n w) := by
  obtain ⟨k, t, m, u, ao, cap, kids⟩ := n
  obtain rfl : k = 5 := hk
  have hn0 : (Nd.mk 5 t m u ao cap kids).kind ≠ 0 := by show (5 : Int) ≠ 0; decide
  have hn1 : (Nd.mk 5 t m u ao cap kids).kind ≠ 1 := by show (5 : Int) ≠ 1; decide
  have hPl := (hG.fit hn0).2.2.1
  have HWF := Lib.hid hW.wf
  obtain rfl : t = ⟨#[]⟩ := hPl.1 (show hasText 5 = false by decide)
  obtain rfl : u = 0 := hPl.2.1 (show hasNum 5 = false by decide)
  obtain rfl : m = ⟨#[]⟩ := hPl.2.2.1 (show (5 : Int) ≠ 2 by decide) (show (5 : Int) ≠ 3 by decide)
  have hln : kids.length = 2 := by
    have h1 := ((hG.fit hn0).2.2.2.1 hn1)
    have e1 : (fixedL 5).length = 2 := by decide
    have e2 : restL 5 = 28 := by decide
    simp only [Nd.kind, Nd.kids] at h1
    rw [e1, e2] at h1
    omega
  obtain ⟨x0, x1, rfl⟩ : ∃ x0 x1, kids = [x0, x1] := kids2 (n := Nd.mk 5 ⟨#[]⟩ ⟨#[]⟩ 0 ao cap kids) hln
  obtain ⟨hP0, hC0⟩ := hG.kid (i := 0) (x := x0) hn0 rfl
  have hx0 : x0.kind = 0 := hm
  have HX0 := Lib.hid (And.intro hx0 (hP0.none0 hx0))
  obtain ⟨hP1, hC1⟩ := hG.kid (i := 1) (x := x1) hn0 rfl
  have hf1 : x1.kind ∈ ([34] : List Int) := class_few [34] rfl (hC1 hn1)
  have hk1 : x1.kind = 34 := by
    have h := hf1
    simp at h
    omega
  have hw1 : x1.kind ∈ walkL := by rw [hk1]; decide
  have HG1 := Lib.hid (show GoodW e x1 from ⟨hP1.good hw1, hW.kid (i := 1) rfl⟩)
  have HK1 := Lib.hid hk1
  obtain ⟨hA, cs, hb, hs⟩ := hR
  rw [slots_5 _ rfl] at hs
  match cs, hs with
  | [v0, v1, v2, v3, v4], ⟨e0, e1, e2, e3, e4, _⟩ =>
    obtain rfl : v3 = .pointer none := by
      rcases e3 with e | e
      · exact e.2
      · exact absurd hx0 e.1
    have c3 : w.cell? ⟨b, 3, none⟩ = some (.pointer none) := by rw [Lib.cell_of_heap hb]; rfl
    obtain ⟨b1, rfl, hR1⟩ := (show PtrTo (RepD A d) w x1 v4 from e4)
    have HR1 := Lib.hid hR1
    have c4 : w.cell? ⟨b, 4, none⟩ = some (.pointer (some ⟨b1, 0, none⟩)) := by rw [Lib.cell_of_heap hb]; rfl
    have hblt : b < w.heap.size := World.block_lt_of_cell? _ _ c3
    have hbne : ¬ b = w.heap.size := by omega
    have hbne2 : ¬ w.heap.size = b := by omega
    rw [show pTy (Nd.kind (.mk 5 ⟨#[]⟩ ⟨#[]⟩ 0 ao cap [x0, x1])) = 104 from ptrTy_5]
    clear hn0 hn1 hPl hln hG hW hA hb hP0 hC0 hP1 hC1
    have q2 := no_2 104 (by decide)
    have q3 := no_3 104 (by decide)
    have q4 := no_4 104 (by decide)
    have q5 := yes_5
    go_enter Tryz.func36, Tryz.ntmps36
    go_wp2_with fail
    go_region_held3 (fun w' => (w'.cell? ⟨b, 3, none⟩ = some (.pointer none) ∧ w'.cell? ⟨b, 4, none⟩ = some (.pointer (some ⟨b1, 0, none⟩)))) (go_keep) (first | (go_at_call 93; refine (orNone_33_none _).mono ?_; rintro e c0w ⟨rfl, hb0⟩; have HZ0 : Below (w.alloc zN).heap.size (w.alloc zN) c0w := (by first | exact hb0 | exact (Below.drew (Below.refl _ _)).trans (hb0.mono (by simp))); have HY0 : Below w.heap.size w c0w := ((Below.refl w.heap.size w).alloc (Nat.le_refl _) zN).trans (HZ0.mono (by simp)); have hz0 : w.heap.size < c0w.heap.size := (by have := Below.size HZ0; (try simp at this); omega); obtain ⟨kb0, -⟩ := bblk hb0 (b := b) (by first | omega | (simp; omega)); obtain ⟨ka0, fa0⟩ := bblk hb0 (b := w.heap.size) (by first | omega | (simp; done) | (simp; omega))) | (go_at_call_of 94 b1; refine (orNone_34 d hN e A x1 b1 _ HG1.out (by first | exact HR1.out.below HY0 | exact HR1.out.below (Below.drew HY0)) HK1.out).mono ?_; rintro e c1w ⟨E1, m1, rfl, hS1, hl1, hb1⟩; have HZ1 : Below (w.alloc zN).heap.size (w.alloc zN) c1w := (by first | exact Below.trans HZ0 (hb1.mono (Below.size HZ0)) | exact Below.trans (Below.drew HZ0) (hb1.mono (by have := Below.size HZ0; simpa using this))); have HY1 : Below w.heap.size w c1w := ((Below.refl w.heap.size w).alloc (Nat.le_refl _) zN).trans (HZ1.mono (by simp)); have hz1 : w.heap.size < c1w.heap.size := (by have := Below.size HZ1; (try simp at this); omega); obtain ⟨kb1, -⟩ := bblk hb1 (b := b) (by first | omega | (simp; omega)); obtain ⟨ka1, fa1⟩ := bblk hb1 (b := w.heap.size) (by first | omega | (simp; done) | (simp; omega))))
    go_wp2_with fail
    refine bodyPost_ret (v := .agg #[.int .i64 5, .string ⟨#[]⟩, .string ⟨#[]⟩, .int .u64 0, .slice (some ⟨c1w.heap.size, 0, none⟩) 2 2]) (by simp [results, Tryz.f36, go_sem, ka0, hz0, Nat.ne_of_lt hz0, ka1, hz1, Nat.ne_of_lt hz1]) rfl (NodePost.stored2 _ _ _ _ _ HZ1 (back_fin [Nd.none, m1] rfl HWF.out HZ1 rfl ?_))
    intro i x y hx hy
    match i with
    | 0 => simp at hx hy; subst hx hy; exact ⟨1, none_same HX0.out.1 HX0.out.2, none_lies _ _⟩
    | 1 => simp at hx hy; subst hx hy; exact ⟨E1, hS1, (hl1.mono (From.le (by first | exact Nat.le_refl _ | omega | (simp; omega) | (have := Below.size HZ1; simp; omega) | (have := Below.size HZ0; simp at this ⊢; omega))))⟩
    | _ + 2 => simp at hx

set_option maxRecDepth 100000 in
set_option maxHeartbeats 2000000 in
theorem nd_8 (d : Nat) (hN : NodeC d) (e : Nat) (A : Nat → Prop) (n : Nd) (b : Nat) (w : World) (hG : PreD (e + 1) n) (hW : WfN n) (hR : RepD A (d + 1) w n b) (hk : n.kind = 8) :
    Calls Tryz.prog 36 #[.iface (pTy n.kind) (.pointer (some ⟨b, 0, none⟩))] w (NodePost n w) := by
  obtain ⟨k, t, m, u, ao, cap, kids⟩ := n
  obtain rfl : k = 8 := hk
  have hn0 : (Nd.mk 8 t m u ao cap kids).kind ≠ 0 := by show (8 : Int) ≠ 0; decide
  have hn1 : (Nd.mk 8 t m u ao cap kids).kind ≠ 1 := by show (8 : Int) ≠ 1; decide
  have hPl := (hG.fit hn0).2.2.1
  have HWF := Lib.hid hW.wf
  obtain rfl : t = ⟨#[]⟩ := hPl.1 (show hasText 8 = false by decide)
  obtain rfl : u = 0 := hPl.2.1 (show hasNum 8 = false by decide)
  obtain rfl : m = ⟨#[]⟩ := hPl.2.2.1 (show (8 : Int) ≠ 2 by decide) (show (8 : Int) ≠ 3 by decide)
  have hln : kids.length = 1 := by
    have h1 := ((hG.fit hn0).2.2.2.1 hn1)
    have e1 : (fixedL 8).length = 1 := by decide
    have e2 : restL 8 = 28 := by decide
    simp only [Nd.kind, Nd.kids] at h1
    rw [e1, e2] at h1
    omega
  obtain ⟨x0, rfl⟩ : ∃ x0, kids = [x0] := kids1 (n := Nd.mk 8 ⟨#[]⟩ ⟨#[]⟩ 0 ao cap kids) hln
  obtain ⟨hP0, hC0⟩ := hG.kid (i := 0) (x := x0) hn0 rfl
  have hw0 : x0.kind ∈ walkL := expr_walk (class_0 (hC0 hn1))
  have HG0 := Lib.hid (show GoodW e x0 from ⟨hP0.good hw0, hW.kid (i := 0) rfl⟩)
  obtain ⟨hA, cs, hb, hs⟩ := hR
  rw [slots_8 _ rfl] at hs
  match cs, hs with
  | [v0, v1, v2, v3], ⟨e0, e1, e2, e3, _⟩ =>
    obtain ⟨b0, rfl, hR0⟩ := (show IfcTo (RepD A d) w x0 v3 from e3)
    have HR0 := Lib.hid hR0
    have c3 : w.cell? ⟨b, 3, none⟩ = some (.iface (pTy x0.kind) (.pointer (some ⟨b0, 0, none⟩))) := by rw [Lib.cell_of_heap hb]; rfl
    have hblt : b < w.heap.size := World.block_lt_of_cell? _ _ c3
    have hbne : ¬ b = w.heap.size := by omega
    have hbne2 : ¬ w.heap.size = b := by omega
    rw [show pTy (Nd.kind (.mk 8 ⟨#[]⟩ ⟨#[]⟩ 0 ao cap [x0])) = 126 from ptrTy_8]
    clear hn0 hn1 hPl hln hG hW hA hb hP0 hC0
    have q2 := no_2 126 (by decide)
    have q3 := no_3 126 (by decide)
    have q4 := no_4 126 (by decide)
    have q5 := no_5 126 (by decide)
    have q6 := no_6 126 (by decide)
    have q7 := no_7 126 (by decide)
    have q8 := yes_8
    go_enter Tryz.func36, Tryz.ntmps36
    go_wp2_with fail
    (go_at_call 54; refine (exprOrNone d hN e A x0 b0 _ HG0.out (by first | exact HR0.out.below ((Below.refl _ _).alloc (Nat.le_refl _) _) | exact HR0.out.below (Below.drew ((Below.refl _ _).alloc (Nat.le_refl _) _)))).mono ?_; rintro e c0w ⟨E0, m0, rfl, hS0, hl0, hb0⟩; have HZ0 : Below (w.alloc zN).heap.size (w.alloc zN) c0w := (by first | exact hb0 | exact (Below.drew (Below.refl _ _)).trans (hb0.mono (by simp))); have HY0 : Below w.heap.size w c0w := ((Below.refl w.heap.size w).alloc (Nat.le_refl _) zN).trans (HZ0.mono (by simp)); have hz0 : w.heap.size < c0w.heap.size := (by have := Below.size HZ0; (try simp at this); omega); obtain ⟨kb0, -⟩ := bblk hb0 (b := b) (by first | omega | (simp; omega)); obtain ⟨ka0, fa0⟩ := bblk hb0 (b := w.heap.size) (by first | omega | (simp; done) | (simp; omega)))
    go_wp2_with fail
    refine bodyPost_ret (v := .agg #[.int .i64 8, .string ⟨#[]⟩, .string ⟨#[]⟩, .int .u64 0, .slice (some ⟨c0w.heap.size, 0, none⟩) 1 1]) (by simp [results, Tryz.f36, go_sem, ka0, hz0, Nat.ne_of_lt hz0]) rfl (NodePost.stored2 _ _ _ _ _ HZ0 (back_fin [m0] rfl HWF.out HZ0 rfl ?_))
    intro i x y hx hy
    match i with
    | 0 => simp at hx hy; subst hx hy; exact ⟨E0, hS0, (hl0.mono (From.le (by first | exact Nat.le_refl _ | omega | (simp; omega) | (have := Below.size HZ0; simp; omega) | (have := Below.size HZ0; simp at this ⊢; omega))))⟩
    | _ + 1 => simp at hx

set_option maxRecDepth 100000 in
set_option maxHeartbeats 2000000 in
theorem nd_9 (d : Nat) (hN : NodeC d) (e : Nat) (A : Nat → Prop) (n : Nd) (b : Nat) (w : World) (hG : PreD (e + 1) n) (hW : WfN n) (hR : RepD A (d + 1) w n b) (hk : n.kind = 9) :
    Calls Tryz.prog 36 #[.iface (pTy n.kind) (.pointer (some ⟨b, 0, none⟩))] w (NodePost n w) := by
  obtain ⟨k, t, m, u, ao, cap, kids⟩ := n
  obtain rfl : k = 9 := hk
  have hn0 : (Nd.mk 9 t m u ao cap kids).kind ≠ 0 := by show (9 : Int) ≠ 0; decide
  have hn1 : (Nd.mk 9 t m u ao cap kids).kind ≠ 1 := by show (9 : Int) ≠ 1; decide
  have hPl := (hG.fit hn0).2.2.1
  have HWF := Lib.hid hW.wf
  obtain rfl : t = ⟨#[]⟩ := hPl.1 (show hasText 9 = false by decide)
  obtain rfl : u = 0 := hPl.2.1 (show hasNum 9 = false by decide)
  obtain rfl : m = ⟨#[]⟩ := hPl.2.2.1 (show (9 : Int) ≠ 2 by decide) (show (9 : Int) ≠ 3 by decide)
  have hln : kids.length = 1 := by
    have h1 := ((hG.fit hn0).2.2.2.1 hn1)
    have e1 : (fixedL 9).length = 1 := by decide
    have e2 : restL 9 = 28 := by decide
    simp only [Nd.kind, Nd.kids] at h1
    rw [e1, e2] at h1
    omega
  obtain ⟨x0, rfl⟩ : ∃ x0, kids = [x0] := kids1 (n := Nd.mk 9 ⟨#[]⟩ ⟨#[]⟩ 0 ao cap kids) hln
  obtain ⟨hP0, hC0⟩ := hG.kid (i := 0) (x := x0) hn0 rfl
  have hw0 : x0.kind ∈ walkL := expr_walk (class_0 (hC0 hn1))
  have HG0 := Lib.hid (show GoodW e x0 from ⟨hP0.good hw0, hW.kid (i := 0) rfl⟩)
  obtain ⟨hA, cs, hb, hs⟩ := hR
  rw [slots_9 _ rfl] at hs
  match cs, hs with
  | [v0, v1, v2, v3], ⟨e0, e1, e2, e3, _⟩ =>
    obtain ⟨b0, rfl, hR0⟩ := (show IfcTo (RepD A d) w x0 v3 from e3)
    have HR0 := Lib.hid hR0
    have c3 : w.cell? ⟨b, 3, none⟩ = some (.iface (pTy x0.kind) (.pointer (some ⟨b0, 0, none⟩))) := by rw [Lib.cell_of_heap hb]; rfl
    have hblt : b < w.heap.size := World.block_lt_of_cell? _ _ c3
    have hbne : ¬ b = w.heap.size := by omega
    have hbne2 : ¬ w.heap.size = b := by omega
    rw [show pTy (Nd.kind (.mk 9 ⟨#[]⟩ ⟨#[]⟩ 0 ao cap [x0])) = 130 from ptrTy_9]
    clear hn0 hn1 hPl hln hG hW hA hb hP0 hC0
    have q2 := no_2 130 (by decide)
    have q3 := no_3 130 (by decide)
    have q4 := no_4 130 (by decide)
    have q5 := no_5 130 (by decide)
    have q6 := no_6 130 (by decide)
    have q7 := no_7 130 (by decide)
    have q8 := no_8 130 (by decide)
    have q9 := yes_9
    go_enter Tryz.func36, Tryz.ntmps36
    go_wp2_with fail
    (go_at_call 54; refine (exprOrNone d hN e A x0 b0 _ HG0.out (by first | exact HR0.out.below ((Below.refl _ _).alloc (Nat.le_refl _) _) | exact HR0.out.below (Below.drew ((Below.refl _ _).alloc (Nat.le_refl _) _)))).mono ?_; rintro e c0w ⟨E0, m0, rfl, hS0, hl0, hb0⟩; have HZ0 : Below (w.alloc zN).heap.size (w.alloc zN) c0w := (by first | exact hb0 | exact (Below.drew (Below.refl _ _)).trans (hb0.mono (by simp))); have HY0 : Below w.heap.size w c0w := ((Below.refl w.heap.size w).alloc (Nat.le_refl _) zN).trans (HZ0.mono (by simp)); have hz0 : w.heap.size < c0w.heap.size := (by have := Below.size HZ0; (try simp at this); omega); obtain ⟨kb0, -⟩ := bblk hb0 (b := b) (by first | omega | (simp; omega)); obtain ⟨ka0, fa0⟩ := bblk hb0 (b := w.heap.size) (by first | omega | (simp; done) | (simp; omega)))
    go_wp2_with fail
    refine bodyPost_ret (v := .agg #[.int .i64 9, .string ⟨#[]⟩, .string ⟨#[]⟩, .int .u64 0, .slice (some ⟨c0w.heap.size, 0, none⟩) 1 1]) (by simp [results, Tryz.f36, go_sem, ka0, hz0, Nat.ne_of_lt hz0]) rfl (NodePost.stored2 _ _ _ _ _ HZ0 (back_fin [m0] rfl HWF.out HZ0 rfl ?_))
    intro i x y hx hy
    match i with
    | 0 => simp at hx hy; subst hx hy; exact ⟨E0, hS0, (hl0.mono (From.le (by first | exact Nat.le_refl _ | omega | (simp; omega) | (have := Below.size HZ0; simp; omega) | (have := Below.size HZ0; simp at this ⊢; omega))))⟩
    | _ + 1 => simp at hx

set_option maxRecDepth 100000 in
set_option maxHeartbeats 2000000 in
theorem nd_12 (d : Nat) (hN : NodeC d) (e : Nat) (A : Nat → Prop) (n : Nd) (b : Nat) (w : World) (hG : PreD (e + 1) n) (hW : WfN n) (hR : RepD A (d + 1) w n b) (hk : n.kind = 12) :
    Calls Tryz.prog 36 #[.iface (pTy n.kind) (.pointer (some ⟨b, 0, none⟩))] w (NodePost n w) := by
  obtain ⟨k, t, m, u, ao, cap, kids⟩ := n
  obtain rfl : k = 12 := hk
  have hn0 : (Nd.mk 12 t m u ao cap kids).kind ≠ 0 := by show (12 : Int) ≠ 0; decide
  have hn1 : (Nd.mk 12 t m u ao cap kids).kind ≠ 1 := by show (12 : Int) ≠ 1; decide
  have hPl := (hG.fit hn0).2.2.1
  have HWF := Lib.hid hW.wf
  obtain rfl : t = ⟨#[]⟩ := hPl.1 (show hasText 12 = false by decide)
  obtain rfl : u = 0 := hPl.2.1 (show hasNum 12 = false by decide)
  obtain rfl : m = ⟨#[]⟩ := hPl.2.2.1 (show (12 : Int) ≠ 2 by decide) (show (12 : Int) ≠ 3 by decide)
  have hln : kids.length = 1 := by
    have h1 := ((hG.fit hn0).2.2.2.1 hn1)
    have e1 : (fixedL 12).length = 1 := by decide
    have e2 : restL 12 = 28 := by decide
    simp only [Nd.kind, Nd.kids] at h1
    rw [e1, e2] at h1
    omega
  obtain ⟨x0, rfl⟩ : ∃ x0, kids = [x0] := kids1 (n := Nd.mk 12 ⟨#[]⟩ ⟨#[]⟩ 0 ao cap kids) hln
  obtain ⟨hP0, hC0⟩ := hG.kid (i := 0) (x := x0) hn0 rfl
  have hf0 : x0.kind ∈ ([10, 11] : List Int) := class_few [10, 11] rfl (hC0 hn1)
  have hw0 : x0.kind ∈ walkL := by revert hf0; unfold walkL; simp; omega
  have HG0 := Lib.hid (show GoodW e x0 from ⟨hP0.good hw0, hW.kid (i := 0) rfl⟩)
  obtain ⟨hA, cs, hb, hs⟩ := hR
  rw [slots_12 _ rfl] at hs
  match cs, hs with
  | [v0, v1, v2, v3], ⟨e0, e1, e2, e3, _⟩ =>
    obtain ⟨b0, rfl, hR0⟩ := (show IfcTo (RepD A d) w x0 v3 from e3)
    have HR0 := Lib.hid hR0
    have c3 : w.cell? ⟨b, 3, none⟩ = some (.iface (pTy x0.kind) (.pointer (some ⟨b0, 0, none⟩))) := by rw [Lib.cell_of_heap hb]; rfl
    have hblt : b < w.heap.size := World.block_lt_of_cell? _ _ c3
    have hbne : ¬ b = w.heap.size := by omega
    have hbne2 : ¬ w.heap.size = b := by omega
    rw [show pTy (Nd.kind (.mk 12 ⟨#[]⟩ ⟨#[]⟩ 0 ao cap [x0])) = 141 from ptrTy_12]
    clear hn0 hn1 hPl hln hG hW hA hb hP0 hC0
    have q2 := no_2 141 (by decide)
    have q3 := no_3 141 (by decide)
    have q4 := no_4 141 (by decide)
    have q5 := no_5 141 (by decide)
    have q6 := no_6 141 (by decide)
    have q7 := no_7 141 (by decide)
    have q8 := no_8 141 (by decide)
    have q9 := no_9 141 (by decide)
    have q10 := no_10 141 (by decide)
    have q11 := no_11 141 (by decide)
    have q12 := yes_12
    go_enter Tryz.func36, Tryz.ntmps36
    go_wp2_with fail
    (go_at_call 54; refine (exprOrNone d hN e A x0 b0 _ HG0.out (by first | exact HR0.out.below ((Below.refl _ _).alloc (Nat.le_refl _) _) | exact HR0.out.below (Below.drew ((Below.refl _ _).alloc (Nat.le_refl _) _)))).mono ?_; rintro e c0w ⟨E0, m0, rfl, hS0, hl0, hb0⟩; have HZ0 : Below (w.alloc zN).heap.size (w.alloc zN) c0w := (by first | exact hb0 | exact (Below.drew (Below.refl _ _)).trans (hb0.mono (by simp))); have HY0 : Below w.heap.size w c0w := ((Below.refl w.heap.size w).alloc (Nat.le_refl _) zN).trans (HZ0.mono (by simp)); have hz0 : w.heap.size < c0w.heap.size := (by have := Below.size HZ0; (try simp at this); omega); obtain ⟨kb0, -⟩ := bblk hb0 (b := b) (by first | omega | (simp; omega)); obtain ⟨ka0, fa0⟩ := bblk hb0 (b := w.heap.size) (by first | omega | (simp; done) | (simp; omega)))
    go_wp2_with fail
    refine bodyPost_ret (v := .agg #[.int .i64 12, .string ⟨#[]⟩, .string ⟨#[]⟩, .int .u64 0, .slice (some ⟨c0w.heap.size, 0, none⟩) 1 1]) (by simp [results, Tryz.f36, go_sem, ka0, hz0, Nat.ne_of_lt hz0]) rfl (NodePost.stored2 _ _ _ _ _ HZ0 (back_fin [m0] rfl HWF.out HZ0 rfl ?_))
    intro i x y hx hy
    match i with
    | 0 => simp at hx hy; subst hx hy; exact ⟨E0, hS0, (hl0.mono (From.le (by first | exact Nat.le_refl _ | omega | (simp; omega) | (have := Below.size HZ0; simp; omega) | (have := Below.size HZ0; simp at this ⊢; omega))))⟩
    | _ + 1 => simp at hx

set_option maxRecDepth 100000 in
set_option maxHeartbeats 2000000 in
theorem nd_14 (d : Nat) (hN : NodeC d) (e : Nat) (A : Nat → Prop) (n : Nd) (b : Nat) (w : World) (hG : PreD (e + 1) n) (hW : WfN n) (hR : RepD A (d + 1) w n b) (hk : n.kind = 14) :
    Calls Tryz.prog 36 #[.iface (pTy n.kind) (.pointer (some ⟨b, 0, none⟩))] w (NodePost n w) := by
  obtain ⟨k, t, m, u, ao, cap, kids⟩ := n
  obtain rfl : k = 14 := hk
  have hn0 : (Nd.mk 14 t m u ao cap kids).kind ≠ 0 := by show (14 : Int) ≠ 0; decide
  have hn1 : (Nd.mk 14 t m u ao cap kids).kind ≠ 1 := by show (14 : Int) ≠ 1; decide
  have hPl := (hG.fit hn0).2.2.1
  have HWF := Lib.hid hW.wf
  obtain rfl : t = ⟨#[]⟩ := hPl.1 (show hasText 14 = false by decide)
  obtain rfl : u = 0 := hPl.2.1 (show hasNum 14 = false by decide)
  obtain rfl : m = ⟨#[]⟩ := hPl.2.2.1 (show (14 : Int) ≠ 2 by decide) (show (14 : Int) ≠ 3 by decide)
  have hln : kids.length = 1 := by
    have h1 := ((hG.fit hn0).2.2.2.1 hn1)
    have e1 : (fixedL 14).length = 1 := by decide
    have e2 : restL 14 = 28 := by decide
    simp only [Nd.kind, Nd.kids] at h1
    rw [e1, e2] at h1
    omega
  obtain ⟨x0, rfl⟩ : ∃ x0, kids = [x0] := kids1 (n := Nd.mk 14 ⟨#[]⟩ ⟨#[]⟩ 0 ao cap kids) hln
  obtain ⟨hP0, hC0⟩ := hG.kid (i := 0) (x := x0) hn0 rfl
  have hf0 : x0.kind ∈ ([10] : List Int) := class_few [10] rfl (hC0 hn1)
  have hk0 : x0.kind = 10 := by
    have h := hf0
    simp at h
    omega
  have hw0 : x0.kind ∈ walkL := by rw [hk0]; decide
  have HG0 := Lib.hid (show GoodW e x0 from ⟨hP0.good hw0, hW.kid (i := 0) rfl⟩)
  have HK0 := Lib.hid hk0
  obtain ⟨hA, cs, hb, hs⟩ := hR
  rw [slots_14 _ rfl] at hs
  match cs, hs with
  | [v0, v1, v2, v3], ⟨e0, e1, e2, e3, _⟩ =>
    obtain ⟨b0, rfl, hR0⟩ := (show PtrTo (RepD A d) w x0 v3 from e3)
    have HR0 := Lib.hid hR0
    have c3 : w.cell? ⟨b, 3, none⟩ = some (.pointer (some ⟨b0, 0, none⟩)) := by rw [Lib.cell_of_heap hb]; rfl
    have hblt : b < w.heap.size := World.block_lt_of_cell? _ _ c3
    have hbne : ¬ b = w.heap.size := by omega
    have hbne2 : ¬ w.heap.size = b := by omega
    rw [show pTy (Nd.kind (.mk 14 ⟨#[]⟩ ⟨#[]⟩ 0 ao cap [x0])) = 157 from ptrTy_14]
    clear hn0 hn1 hPl hln hG hW hA hb hP0 hC0
    have q2 := no_2 157 (by decide)
    have q3 := no_3 157 (by decide)
    have q4 := no_4 157 (by decide)
    have q5 := no_5 157 (by decide)
    have q6 := no_6 157 (by decide)
    have q7 := no_7 157 (by decide)
    have q8 := no_8 157 (by decide)
    have q9 := no_9 157 (by decide)
    have q10 := no_10 157 (by decide)
    have q11 := no_11 157 (by decide)
    have q12 := no_12 157 (by decide)
    have q13 := no_13 157 (by decide)
    have q14 := yes_14
    go_enter Tryz.func36, Tryz.ntmps36
    go_wp2_with fail
    (go_at_call 97; refine (orNone_10 d hN e A x0 b0 _ HG0.out (by first | exact HR0.out.below ((Below.refl _ _).alloc (Nat.le_refl _) _) | exact HR0.out.below (Below.drew ((Below.refl _ _).alloc (Nat.le_refl _) _))) HK0.out).mono ?_; rintro e c0w ⟨E0, m0, rfl, hS0, hl0, hb0⟩; have HZ0 : Below (w.alloc zN).heap.size (w.alloc zN) c0w := (by first | exact hb0 | exact (Below.drew (Below.refl _ _)).trans (hb0.mono (by simp))); have HY0 : Below w.heap.size w c0w := ((Below.refl w.heap.size w).alloc (Nat.le_refl _) zN).trans (HZ0.mono (by simp)); have hz0 : w.heap.size < c0w.heap.size := (by have := Below.size HZ0; (try simp at this); omega); obtain ⟨kb0, -⟩ := bblk hb0 (b := b) (by first | omega | (simp; omega)); obtain ⟨ka0, fa0⟩ := bblk hb0 (b := w.heap.size) (by first | omega | (simp; done) | (simp; omega)))
    go_wp2_with fail
    refine bodyPost_ret (v := .agg #[.int .i64 14, .string ⟨#[]⟩, .string ⟨#[]⟩, .int .u64 0, .slice (some ⟨c0w.heap.size, 0, none⟩) 1 1]) (by simp [results, Tryz.f36, go_sem, ka0, hz0, Nat.ne_of_lt hz0]) rfl (NodePost.stored2 _ _ _ _ _ HZ0 (back_fin [m0] rfl HWF.out HZ0 rfl ?_))
    intro i x y hx hy
    match i with
    | 0 => simp at hx hy; subst hx hy; exact ⟨E0, hS0, (hl0.mono (From.le (by first | exact Nat.le_refl _ | omega | (simp; omega) | (have := Below.size HZ0; simp; omega) | (have := Below.size HZ0; simp at this ⊢; omega))))⟩
    | _ + 1 => simp at hx

set_option maxRecDepth 100000 in
set_option maxHeartbeats 2000000 in
theorem nd_25 (d : Nat) (hN : NodeC d) (e : Nat) (A : Nat → Prop) (n : Nd) (b : Nat) (w : World) (hG : PreD (e + 1) n) (hW : WfN n) (hR : RepD A (d + 1) w n b) (hk : n.kind = 25) :
    Calls Tryz.prog 36 #[.iface (pTy n.kind) (.pointer (some ⟨b, 0, none⟩))] w (NodePost n w) := by
  obtain ⟨k, t, m, u, ao, cap, kids⟩ := n
  obtain rfl : k = 25 := hk
  have hn0 : (Nd.mk 25 t m u ao cap kids).kind ≠ 0 := by show (25 : Int) ≠ 0; decide
  have hn1 : (Nd.mk 25 t m u ao cap kids).kind ≠ 1 := by show (25 : Int) ≠ 1; decide
  have hPl := (hG.fit hn0).2.2.1
  have HWF := Lib.hid hW.wf
  obtain rfl : t = ⟨#[]⟩ := hPl.1 (show hasText 25 = false by decide)
  obtain rfl : u = 0 := hPl.2.1 (show hasNum 25 = false by decide)
  obtain rfl : m = ⟨#[]⟩ := hPl.2.2.1 (show (25 : Int) ≠ 2 by decide) (show (25 : Int) ≠ 3 by decide)
  have hln : kids.length = 1 := by
    have h1 := ((hG.fit hn0).2.2.2.1 hn1)
    have e1 : (fixedL 25).length = 1 := by decide
    have e2 : restL 25 = 28 := by decide
    simp only [Nd.kind, Nd.kids] at h1
    rw [e1, e2] at h1
    omega
  obtain ⟨x0, rfl⟩ : ∃ x0, kids = [x0] := kids1 (n := Nd.mk 25 ⟨#[]⟩ ⟨#[]⟩ 0 ao cap kids) hln
  obtain ⟨hP0, hC0⟩ := hG.kid (i := 0) (x := x0) hn0 rfl
  have hw0 : x0.kind ∈ walkL := expr_walk (class_0 (hC0 hn1))
  have HG0 := Lib.hid (show GoodW e x0 from ⟨hP0.good hw0, hW.kid (i := 0) rfl⟩)
  obtain ⟨hA, cs, hb, hs⟩ := hR
  rw [slots_25 _ rfl] at hs
  match cs, hs with
  | [v0, v1, v2, v3, v4, v5], ⟨e0, e1, e2, e3, e4, e5, _⟩ =>
    obtain ⟨b0, rfl, hR0⟩ := (show IfcTo (RepD A d) w x0 v4 from e4)
    have HR0 := Lib.hid hR0
    have c4 : w.cell? ⟨b, 4, none⟩ = some (.iface (pTy x0.kind) (.pointer (some ⟨b0, 0, none⟩))) := by rw [Lib.cell_of_heap hb]; rfl
    have hblt : b < w.heap.size := World.block_lt_of_cell? _ _ c4
    have hbne : ¬ b = w.heap.size := by omega
    have hbne2 : ¬ w.heap.size = b := by omega
    rw [show pTy (Nd.kind (.mk 25 ⟨#[]⟩ ⟨#[]⟩ 0 ao cap [x0])) = 204 from ptrTy_25]
    clear hn0 hn1 hPl hln hG hW hA hb hP0 hC0
    have q2 := no_2 204 (by decide)
    have q3 := no_3 204 (by decide)
    have q4 := no_4 204 (by decide)
    have q5 := no_5 204 (by decide)
    have q6 := no_6 204 (by decide)
    have q7 := no_7 204 (by decide)
    have q8 := no_8 204 (by decide)
    have q9 := no_9 204 (by decide)
    have q10 := no_10 204 (by decide)
    have q11 := no_11 204 (by decide)
    have q12 := no_12 204 (by decide)
    have q13 := no_13 204 (by decide)
    have q14 := no_14 204 (by decide)
    have q15 := no_15 204 (by decide)
    have q16 := no_16 204 (by decide)
    have q17 := no_17 204 (by decide)
    have q18 := no_18 204 (by decide)
    have q19 := no_19 204 (by decide)
    have q20 := no_20 204 (by decide)
    have q21 := no_21 204 (by decide)
    have q22 := no_22 204 (by decide)
    have q23 := no_23 204 (by decide)
    have q24 := no_24 204 (by decide)
    have q25 := yes_25
    go_enter Tryz.func36, Tryz.ntmps36
    go_wp2_with fail
    (go_at_call 54; refine (exprOrNone d hN e A x0 b0 _ HG0.out (by first | exact HR0.out.below ((Below.refl _ _).alloc (Nat.le_refl _) _) | exact HR0.out.below (Below.drew ((Below.refl _ _).alloc (Nat.le_refl _) _)))).mono ?_; rintro e c0w ⟨E0, m0, rfl, hS0, hl0, hb0⟩; have HZ0 : Below (w.alloc zN).heap.size (w.alloc zN) c0w := (by first | exact hb0 | exact (Below.drew (Below.refl _ _)).trans (hb0.mono (by simp))); have HY0 : Below w.heap.size w c0w := ((Below.refl w.heap.size w).alloc (Nat.le_refl _) zN).trans (HZ0.mono (by simp)); have hz0 : w.heap.size < c0w.heap.size := (by have := Below.size HZ0; (try simp at this); omega); obtain ⟨kb0, -⟩ := bblk hb0 (b := b) (by first | omega | (simp; omega)); obtain ⟨ka0, fa0⟩ := bblk hb0 (b := w.heap.size) (by first | omega | (simp; done) | (simp; omega)))
    go_wp2_with fail
    refine bodyPost_ret (v := .agg #[.int .i64 25, .string ⟨#[]⟩, .string ⟨#[]⟩, .int .u64 0, .slice (some ⟨c0w.heap.size, 0, none⟩) 1 1]) (by simp [results, Tryz.f36, go_sem, ka0, hz0, Nat.ne_of_lt hz0]) rfl (NodePost.stored2 _ _ _ _ _ HZ0 (back_fin [m0] rfl HWF.out HZ0 rfl ?_))
    intro i x y hx hy
    match i with
    | 0 => simp at hx hy; subst hx hy; exact ⟨E0, hS0, (hl0.mono (From.le (by first | exact Nat.le_refl _ | omega | (simp; omega) | (have := Below.size HZ0; simp; omega) | (have := Below.size HZ0; simp at this ⊢; omega))))⟩
    | _ + 1 => simp at hx

set_option maxRecDepth 100000 in
set_option maxHeartbeats 2000000 in
theorem nd_32 (d : Nat) (hN : NodeC d) (e : Nat) (A : Nat → Prop) (n : Nd) (b : Nat) (w : World) (hG : PreD (e + 1) n) (hW : WfN n) (hR : RepD A (d + 1) w n b) (hk : n.kind = 32) :
    Calls Tryz.prog 36 #[.iface (pTy n.kind) (.pointer (some ⟨b, 0, none⟩))] w (NodePost n w) := by
  obtain ⟨k, t, m, u, ao, cap, kids⟩ := n
  obtain rfl : k = 32 := hk
  have hn0 : (Nd.mk 32 t m u ao cap kids).kind ≠ 0 := by show (32 : Int) ≠ 0; decide
  have hn1 : (Nd.mk 32 t m u ao cap kids).kind ≠ 1 := by show (32 : Int) ≠ 1; decide
  have hPl := (hG.fit hn0).2.2.1
  have HWF := Lib.hid hW.wf
  obtain rfl : t = ⟨#[]⟩ := hPl.1 (show hasText 32 = false by decide)
  obtain rfl : u = 0 := hPl.2.1 (show hasNum 32 = false by decide)
  obtain rfl : m = ⟨#[]⟩ := hPl.2.2.1 (show (32 : Int) ≠ 2 by decide) (show (32 : Int) ≠ 3 by decide)
  have hln : kids.length = 1 := by
    have h1 := ((hG.fit hn0).2.2.2.1 hn1)
    have e1 : (fixedL 32).length = 1 := by decide
    have e2 : restL 32 = 28 := by decide
    simp only [Nd.kind, Nd.kids] at h1
    rw [e1, e2] at h1
    omega
  obtain ⟨x0, rfl⟩ : ∃ x0, kids = [x0] := kids1 (n := Nd.mk 32 ⟨#[]⟩ ⟨#[]⟩ 0 ao cap kids) hln
  obtain ⟨hP0, hC0⟩ := hG.kid (i := 0) (x := x0) hn0 rfl
  have hw0 : x0.kind ∈ walkL := expr_walk (class_0 (hC0 hn1))
  have HG0 := Lib.hid (show GoodW e x0 from ⟨hP0.good hw0, hW.kid (i := 0) rfl⟩)
  obtain ⟨hA, cs, hb, hs⟩ := hR
  rw [slots_32 _ rfl] at hs
  match cs, hs with
  | [v0, v1, v2, v3], ⟨e0, e1, e2, e3, _⟩ =>
    obtain ⟨b0, rfl, hR0⟩ := (show IfcTo (RepD A d) w x0 v3 from e3)
    have HR0 := Lib.hid hR0
    have c3 : w.cell? ⟨b, 3, none⟩ = some (.iface (pTy x0.kind) (.pointer (some ⟨b0, 0, none⟩))) := by rw [Lib.cell_of_heap hb]; rfl
    have hblt : b < w.heap.size := World.block_lt_of_cell? _ _ c3
    have hbne : ¬ b = w.heap.size := by omega
    have hbne2 : ¬ w.heap.size = b := by omega
    rw [show pTy (Nd.kind (.mk 32 ⟨#[]⟩ ⟨#[]⟩ 0 ao cap [x0])) = 230 from ptrTy_32]
    clear hn0 hn1 hPl hln hG hW hA hb hP0 hC0
    have q2 := no_2 230 (by decide)
    have q3 := no_3 230 (by decide)
    have q4 := no_4 230 (by decide)
    have q5 := no_5 230 (by decide)
    have q6 := no_6 230 (by decide)
    have q7 := no_7 230 (by decide)
    have q8 := no_8 230 (by decide)
    have q9 := no_9 230 (by decide)
    have q10 := no_10 230 (by decide)
    have q11 := no_11 230 (by decide)
    have q12 := no_12 230 (by decide)
    have q13 := no_13 230 (by decide)
    have q14 := no_14 230 (by decide)
    have q15 := no_15 230 (by decide)
    have q16 := no_16 230 (by decide)
    have q17 := no_17 230 (by decide)
    have q18 := no_18 230 (by decide)
    have q19 := no_19 230 (by decide)
    have q20 := no_20 230 (by decide)
    have q21 := no_21 230 (by decide)
    have q22 := no_22 230 (by decide)
    have q23 := no_23 230 (by decide)
    have q24 := no_24 230 (by decide)
    have q25 := no_25 230 (by decide)
    have q26 := no_26 230 (by decide)
    have q27 := no_27 230 (by decide)
    have q28 := no_28 230 (by decide)
    have q29 := no_29 230 (by decide)
    have q30 := no_30 230 (by decide)
    have q31 := no_31 230 (by decide)
    have q32 := yes_32
    go_enter Tryz.func36, Tryz.ntmps36
    go_wp2_with fail
    (go_at_call 54; refine (exprOrNone d hN e A x0 b0 _ HG0.out (by first | exact HR0.out.below ((Below.refl _ _).alloc (Nat.le_refl _) _) | exact HR0.out.below (Below.drew ((Below.refl _ _).alloc (Nat.le_refl _) _)))).mono ?_; rintro e c0w ⟨E0, m0, rfl, hS0, hl0, hb0⟩; have HZ0 : Below (w.alloc zN).heap.size (w.alloc zN) c0w := (by first | exact hb0 | exact (Below.drew (Below.refl _ _)).trans (hb0.mono (by simp))); have HY0 : Below w.heap.size w c0w := ((Below.refl w.heap.size w).alloc (Nat.le_refl _) zN).trans (HZ0.mono (by simp)); have hz0 : w.heap.size < c0w.heap.size := (by have := Below.size HZ0; (try simp at this); omega); obtain ⟨kb0, -⟩ := bblk hb0 (b := b) (by first | omega | (simp; omega)); obtain ⟨ka0, fa0⟩ := bblk hb0 (b := w.heap.size) (by first | omega | (simp; done) | (simp; omega)))
    go_wp2_with fail
    refine bodyPost_ret (v := .agg #[.int .i64 32, .string ⟨#[]⟩, .string ⟨#[]⟩, .int .u64 0, .slice (some ⟨c0w.heap.size, 0, none⟩) 1 1]) (by simp [results, Tryz.f36, go_sem, ka0, hz0, Nat.ne_of_lt hz0]) rfl (NodePost.stored2 _ _ _ _ _ HZ0 (back_fin [m0] rfl HWF.out HZ0 rfl ?_))
    intro i x y hx hy
    match i with
    | 0 => simp at hx hy; subst hx hy; exact ⟨E0, hS0, (hl0.mono (From.le (by first | exact Nat.le_refl _ | omega | (simp; omega) | (have := Below.size HZ0; simp; omega) | (have := Below.size HZ0; simp at this ⊢; omega))))⟩
    | _ + 1 => simp at hx
end Go.Proofs.YtongafghllkomaaGreatDoor
