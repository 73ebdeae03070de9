/-
  node kind by kind, part G: it hands back the tree that lies there, given its own contract a level down. No conditions.
-/
import Derived.Test.YtongafghllkomaaGreatDoorOrNone
import Derived.Test.YtongafghllkomaaGreatDoorTests
import Derived.Test.YtongafghllkomaaGreatDoorOps2
import Derived.Deep.RegionHeld3
import Derived.Deep.RegionWith
namespace Go.Proofs.YtongafghllkomaaGreatDoor
open Go.RowKit
set_option linter.unusedVariables false
set_option linter.unusedSimpArgs false


theorem opTok (m : Nat) (hm : m < 20) (w : World) : Calls Tryz.prog 130 #[.int .i64 ((m : Int) + 1)] w fun e w' => e = .returned (.string (op m)) ∧ w = w' := by
  match m, hm with
  | 0, _ =>
    show Calls _ _ #[.int .i64 1] w fun e w' => e = .returned (.string ⟨#[42]⟩) ∧ w = w'
    go_enter Tryz.func130, Tryz.ntmps130
    go_wp2_with fail
    go_ret
    exact ⟨rfl, rfl⟩
  | 1, _ =>
    show Calls _ _ #[.int .i64 2] w fun e w' => e = .returned (.string ⟨#[47]⟩) ∧ w = w'
    go_enter Tryz.func130, Tryz.ntmps130
    go_wp2_with fail
    go_ret
    exact ⟨rfl, rfl⟩
  | 2, _ =>
    show Calls _ _ #[.int .i64 3] w fun e w' => e = .returned (.string ⟨#[37]⟩) ∧ w = w'
    go_enter Tryz.func130, Tryz.ntmps130
    go_wp2_with fail
    go_ret
    exact ⟨rfl, rfl⟩
  | 3, _ =>
    show Calls _ _ #[.int .i64 4] w fun e w' => e = .returned (.string ⟨#[94]⟩) ∧ w = w'
    go_enter Tryz.func130, Tryz.ntmps130
    go_wp2_with fail
    go_ret
    exact ⟨rfl, rfl⟩
  | 4, _ =>
    show Calls _ _ #[.int .i64 5] w fun e w' => e = .returned (.string ⟨#[43]⟩) ∧ w = w'
    go_enter Tryz.func130, Tryz.ntmps130
    go_wp2_with fail
    go_ret
    exact ⟨rfl, rfl⟩
  | 5, _ =>
    show Calls _ _ #[.int .i64 6] w fun e w' => e = .returned (.string ⟨#[45]⟩) ∧ w = w'
    go_enter Tryz.func130, Tryz.ntmps130
    go_wp2_with fail
    go_ret
    exact ⟨rfl, rfl⟩
  | 6, _ =>
    show Calls _ _ #[.int .i64 7] w fun e w' => e = .returned (.string ⟨#[60, 61]⟩) ∧ w = w'
    go_enter Tryz.func130, Tryz.ntmps130
    go_wp2_with fail
    go_ret
    exact ⟨rfl, rfl⟩
  | 7, _ =>
    show Calls _ _ #[.int .i64 8] w fun e w' => e = .returned (.string ⟨#[60]⟩) ∧ w = w'
    go_enter Tryz.func130, Tryz.ntmps130
    go_wp2_with fail
    go_ret
    exact ⟨rfl, rfl⟩
  | 8, _ =>
    show Calls _ _ #[.int .i64 9] w fun e w' => e = .returned (.string ⟨#[62, 61]⟩) ∧ w = w'
    go_enter Tryz.func130, Tryz.ntmps130
    go_wp2_with fail
    go_ret
    exact ⟨rfl, rfl⟩
  | 9, _ =>
    show Calls _ _ #[.int .i64 10] w fun e w' => e = .returned (.string ⟨#[62]⟩) ∧ w = w'
    go_enter Tryz.func130, Tryz.ntmps130
    go_wp2_with fail
    go_ret
    exact ⟨rfl, rfl⟩
  | 10, _ =>
    show Calls _ _ #[.int .i64 11] w fun e w' => e = .returned (.string ⟨#[115, 116, 97, 114, 116, 115, 119, 105, 116, 104]⟩) ∧ w = w'
    go_enter Tryz.func130, Tryz.ntmps130
    go_wp2_with fail
    go_ret
    exact ⟨rfl, rfl⟩
  | 11, _ =>
    show Calls _ _ #[.int .i64 12] w fun e w' => e = .returned (.string ⟨#[105, 110]⟩) ∧ w = w'
    go_enter Tryz.func130, Tryz.ntmps130
    go_wp2_with fail
    go_ret
    exact ⟨rfl, rfl⟩
  | 12, _ =>
    show Calls _ _ #[.int .i64 13] w fun e w' => e = .returned (.string ⟨#[110, 111, 116]⟩) ∧ w = w'
    go_enter Tryz.func130, Tryz.ntmps130
    go_wp2_with fail
    go_ret
    exact ⟨rfl, rfl⟩
  | 13, _ =>
    show Calls _ _ #[.int .i64 14] w fun e w' => e = .returned (.string ⟨#[101, 120, 105, 115, 116, 115]⟩) ∧ w = w'
    go_enter Tryz.func130, Tryz.ntmps130
    go_wp2_with fail
    go_ret
    exact ⟨rfl, rfl⟩
  | 14, _ =>
    show Calls _ _ #[.int .i64 15] w fun e w' => e = .returned (.string ⟨#[110, 111, 116, 32, 101, 109, 112, 116, 121]⟩) ∧ w = w'
    go_enter Tryz.func130, Tryz.ntmps130
    go_wp2_with fail
    go_ret
    exact ⟨rfl, rfl⟩
  | 15, _ =>
    show Calls _ _ #[.int .i64 16] w fun e w' => e = .returned (.string ⟨#[101, 109, 112, 116, 121]⟩) ∧ w = w'
    go_enter Tryz.func130, Tryz.ntmps130
    go_wp2_with fail
    go_ret
    exact ⟨rfl, rfl⟩
  | 16, _ =>
    show Calls _ _ #[.int .i64 17] w fun e w' => e = .returned (.string ⟨#[61, 61]⟩) ∧ w = w'
    go_enter Tryz.func130, Tryz.ntmps130
    go_wp2_with fail
    go_ret
    exact ⟨rfl, rfl⟩
  | 17, _ =>
    show Calls _ _ #[.int .i64 18] w fun e w' => e = .returned (.string ⟨#[33, 61]⟩) ∧ w = w'
    go_enter Tryz.func130, Tryz.ntmps130
    go_wp2_with fail
    go_ret
    exact ⟨rfl, rfl⟩
  | 18, _ =>
    show Calls _ _ #[.int .i64 19] w fun e w' => e = .returned (.string ⟨#[61, 126]⟩) ∧ w = w'
    go_enter Tryz.func130, Tryz.ntmps130
    go_wp2_with fail
    go_ret
    exact ⟨rfl, rfl⟩
  | 19, _ =>
    show Calls _ _ #[.int .i64 20] w fun e w' => e = .returned (.string ⟨#[33, 126]⟩) ∧ w = w'
    go_enter Tryz.func130, Tryz.ntmps130
    go_wp2_with fail
    go_ret
    exact ⟨rfl, rfl⟩
  | m + 20, h => exact absurd h (by omega)

theorem opStr (m : Nat) (hm : m < 20) (w : World) : Calls Tryz.prog 102 #[.int .i64 ((m : Int) + 1)] w fun e w' => e = .returned (.string (op m)) ∧ w = w' := by
  have H := Lib.hid (fun w => opTok m hm w)
  generalize op m = s at H ⊢
  have h1 : 0 ≤ (m : Int) := by omega
  have h2 : (m : Int) < 20 := by omega
  go_enter Tryz.func102, Tryz.ntmps102
  go_wp2_with fail
  refine (H.out _).mono ?_
  rintro e w1 ⟨rfl, rfl⟩
  go_wp2_with fail
  go_ret
  exact ⟨rfl, rfl⟩

theorem lgTok_1 (w : World) : Calls Tryz.prog 131 #[.int .i64 1] w fun e w' => e = .returned (.string ⟨#[97, 110, 100]⟩) ∧ w = w' := by
  go_enter Tryz.func131, Tryz.ntmps131
  go_wp2_with fail
  go_ret
  exact ⟨rfl, rfl⟩
theorem lgStr_1 (w : World) : Calls Tryz.prog 103 #[.int .i64 1] w fun e w' => e = .returned (.string ⟨#[97, 110, 100]⟩) ∧ w = w' := by
  go_enter Tryz.func103, Tryz.ntmps103
  go_wp2_with fail
  refine (lgTok_1 _).mono ?_
  rintro e w1 ⟨rfl, rfl⟩
  go_wp2_with fail
  go_ret
  exact ⟨rfl, rfl⟩

theorem lgTok_2 (w : World) : Calls Tryz.prog 131 #[.int .i64 2] w fun e w' => e = .returned (.string ⟨#[111, 114]⟩) ∧ w = w' := by
  go_enter Tryz.func131, Tryz.ntmps131
  go_wp2_with fail
  go_ret
  exact ⟨rfl, rfl⟩
theorem lgStr_2 (w : World) : Calls Tryz.prog 103 #[.int .i64 2] w fun e w' => e = .returned (.string ⟨#[111, 114]⟩) ∧ w = w' := by
  go_enter Tryz.func103, Tryz.ntmps103
  go_wp2_with fail
  refine (lgTok_2 _).mono ?_
  rintro e w1 ⟨rfl, rfl⟩
  go_wp2_with fail
  go_ret
  exact ⟨rfl, rfl⟩
set_option maxRecDepth 100000 in
set_option maxHeartbeats 2000000 in
theorem nd_21 (d : Nat) (hN : NodeC d) (e : Nat) (A : Nat → Prop) (n : Nd) (b : Nat) (w : World) (hG : PreD (e + 1) n) (hW : WfN n) (hR : RepD A (d + 1) w n b) (hk : n.kind = 21) :
    Calls Tryz.prog 36 #[.iface (pTy n.kind) (.pointer (some ⟨b, 0, none⟩))] w (NodePost n w) := by
  obtain ⟨k, t, m, u, ao, cap, kids⟩ := n
  obtain rfl : k = 21 := hk
  have hn0 : (Nd.mk 21 t m u ao cap kids).kind ≠ 0 := by show (21 : Int) ≠ 0; decide
  have hn1 : (Nd.mk 21 t m u ao cap kids).kind ≠ 1 := by show (21 : Int) ≠ 1; decide
  have hPl := (hG.fit hn0).2.2.1
  obtain ⟨mm, hmm, -, -, ht⟩ := hPl.2.2.2.2.2.1 rfl
  obtain rfl : t = op mm := ht
  have HMM := Lib.hid hmm
  have HWF := Lib.hid hW.wf
  obtain rfl : u = 0 := hPl.2.1 (show hasNum 21 = false by decide)
  obtain rfl : m = ⟨#[]⟩ := hPl.2.2.1 (show (21 : Int) ≠ 2 by decide) (show (21 : Int) ≠ 3 by decide)
  have hln : kids.length = 2 := by
    have h1 := ((hG.fit hn0).2.2.2.1 hn1)
    have e1 : (fixedL 21).length = 2 := by decide
    have e2 : restL 21 = 28 := by decide
    simp only [Nd.kind, Nd.kids] at h1
    rw [e1, e2] at h1
    omega
  obtain ⟨x0, x1, rfl⟩ : ∃ x0 x1, kids = [x0, x1] := kids2 (n := Nd.mk 21 (op mm) ⟨#[]⟩ 0 ao cap kids) hln
  obtain ⟨hP0, hC0⟩ := hG.kid (i := 0) (x := x0) hn0 rfl
  have hw0 : x0.kind ∈ walkL := expr_walk (class_0 (hC0 hn1))
  have HG0 := Lib.hid (show GoodW e x0 from ⟨hP0.good hw0, hW.kid (i := 0) rfl⟩)
  obtain ⟨hP1, hC1⟩ := hG.kid (i := 1) (x := x1) hn0 rfl
  have hw1 : x1.kind ∈ walkL := expr_walk (class_0 (hC1 hn1))
  have HG1 := Lib.hid (show GoodW e x1 from ⟨hP1.good hw1, hW.kid (i := 1) rfl⟩)
  obtain ⟨hA, cs, hb, hs⟩ := hR
  rw [slots_21 _ rfl] at hs
  match cs, hs with
  | [v0, v1, v2, v3, v4, v5], ⟨e0, e1, e2, e3, e4, e5, _⟩ =>
    obtain ⟨b0, rfl, hR0⟩ := (show IfcTo (RepD A d) w x0 v4 from e4)
    have HR0 := Lib.hid hR0
    have c4 : w.cell? ⟨b, 4, none⟩ = some (.iface (pTy x0.kind) (.pointer (some ⟨b0, 0, none⟩))) := by rw [Lib.cell_of_heap hb]; rfl
    obtain ⟨b1, rfl, hR1⟩ := (show IfcTo (RepD A d) w x1 v5 from e5)
    have HR1 := Lib.hid hR1
    have c5 : w.cell? ⟨b, 5, none⟩ = some (.iface (pTy x1.kind) (.pointer (some ⟨b1, 0, none⟩))) := by rw [Lib.cell_of_heap hb]; rfl
    have c3 : w.cell? ⟨b, 3, none⟩ = some (.int .i64 ((mm : Int) + 1)) := by rw [Lib.cell_of_heap hb]; exact congrArg some (e3.trans (congrArg (Value.int .i64) (opNum_op HMM.out)))
    have hblt : b < w.heap.size := World.block_lt_of_cell? _ _ c4
    have hbne : ¬ b = w.heap.size := by omega
    have hbne2 : ¬ w.heap.size = b := by omega
    rw [show pTy (Nd.kind (.mk 21 (op mm) ⟨#[]⟩ 0 ao cap [x0, x1])) = 188 from ptrTy_21]
    clear hn0 hn1 hPl hln hG hW hA hb hP0 hC0 hP1 hC1
    have q2 := no_2 188 (by decide)
    have q3 := no_3 188 (by decide)
    have q4 := no_4 188 (by decide)
    have q5 := no_5 188 (by decide)
    have q6 := no_6 188 (by decide)
    have q7 := no_7 188 (by decide)
    have q8 := no_8 188 (by decide)
    have q9 := no_9 188 (by decide)
    have q10 := no_10 188 (by decide)
    have q11 := no_11 188 (by decide)
    have q12 := no_12 188 (by decide)
    have q13 := no_13 188 (by decide)
    have q14 := no_14 188 (by decide)
    have q15 := no_15 188 (by decide)
    have q16 := no_16 188 (by decide)
    have q17 := no_17 188 (by decide)
    have q18 := no_18 188 (by decide)
    have q19 := no_19 188 (by decide)
    have q20 := no_20 188 (by decide)
    have q21 := yes_21
    go_enter Tryz.func36, Tryz.ntmps36
    go_wp2_with fail
    go_region_held3 (fun w' => (w'.cell? ⟨b, 3, none⟩ = some (.int .i64 ((mm : Int) + 1)) ∧ w'.cell? ⟨b, 4, none⟩ = some (.iface (pTy x0.kind) (.pointer (some ⟨b0, 0, none⟩))) ∧ w'.cell? ⟨b, 5, none⟩ = some (.iface (pTy x1.kind) (.pointer (some ⟨b1, 0, none⟩))))) (go_keep) (first | (go_at_call 102; refine (opStr mm HMM.out _).mono ?_; rintro e wo ⟨rfl, rfl⟩) | (go_at_call_of 54 b0; refine (exprOrNone d hN e A x0 b0 _ HG0.out (by first | exact HR0.out.below ((Below.refl _ _).alloc (Nat.le_refl _) _) | exact HR0.out.below (Below.drew ((Below.refl _ _).alloc (Nat.le_refl _) _)))).mono ?_; rintro e c0w ⟨E0, m0, rfl, hS0, hl0, hb0⟩; have HZ0 : Below (w.alloc zN).heap.size (w.alloc zN) c0w := (by first | exact hb0 | exact (Below.drew (Below.refl _ _)).trans (hb0.mono (by simp))); have HY0 : Below w.heap.size w c0w := ((Below.refl w.heap.size w).alloc (Nat.le_refl _) zN).trans (HZ0.mono (by simp)); have hz0 : w.heap.size < c0w.heap.size := (by have := Below.size HZ0; (try simp at this); omega); obtain ⟨kb0, -⟩ := bblk hb0 (b := b) (by first | omega | (simp; omega)); obtain ⟨ka0, fa0⟩ := bblk hb0 (b := w.heap.size) (by first | omega | (simp; done) | (simp; omega))) | (go_at_call_of 54 b1; refine (exprOrNone d hN e A x1 b1 _ HG1.out (by first | exact HR1.out.below HY0 | exact HR1.out.below (Below.drew HY0))).mono ?_; rintro e c1w ⟨E1, m1, rfl, hS1, hl1, hb1⟩; have HZ1 : Below (w.alloc zN).heap.size (w.alloc zN) c1w := (by first | exact Below.trans HZ0 (hb1.mono (Below.size HZ0)) | exact Below.trans (Below.drew HZ0) (hb1.mono (by have := Below.size HZ0; simpa using this))); have HY1 : Below w.heap.size w c1w := ((Below.refl w.heap.size w).alloc (Nat.le_refl _) zN).trans (HZ1.mono (by simp)); have hz1 : w.heap.size < c1w.heap.size := (by have := Below.size HZ1; (try simp at this); omega); obtain ⟨kb1, -⟩ := bblk hb1 (b := b) (by first | omega | (simp; omega)); obtain ⟨ka1, fa1⟩ := bblk hb1 (b := w.heap.size) (by first | omega | (simp; done) | (simp; omega))))
    go_wp2_with fail
    refine bodyPost_ret (v := .agg #[.int .i64 21, .string (op mm), .string ⟨#[]⟩, .int .u64 0, .slice (some ⟨c1w.heap.size, 0, none⟩) 2 2]) (by simp [results, Tryz.f36, go_sem, ka0, hz0, Nat.ne_of_lt hz0, ka1, hz1, Nat.ne_of_lt hz1]) rfl (NodePost.stored2 _ _ _ _ _ HZ1 (back_fin [m0, m1] rfl HWF.out HZ1 rfl ?_))
    intro i x y hx hy
    match i with
    | 0 => simp at hx hy; subst hx hy; exact ⟨E0, hS0, ((hl0.mono (From.le (by first | exact Nat.le_refl _ | omega | (simp; omega) | (have := Below.size HZ0; simp; omega) | (have := Below.size HZ0; simp at this ⊢; omega)))).below (by first | exact hb1 | (have h := hb1; simpa using h)))⟩
    | 1 => simp at hx hy; subst hx hy; exact ⟨E1, hS1, (hl1.mono (From.le (by first | exact Nat.le_refl _ | omega | (simp; omega) | (have := Below.size HZ1; simp; omega) | (have := Below.size HZ0; simp at this ⊢; omega))))⟩
    | _ + 2 => simp at hx
set_option maxRecDepth 100000 in
set_option maxHeartbeats 2000000 in
theorem nd_22 (d : Nat) (hN : NodeC d) (e : Nat) (A : Nat → Prop) (n : Nd) (b : Nat) (w : World) (hG : PreD (e + 1) n) (hW : WfN n) (hR : RepD A (d + 1) w n b) (hk : n.kind = 22) :
    Calls Tryz.prog 36 #[.iface (pTy n.kind) (.pointer (some ⟨b, 0, none⟩))] w (NodePost n w) := by
  obtain ⟨k, t, m, u, ao, cap, kids⟩ := n
  obtain rfl : k = 22 := hk
  have hn0 : (Nd.mk 22 t m u ao cap kids).kind ≠ 0 := by show (22 : Int) ≠ 0; decide
  have hn1 : (Nd.mk 22 t m u ao cap kids).kind ≠ 1 := by show (22 : Int) ≠ 1; decide
  have hPl := (hG.fit hn0).2.2.1
  obtain ⟨mm, hmm, ht⟩ := unary_op (hPl.2.2.2.2.2.2.1 rfl)
  obtain rfl : t = op mm := ht
  have HMM := Lib.hid hmm
  have HWF := Lib.hid hW.wf
  obtain rfl : u = 0 := hPl.2.1 (show hasNum 22 = false by decide)
  obtain rfl : m = ⟨#[]⟩ := hPl.2.2.1 (show (22 : Int) ≠ 2 by decide) (show (22 : Int) ≠ 3 by decide)
  have hln : kids.length = 1 := by
    have h1 := ((hG.fit hn0).2.2.2.1 hn1)
    have e1 : (fixedL 22).length = 1 := by decide
    have e2 : restL 22 = 28 := by decide
    simp only [Nd.kind, Nd.kids] at h1
    rw [e1, e2] at h1
    omega
  obtain ⟨x0, rfl⟩ : ∃ x0, kids = [x0] := kids1 (n := Nd.mk 22 (op mm) ⟨#[]⟩ 0 ao cap kids) hln
  obtain ⟨hP0, hC0⟩ := hG.kid (i := 0) (x := x0) hn0 rfl
  have hw0 : x0.kind ∈ walkL := expr_walk (class_0 (hC0 hn1))
  have HG0 := Lib.hid (show GoodW e x0 from ⟨hP0.good hw0, hW.kid (i := 0) rfl⟩)
  obtain ⟨hA, cs, hb, hs⟩ := hR
  rw [slots_22 _ rfl] at hs
  match cs, hs with
  | [v0, v1, v2, v3, v4], ⟨e0, e1, e2, e3, e4, _⟩ =>
    obtain ⟨b0, rfl, hR0⟩ := (show IfcTo (RepD A d) w x0 v4 from e4)
    have HR0 := Lib.hid hR0
    have c4 : w.cell? ⟨b, 4, none⟩ = some (.iface (pTy x0.kind) (.pointer (some ⟨b0, 0, none⟩))) := by rw [Lib.cell_of_heap hb]; rfl
    have c3 : w.cell? ⟨b, 3, none⟩ = some (.int .i64 ((mm : Int) + 1)) := by rw [Lib.cell_of_heap hb]; exact congrArg some (e3.trans (congrArg (Value.int .i64) (opNum_op HMM.out)))
    have hblt : b < w.heap.size := World.block_lt_of_cell? _ _ c4
    have hbne : ¬ b = w.heap.size := by omega
    have hbne2 : ¬ w.heap.size = b := by omega
    rw [show pTy (Nd.kind (.mk 22 (op mm) ⟨#[]⟩ 0 ao cap [x0])) = 193 from ptrTy_22]
    clear hn0 hn1 hPl hln hG hW hA hb hP0 hC0
    have q2 := no_2 193 (by decide)
    have q3 := no_3 193 (by decide)
    have q4 := no_4 193 (by decide)
    have q5 := no_5 193 (by decide)
    have q6 := no_6 193 (by decide)
    have q7 := no_7 193 (by decide)
    have q8 := no_8 193 (by decide)
    have q9 := no_9 193 (by decide)
    have q10 := no_10 193 (by decide)
    have q11 := no_11 193 (by decide)
    have q12 := no_12 193 (by decide)
    have q13 := no_13 193 (by decide)
    have q14 := no_14 193 (by decide)
    have q15 := no_15 193 (by decide)
    have q16 := no_16 193 (by decide)
    have q17 := no_17 193 (by decide)
    have q18 := no_18 193 (by decide)
    have q19 := no_19 193 (by decide)
    have q20 := no_20 193 (by decide)
    have q21 := no_21 193 (by decide)
    have q22 := yes_22
    go_enter Tryz.func36, Tryz.ntmps36
    go_wp2_with fail
    go_region_held3 (fun w' => (w'.cell? ⟨b, 3, none⟩ = some (.int .i64 ((mm : Int) + 1)) ∧ w'.cell? ⟨b, 4, none⟩ = some (.iface (pTy x0.kind) (.pointer (some ⟨b0, 0, none⟩))))) (go_keep) (first | (go_at_call 102; refine (opStr mm HMM.out _).mono ?_; rintro e wo ⟨rfl, rfl⟩) | (go_at_call 54; refine (exprOrNone d hN e A x0 b0 _ HG0.out (by first | exact HR0.out.below ((Below.refl _ _).alloc (Nat.le_refl _) _) | exact HR0.out.below (Below.drew ((Below.refl _ _).alloc (Nat.le_refl _) _)))).mono ?_; rintro e c0w ⟨E0, m0, rfl, hS0, hl0, hb0⟩; have HZ0 : Below (w.alloc zN).heap.size (w.alloc zN) c0w := (by first | exact hb0 | exact (Below.drew (Below.refl _ _)).trans (hb0.mono (by simp))); have HY0 : Below w.heap.size w c0w := ((Below.refl w.heap.size w).alloc (Nat.le_refl _) zN).trans (HZ0.mono (by simp)); have hz0 : w.heap.size < c0w.heap.size := (by have := Below.size HZ0; (try simp at this); omega); obtain ⟨kb0, -⟩ := bblk hb0 (b := b) (by first | omega | (simp; omega)); obtain ⟨ka0, fa0⟩ := bblk hb0 (b := w.heap.size) (by first | omega | (simp; done) | (simp; omega))))
    go_wp2_with fail
    refine bodyPost_ret (v := .agg #[.int .i64 22, .string (op mm), .string ⟨#[]⟩, .int .u64 0, .slice (some ⟨c0w.heap.size, 0, none⟩) 1 1]) (by simp [results, Tryz.f36, go_sem, ka0, hz0, Nat.ne_of_lt hz0]) rfl (NodePost.stored2 _ _ _ _ _ HZ0 (back_fin [m0] rfl HWF.out HZ0 rfl ?_))
    intro i x y hx hy
    match i with
    | 0 => simp at hx hy; subst hx hy; exact ⟨E0, hS0, (hl0.mono (From.le (by first | exact Nat.le_refl _ | omega | (simp; omega) | (have := Below.size HZ0; simp; omega) | (have := Below.size HZ0; simp at this ⊢; omega))))⟩
    | _ + 1 => simp at hx
set_option maxRecDepth 100000 in
set_option maxHeartbeats 2000000 in
theorem nd_23_and (d : Nat) (hN : NodeC d) (e : Nat) (A : Nat → Prop) (n : Nd) (b : Nat) (w : World) (hG : PreD (e + 1) n) (hW : WfN n) (hR : RepD A (d + 1) w n b) (hk : n.kind = 23) (ht : n.text = ⟨#[97, 110, 100]⟩) :
    Calls Tryz.prog 36 #[.iface (pTy n.kind) (.pointer (some ⟨b, 0, none⟩))] w (NodePost n w) := by
  obtain ⟨k, t, m, u, ao, cap, kids⟩ := n
  obtain rfl : k = 23 := hk
  have hn0 : (Nd.mk 23 t m u ao cap kids).kind ≠ 0 := by show (23 : Int) ≠ 0; decide
  have hn1 : (Nd.mk 23 t m u ao cap kids).kind ≠ 1 := by show (23 : Int) ≠ 1; decide
  have hPl := (hG.fit hn0).2.2.1
  obtain rfl : t = ⟨#[97, 110, 100]⟩ := ht
  have HWF := Lib.hid hW.wf
  obtain rfl : u = 0 := hPl.2.1 (show hasNum 23 = false by decide)
  obtain rfl : m = ⟨#[]⟩ := hPl.2.2.1 (show (23 : Int) ≠ 2 by decide) (show (23 : Int) ≠ 3 by decide)
  have hln : kids.length = 2 := by
    have h1 := ((hG.fit hn0).2.2.2.1 hn1)
    have e1 : (fixedL 23).length = 2 := by decide
    have e2 : restL 23 = 28 := by decide
    simp only [Nd.kind, Nd.kids] at h1
    rw [e1, e2] at h1
    omega
  obtain ⟨x0, x1, rfl⟩ : ∃ x0 x1, kids = [x0, x1] := kids2 (n := Nd.mk 23 ⟨#[97, 110, 100]⟩ ⟨#[]⟩ 0 ao cap kids) hln
  obtain ⟨hP0, hC0⟩ := hG.kid (i := 0) (x := x0) hn0 rfl
  have hw0 : x0.kind ∈ walkL := expr_walk (class_0 (hC0 hn1))
  have HG0 := Lib.hid (show GoodW e x0 from ⟨hP0.good hw0, hW.kid (i := 0) rfl⟩)
  obtain ⟨hP1, hC1⟩ := hG.kid (i := 1) (x := x1) hn0 rfl
  have hw1 : x1.kind ∈ walkL := expr_walk (class_0 (hC1 hn1))
  have HG1 := Lib.hid (show GoodW e x1 from ⟨hP1.good hw1, hW.kid (i := 1) rfl⟩)
  obtain ⟨hA, cs, hb, hs⟩ := hR
  rw [slots_23 _ rfl] at hs
  match cs, hs with
  | [v0, v1, v2, v3, v4, v5], ⟨e0, e1, e2, e3, e4, e5, _⟩ =>
    obtain ⟨b0, rfl, hR0⟩ := (show IfcTo (RepD A d) w x0 v4 from e4)
    have HR0 := Lib.hid hR0
    have c4 : w.cell? ⟨b, 4, none⟩ = some (.iface (pTy x0.kind) (.pointer (some ⟨b0, 0, none⟩))) := by rw [Lib.cell_of_heap hb]; rfl
    obtain ⟨b1, rfl, hR1⟩ := (show IfcTo (RepD A d) w x1 v5 from e5)
    have HR1 := Lib.hid hR1
    have c5 : w.cell? ⟨b, 5, none⟩ = some (.iface (pTy x1.kind) (.pointer (some ⟨b1, 0, none⟩))) := by rw [Lib.cell_of_heap hb]; rfl
    have c3 : w.cell? ⟨b, 3, none⟩ = some (.int .i64 1) := by rw [Lib.cell_of_heap hb]; exact congrArg some (e3.trans (congrArg (Value.int .i64) logNum_and))
    have hblt : b < w.heap.size := World.block_lt_of_cell? _ _ c4
    have hbne : ¬ b = w.heap.size := by omega
    have hbne2 : ¬ w.heap.size = b := by omega
    rw [show pTy (Nd.kind (.mk 23 ⟨#[97, 110, 100]⟩ ⟨#[]⟩ 0 ao cap [x0, x1])) = 196 from ptrTy_23]
    clear hn0 hn1 hPl hln hG hW hA hb hP0 hC0 hP1 hC1
    have q2 := no_2 196 (by decide)
    have q3 := no_3 196 (by decide)
    have q4 := no_4 196 (by decide)
    have q5 := no_5 196 (by decide)
    have q6 := no_6 196 (by decide)
    have q7 := no_7 196 (by decide)
    have q8 := no_8 196 (by decide)
    have q9 := no_9 196 (by decide)
    have q10 := no_10 196 (by decide)
    have q11 := no_11 196 (by decide)
    have q12 := no_12 196 (by decide)
    have q13 := no_13 196 (by decide)
    have q14 := no_14 196 (by decide)
    have q15 := no_15 196 (by decide)
    have q16 := no_16 196 (by decide)
    have q17 := no_17 196 (by decide)
    have q18 := no_18 196 (by decide)
    have q19 := no_19 196 (by decide)
    have q20 := no_20 196 (by decide)
    have q21 := no_21 196 (by decide)
    have q22 := no_22 196 (by decide)
    have q23 := yes_23
    go_enter Tryz.func36, Tryz.ntmps36
    go_wp2_with fail
    go_region_held3 (fun w' => (w'.cell? ⟨b, 3, none⟩ = some (.int .i64 1) ∧ w'.cell? ⟨b, 4, none⟩ = some (.iface (pTy x0.kind) (.pointer (some ⟨b0, 0, none⟩))) ∧ w'.cell? ⟨b, 5, none⟩ = some (.iface (pTy x1.kind) (.pointer (some ⟨b1, 0, none⟩))))) (go_keep) (first | (go_at_call 103; refine (lgStr_1 _).mono ?_; rintro e wo ⟨rfl, rfl⟩) | (go_at_call_of 54 b0; refine (exprOrNone d hN e A x0 b0 _ HG0.out (by first | exact HR0.out.below ((Below.refl _ _).alloc (Nat.le_refl _) _) | exact HR0.out.below (Below.drew ((Below.refl _ _).alloc (Nat.le_refl _) _)))).mono ?_; rintro e c0w ⟨E0, m0, rfl, hS0, hl0, hb0⟩; have HZ0 : Below (w.alloc zN).heap.size (w.alloc zN) c0w := (by first | exact hb0 | exact (Below.drew (Below.refl _ _)).trans (hb0.mono (by simp))); have HY0 : Below w.heap.size w c0w := ((Below.refl w.heap.size w).alloc (Nat.le_refl _) zN).trans (HZ0.mono (by simp)); have hz0 : w.heap.size < c0w.heap.size := (by have := Below.size HZ0; (try simp at this); omega); obtain ⟨kb0, -⟩ := bblk hb0 (b := b) (by first | omega | (simp; omega)); obtain ⟨ka0, fa0⟩ := bblk hb0 (b := w.heap.size) (by first | omega | (simp; done) | (simp; omega))) | (go_at_call_of 54 b1; refine (exprOrNone d hN e A x1 b1 _ HG1.out (by first | exact HR1.out.below HY0 | exact HR1.out.below (Below.drew HY0))).mono ?_; rintro e c1w ⟨E1, m1, rfl, hS1, hl1, hb1⟩; have HZ1 : Below (w.alloc zN).heap.size (w.alloc zN) c1w := (by first | exact Below.trans HZ0 (hb1.mono (Below.size HZ0)) | exact Below.trans (Below.drew HZ0) (hb1.mono (by have := Below.size HZ0; simpa using this))); have HY1 : Below w.heap.size w c1w := ((Below.refl w.heap.size w).alloc (Nat.le_refl _) zN).trans (HZ1.mono (by simp)); have hz1 : w.heap.size < c1w.heap.size := (by have := Below.size HZ1; (try simp at this); omega); obtain ⟨kb1, -⟩ := bblk hb1 (b := b) (by first | omega | (simp; omega)); obtain ⟨ka1, fa1⟩ := bblk hb1 (b := w.heap.size) (by first | omega | (simp; done) | (simp; omega))))
    go_wp2_with fail
    refine bodyPost_ret (v := .agg #[.int .i64 23, .string ⟨#[97, 110, 100]⟩, .string ⟨#[]⟩, .int .u64 0, .slice (some ⟨c1w.heap.size, 0, none⟩) 2 2]) (by simp [results, Tryz.f36, go_sem, ka0, hz0, Nat.ne_of_lt hz0, ka1, hz1, Nat.ne_of_lt hz1]) rfl (NodePost.stored2 _ _ _ _ _ HZ1 (back_fin [m0, m1] rfl HWF.out HZ1 rfl ?_))
    intro i x y hx hy
    match i with
    | 0 => simp at hx hy; subst hx hy; exact ⟨E0, hS0, ((hl0.mono (From.le (by first | exact Nat.le_refl _ | omega | (simp; omega) | (have := Below.size HZ0; simp; omega) | (have := Below.size HZ0; simp at this ⊢; omega)))).below (by first | exact hb1 | (have h := hb1; simpa using h)))⟩
    | 1 => simp at hx hy; subst hx hy; exact ⟨E1, hS1, (hl1.mono (From.le (by first | exact Nat.le_refl _ | omega | (simp; omega) | (have := Below.size HZ1; simp; omega) | (have := Below.size HZ0; simp at this ⊢; omega))))⟩
    | _ + 2 => simp at hx
set_option maxRecDepth 100000 in
set_option maxHeartbeats 2000000 in
theorem nd_23_or (d : Nat) (hN : NodeC d) (e : Nat) (A : Nat → Prop) (n : Nd) (b : Nat) (w : World) (hG : PreD (e + 1) n) (hW : WfN n) (hR : RepD A (d + 1) w n b) (hk : n.kind = 23) (ht : n.text = ⟨#[111, 114]⟩) :
    Calls Tryz.prog 36 #[.iface (pTy n.kind) (.pointer (some ⟨b, 0, none⟩))] w (NodePost n w) := by
  obtain ⟨k, t, m, u, ao, cap, kids⟩ := n
  obtain rfl : k = 23 := hk
  have hn0 : (Nd.mk 23 t m u ao cap kids).kind ≠ 0 := by show (23 : Int) ≠ 0; decide
  have hn1 : (Nd.mk 23 t m u ao cap kids).kind ≠ 1 := by show (23 : Int) ≠ 1; decide
  have hPl := (hG.fit hn0).2.2.1
  obtain rfl : t = ⟨#[111, 114]⟩ := ht
  have HWF := Lib.hid hW.wf
  obtain rfl : u = 0 := hPl.2.1 (show hasNum 23 = false by decide)
  obtain rfl : m = ⟨#[]⟩ := hPl.2.2.1 (show (23 : Int) ≠ 2 by decide) (show (23 : Int) ≠ 3 by decide)
  have hln : kids.length = 2 := by
    have h1 := ((hG.fit hn0).2.2.2.1 hn1)
    have e1 : (fixedL 23).length = 2 := by decide
    have e2 : restL 23 = 28 := by decide
    simp only [Nd.kind, Nd.kids] at h1
    rw [e1, e2] at h1
    omega
  obtain ⟨x0, x1, rfl⟩ : ∃ x0 x1, kids = [x0, x1] := kids2 (n := Nd.mk 23 ⟨#[111, 114]⟩ ⟨#[]⟩ 0 ao cap kids) hln
  obtain ⟨hP0, hC0⟩ := hG.kid (i := 0) (x := x0) hn0 rfl
  have hw0 : x0.kind ∈ walkL := expr_walk (class_0 (hC0 hn1))
  have HG0 := Lib.hid (show GoodW e x0 from ⟨hP0.good hw0, hW.kid (i := 0) rfl⟩)
  obtain ⟨hP1, hC1⟩ := hG.kid (i := 1) (x := x1) hn0 rfl
  have hw1 : x1.kind ∈ walkL := expr_walk (class_0 (hC1 hn1))
  have HG1 := Lib.hid (show GoodW e x1 from ⟨hP1.good hw1, hW.kid (i := 1) rfl⟩)
  obtain ⟨hA, cs, hb, hs⟩ := hR
  rw [slots_23 _ rfl] at hs
  match cs, hs with
  | [v0, v1, v2, v3, v4, v5], ⟨e0, e1, e2, e3, e4, e5, _⟩ =>
    obtain ⟨b0, rfl, hR0⟩ := (show IfcTo (RepD A d) w x0 v4 from e4)
    have HR0 := Lib.hid hR0
    have c4 : w.cell? ⟨b, 4, none⟩ = some (.iface (pTy x0.kind) (.pointer (some ⟨b0, 0, none⟩))) := by rw [Lib.cell_of_heap hb]; rfl
    obtain ⟨b1, rfl, hR1⟩ := (show IfcTo (RepD A d) w x1 v5 from e5)
    have HR1 := Lib.hid hR1
    have c5 : w.cell? ⟨b, 5, none⟩ = some (.iface (pTy x1.kind) (.pointer (some ⟨b1, 0, none⟩))) := by rw [Lib.cell_of_heap hb]; rfl
    have c3 : w.cell? ⟨b, 3, none⟩ = some (.int .i64 2) := by rw [Lib.cell_of_heap hb]; exact congrArg some (e3.trans (congrArg (Value.int .i64) logNum_or))
    have hblt : b < w.heap.size := World.block_lt_of_cell? _ _ c4
    have hbne : ¬ b = w.heap.size := by omega
    have hbne2 : ¬ w.heap.size = b := by omega
    rw [show pTy (Nd.kind (.mk 23 ⟨#[111, 114]⟩ ⟨#[]⟩ 0 ao cap [x0, x1])) = 196 from ptrTy_23]
    clear hn0 hn1 hPl hln hG hW hA hb hP0 hC0 hP1 hC1
    have q2 := no_2 196 (by decide)
    have q3 := no_3 196 (by decide)
    have q4 := no_4 196 (by decide)
    have q5 := no_5 196 (by decide)
    have q6 := no_6 196 (by decide)
    have q7 := no_7 196 (by decide)
    have q8 := no_8 196 (by decide)
    have q9 := no_9 196 (by decide)
    have q10 := no_10 196 (by decide)
    have q11 := no_11 196 (by decide)
    have q12 := no_12 196 (by decide)
    have q13 := no_13 196 (by decide)
    have q14 := no_14 196 (by decide)
    have q15 := no_15 196 (by decide)
    have q16 := no_16 196 (by decide)
    have q17 := no_17 196 (by decide)
    have q18 := no_18 196 (by decide)
    have q19 := no_19 196 (by decide)
    have q20 := no_20 196 (by decide)
    have q21 := no_21 196 (by decide)
    have q22 := no_22 196 (by decide)
    have q23 := yes_23
    go_enter Tryz.func36, Tryz.ntmps36
    go_wp2_with fail
    go_region_held3 (fun w' => (w'.cell? ⟨b, 3, none⟩ = some (.int .i64 2) ∧ w'.cell? ⟨b, 4, none⟩ = some (.iface (pTy x0.kind) (.pointer (some ⟨b0, 0, none⟩))) ∧ w'.cell? ⟨b, 5, none⟩ = some (.iface (pTy x1.kind) (.pointer (some ⟨b1, 0, none⟩))))) (go_keep) (first | (go_at_call 103; refine (lgStr_2 _).mono ?_; rintro e wo ⟨rfl, rfl⟩) | (go_at_call_of 54 b0; refine (exprOrNone d hN e A x0 b0 _ HG0.out (by first | exact HR0.out.below ((Below.refl _ _).alloc (Nat.le_refl _) _) | exact HR0.out.below (Below.drew ((Below.refl _ _).alloc (Nat.le_refl _) _)))).mono ?_; rintro e c0w ⟨E0, m0, rfl, hS0, hl0, hb0⟩; have HZ0 : Below (w.alloc zN).heap.size (w.alloc zN) c0w := (by first | exact hb0 | exact (Below.drew (Below.refl _ _)).trans (hb0.mono (by simp))); have HY0 : Below w.heap.size w c0w := ((Below.refl w.heap.size w).alloc (Nat.le_refl _) zN).trans (HZ0.mono (by simp)); have hz0 : w.heap.size < c0w.heap.size := (by have := Below.size HZ0; (try simp at this); omega); obtain ⟨kb0, -⟩ := bblk hb0 (b := b) (by first | omega | (simp; omega)); obtain ⟨ka0, fa0⟩ := bblk hb0 (b := w.heap.size) (by first | omega | (simp; done) | (simp; omega))) | (go_at_call_of 54 b1; refine (exprOrNone d hN e A x1 b1 _ HG1.out (by first | exact HR1.out.below HY0 | exact HR1.out.below (Below.drew HY0))).mono ?_; rintro e c1w ⟨E1, m1, rfl, hS1, hl1, hb1⟩; have HZ1 : Below (w.alloc zN).heap.size (w.alloc zN) c1w := (by first | exact Below.trans HZ0 (hb1.mono (Below.size HZ0)) | exact Below.trans (Below.drew HZ0) (hb1.mono (by have := Below.size HZ0; simpa using this))); have HY1 : Below w.heap.size w c1w := ((Below.refl w.heap.size w).alloc (Nat.le_refl _) zN).trans (HZ1.mono (by simp)); have hz1 : w.heap.size < c1w.heap.size := (by have := Below.size HZ1; (try simp at this); omega); obtain ⟨kb1, -⟩ := bblk hb1 (b := b) (by first | omega | (simp; omega)); obtain ⟨ka1, fa1⟩ := bblk hb1 (b := w.heap.size) (by first | omega | (simp; done) | (simp; omega))))
    go_wp2_with fail
    refine bodyPost_ret (v := .agg #[.int .i64 23, .string ⟨#[111, 114]⟩, .string ⟨#[]⟩, .int .u64 0, .slice (some ⟨c1w.heap.size, 0, none⟩) 2 2]) (by simp [results, Tryz.f36, go_sem, ka0, hz0, Nat.ne_of_lt hz0, ka1, hz1, Nat.ne_of_lt hz1]) rfl (NodePost.stored2 _ _ _ _ _ HZ1 (back_fin [m0, m1] rfl HWF.out HZ1 rfl ?_))
    intro i x y hx hy
    match i with
    | 0 => simp at hx hy; subst hx hy; exact ⟨E0, hS0, ((hl0.mono (From.le (by first | exact Nat.le_refl _ | omega | (simp; omega) | (have := Below.size HZ0; simp; omega) | (have := Below.size HZ0; simp at this ⊢; omega)))).below (by first | exact hb1 | (have h := hb1; simpa using h)))⟩
    | 1 => simp at hx hy; subst hx hy; exact ⟨E1, hS1, (hl1.mono (From.le (by first | exact Nat.le_refl _ | omega | (simp; omega) | (have := Below.size HZ1; simp; omega) | (have := Below.size HZ0; simp at this ⊢; omega))))⟩
    | _ + 2 => simp at hx
end Go.Proofs.YtongafghllkomaaGreatDoor
