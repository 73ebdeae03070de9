/-
  node at the kinds in which identifiers alone stand. No conditions.
-/
import Derived.Test.YtdljkanfebndaaaGreatDoorNdA
import Derived.Test.YtdljkanfebndaaaGreatDoorNdP
namespace Go.Proofs.YtdljkanfebndaaaGreatDoor
open Go.RowKit
set_option linter.unusedVariables false
set_option linter.unusedSimpArgs false

/-- node's contract at one kind. -/
def NodeK (K : Int) (d : Nat) : Prop := ∀ (e : Nat) (A : Nat → Prop) (n : Nd) (b : Nat) (w : World), n.kind = K → GoodW e n → RepD A d w n b →
  Calls Tryz.prog 27 #[.iface (pTy n.kind) (.pointer (some ⟨b, 0, none⟩))] w (NodePost n w)

theorem node33 : NodeK 33 1 := fun e A n b w hk hG hR => by
  obtain ⟨e', rfl⟩ := hG.1.pre.pos
  exact nd_33 0 (fun e A n b w _ hR => hR.elim) e' A n b w hG.1.pre hG.2 hR hk

theorem orNoneK_33 (d : Nat) (hN : NodeK 33 d) (e : Nat) (A : Nat → Prop) (n : Nd) (b : Nat) (w : World) (hG : GoodW e n) (hR : RepD A d w n b) (hk : n.kind = 33) :
    Calls Tryz.prog 54 #[.pointer (some ⟨b, 0, none⟩)] w (NodePost n w) := by
  have H := Lib.hid (show ∀ w', Below w.heap.size w w' → Calls Tryz.prog 27 #[.iface 77 (.pointer (some ⟨b, 0, none⟩))] w' (NodePost n w') from fun w' hb => by
    have h := hN e A n b w' hk hG (hR.below hb)
    rw [hk, ptrTy_33] at h
    exact h)
  clear hR hk
  go_enter Tryz.func54, Tryz.ntmps54
  go_wp2_with fail
  refine (H.out _ ((Below.refl _ _).alloc (Nat.le_refl _) _)).mono ?_
  rintro e w1 ⟨E, m, rfl, hS, hl, hb1⟩
  have HS := Lib.hid hS
  have Hl := Lib.hid hl
  have HB := Lib.hid hb1
  obtain ⟨k0, f0⟩ := bblk hb1 (b := w.heap.size) (by simp)
  clear hS hl hb1
  go_wp2_with fail
  refine bodyPost_ret (v := .agg #[.int .i64 m.kind, .string m.text, .string m.more, .int .u64 m.num, .slice m.ao m.kids.length m.cap]) ?_ rfl (NodePost.stored _ _ _ _ _ (NodePost.keep HS.out Hl.out HB.out))
  simp [results, Tryz.f54, go_sem, k0]

set_option maxRecDepth 100000 in
set_option maxHeartbeats 2000000 in
theorem ndK_4 (d : Nat) (hN : NodeK 33 d) (e : Nat) (A : Nat → Prop) (n : Nd) (b : Nat) (w : World) (hG : PreD (e + 1) n) (hW : WfN n) (hR : RepD A (d + 1) w n b) (hk : n.kind = 4) :
    Calls Tryz.prog 27 #[.iface (pTy n.kind) (.pointer (some ⟨b, 0, none⟩))] w (NodePost n w) := by
  obtain ⟨k, t, m, u, ao, cap, kids⟩ := n
  obtain rfl : k = 4 := hk
  have hn0 : (Nd.mk 4 t m u ao cap kids).kind ≠ 0 := by show (4 : Int) ≠ 0; decide
  have hn1 : (Nd.mk 4 t m u ao cap kids).kind ≠ 1 := by show (4 : Int) ≠ 1; decide
  have hPl := (hG.fit hn0).2.2.1
  have HWF := Lib.hid hW.wf
  obtain rfl : t = ⟨#[]⟩ := hPl.1 (show hasText 4 = false by decide)
  obtain rfl : u = 0 := hPl.2.1 (show hasNum 4 = false by decide)
  obtain rfl : m = ⟨#[]⟩ := hPl.2.2.1 (show (4 : Int) ≠ 2 by decide) (show (4 : Int) ≠ 3 by decide)
  have hln : kids.length = 1 := by
    have h1 := ((hG.fit hn0).2.2.2.1 hn1)
    have e1 : (fixedL 4).length = 1 := by decide
    have e2 : restL 4 = 28 := by decide
    simp only [Nd.kind, Nd.kids] at h1
    rw [e1, e2] at h1
    omega
  obtain ⟨x0, rfl⟩ : ∃ x0, kids = [x0] := kids1 (n := Nd.mk 4 ⟨#[]⟩ ⟨#[]⟩ 0 ao cap kids) hln
  obtain ⟨hP0, hC0⟩ := hG.kid (i := 0) (x := x0) hn0 rfl
  have hf0 : x0.kind ∈ ([33] : List Int) := class_few [33] rfl (hC0 hn1)
  have hk0 : x0.kind = 33 := by
    have h := hf0
    simp at h
    omega
  have hw0 : x0.kind ∈ walkL := by rw [hk0]; decide
  have HG0 := Lib.hid (show GoodW e x0 from ⟨hP0.good hw0, hW.kid (i := 0) rfl⟩)
  have HK0 := Lib.hid hk0
  obtain ⟨hA, cs, hb, hs⟩ := hR
  rw [slots_4 _ rfl] at hs
  match cs, hs with
  | [v0, v1, v2, v3], ⟨e0, e1, e2, e3, _⟩ =>
    obtain ⟨b0, rfl, hR0⟩ := (show PtrTo (RepD A d) w x0 v3 from e3)
    have HR0 := Lib.hid hR0
    have c3 : w.cell? ⟨b, 3, none⟩ = some (.pointer (some ⟨b0, 0, none⟩)) := by rw [Lib.cell_of_heap hb]; rfl
    have hblt : b < w.heap.size := World.block_lt_of_cell? _ _ c3
    have hbne : ¬ b = w.heap.size := by omega
    have hbne2 : ¬ w.heap.size = b := by omega
    rw [show pTy (Nd.kind (.mk 4 ⟨#[]⟩ ⟨#[]⟩ 0 ao cap [x0])) = 83 from ptrTy_4]
    clear hn0 hn1 hPl hln hG hW hA hb hP0 hC0
    have q2 := no_2 83 (by decide)
    have q3 := no_3 83 (by decide)
    have q4 := yes_4
    go_enter Tryz.func27, Tryz.ntmps27
    go_wp2_with fail
    (go_at_call 54; refine (orNoneK_33 d hN e A x0 b0 _ HG0.out (by first | exact HR0.out.below ((Below.refl _ _).alloc (Nat.le_refl _) _) | exact HR0.out.below (Below.drew ((Below.refl _ _).alloc (Nat.le_refl _) _))) HK0.out).mono ?_; rintro e c0w ⟨E0, m0, rfl, hS0, hl0, hb0⟩; have HZ0 : Below (w.alloc zN).heap.size (w.alloc zN) c0w := (by first | exact hb0 | exact (Below.drew (Below.refl _ _)).trans (hb0.mono (by simp))); have HY0 : Below w.heap.size w c0w := ((Below.refl w.heap.size w).alloc (Nat.le_refl _) zN).trans (HZ0.mono (by simp)); have hz0 : w.heap.size < c0w.heap.size := (by have := Below.size HZ0; (try simp at this); omega); obtain ⟨kb0, -⟩ := bblk hb0 (b := b) (by first | omega | (simp; omega)); obtain ⟨ka0, fa0⟩ := bblk hb0 (b := w.heap.size) (by first | omega | (simp; done) | (simp; omega)))
    go_wp2_with fail
    refine bodyPost_ret (v := .agg #[.int .i64 4, .string ⟨#[]⟩, .string ⟨#[]⟩, .int .u64 0, .slice (some ⟨c0w.heap.size, 0, none⟩) 1 1]) (by simp [results, Tryz.f27, go_sem, ka0, hz0, Nat.ne_of_lt hz0]) rfl (NodePost.stored2 _ _ _ _ _ HZ0 (back_fin [m0] rfl HWF.out HZ0 rfl ?_))
    intro i x y hx hy
    match i with
    | 0 => simp at hx hy; subst hx hy; exact ⟨E0, hS0, (hl0.mono (From.le (by first | exact Nat.le_refl _ | omega | (simp; omega) | (have := Below.size HZ0; simp; omega) | (have := Below.size HZ0; simp at this ⊢; omega))))⟩
    | _ + 1 => simp at hx

theorem no_44 (T : TypeId) (h : T ≠ 173) (p : Value) (w : World) : Sem.run Tryz.prog (Instr.typeAssert (.iface T p) 107 173 true) w = .ok (.tuple #[.pointer none, .bool false]) w := by
  have hz : Sem.run Tryz.prog (zeroValue 173) w = .ok (.pointer none) w := by kernel_rfl
  unfold Instr.typeAssert
  simp [go_sem, hz, h]
theorem yes_44 (p : Value) (w : World) : Sem.run Tryz.prog (Instr.typeAssert (.iface 173 p) 107 173 true) w = .ok (.tuple #[p, .bool true]) w := by kernel_rfl
theorem no_45 (T : TypeId) (h : T ≠ 76) (p : Value) (w : World) : Sem.run Tryz.prog (Instr.typeAssert (.iface T p) 107 76 true) w = .ok (.tuple #[.pointer none, .bool false]) w := by
  have hz : Sem.run Tryz.prog (zeroValue 76) w = .ok (.pointer none) w := by kernel_rfl
  unfold Instr.typeAssert
  simp [go_sem, hz, h]
theorem yes_45 (p : Value) (w : World) : Sem.run Tryz.prog (Instr.typeAssert (.iface 76 p) 107 76 true) w = .ok (.tuple #[p, .bool true]) w := by kernel_rfl

set_option maxRecDepth 100000 in
set_option maxHeartbeats 2000000 in
theorem via_NamedType (n : Nd) (b : Nat) (w : World) (H : ∀ w', Below w.heap.size w w' → Calls Tryz.prog 70 #[.iface 76 (.pointer (some ⟨b, 0, none⟩))] w' (NodePost n w')) :
    Calls Tryz.prog 27 #[.iface 76 (.pointer (some ⟨b, 0, none⟩))] w (NodePost n w) := by
  have H := Lib.hid H
  have q2 := no_2 76 (by decide)
  have q3 := no_3 76 (by decide)
  have q4 := no_4 76 (by decide)
  have q5 := no_5 76 (by decide)
  have q6 := no_6 76 (by decide)
  have q7 := no_7 76 (by decide)
  have q8 := no_8 76 (by decide)
  have q9 := no_9 76 (by decide)
  have q10 := no_10 76 (by decide)
  have q11 := no_11 76 (by decide)
  have q12 := no_12 76 (by decide)
  have q13 := no_13 76 (by decide)
  have q14 := no_14 76 (by decide)
  have q15 := no_15 76 (by decide)
  have q16 := no_16 76 (by decide)
  have q17 := no_17 76 (by decide)
  have q18 := no_18 76 (by decide)
  have q19 := no_19 76 (by decide)
  have q20 := no_20 76 (by decide)
  have q21 := no_21 76 (by decide)
  have q22 := no_22 76 (by decide)
  have q23 := no_23 76 (by decide)
  have q24 := no_24 76 (by decide)
  have q25 := no_25 76 (by decide)
  have q26 := no_26 76 (by decide)
  have q27 := no_27 76 (by decide)
  have q28 := no_28 76 (by decide)
  have q29 := no_29 76 (by decide)
  have q30 := no_30 76 (by decide)
  have q31 := no_31 76 (by decide)
  have q32 := no_32 76 (by decide)
  have q33 := no_33 76 (by decide)
  have q34 := no_34 76 (by decide)
  have q35 := no_35 76 (by decide)
  have q36 := no_36 76 (by decide)
  have q37 := no_37 76 (by decide)
  have q38 := no_38 76 (by decide)
  have q39 := no_39 76 (by decide)
  have q41 := no_41 76 (by decide)
  have q42 := no_42 76 (by decide)
  have q43 := no_43 76 (by decide)
  go_enter Tryz.func27, Tryz.ntmps27
  go_wp2_with fail
  refine (H.out _ ((Below.refl _ _).alloc (Nat.le_refl _) _)).mono ?_
  rintro e w1 ⟨E, m, rfl, hS, hl, hb1⟩
  have HS := Lib.hid hS
  have Hl := Lib.hid hl
  have HB := Lib.hid hb1
  obtain ⟨k0, f0⟩ := bblk hb1 (b := w.heap.size) (by simp)
  clear hS hl hb1
  go_wp2_with fail
  refine bodyPost_ret (v := .agg #[.int .i64 m.kind, .string m.text, .string m.more, .int .u64 m.num, .slice m.ao m.kids.length m.cap]) ?_ rfl (NodePost.stored _ _ _ _ _ (NodePost.keep HS.out Hl.out HB.out))
  simp [results, Tryz.f27, go_sem, k0]

set_option maxRecDepth 100000 in
set_option maxHeartbeats 2000000 in
theorem tn_45 (d : Nat) (hN : NodeK 33 d) (e : Nat) (A : Nat → Prop) (n : Nd) (b b0 : Nat) (w : World) (hG : PreD (e + 1) n) (hW : WfN n) (hk : n.kind = 45) (hb : w.heap[b]? = some (.cells #[.pointer none, .slice none 0 0, .slice none 0 0, .pointer (some ⟨b0, 0, none⟩)] 79 (0, 0))) (hR0 : RepD A d w (n.kid 0) b0) :
    Calls Tryz.prog 70 #[.iface 76 (.pointer (some ⟨b, 0, none⟩))] w (NodePost n w) := by
  obtain ⟨k, t, m, u, ao, cap, kids⟩ := n
  obtain rfl : k = 45 := hk
  have hn0 : (Nd.mk 45 t m u ao cap kids).kind ≠ 0 := by show (45 : Int) ≠ 0; decide
  have hn1 : (Nd.mk 45 t m u ao cap kids).kind ≠ 1 := by show (45 : Int) ≠ 1; decide
  have hPl := (hG.fit hn0).2.2.1
  have HWF := Lib.hid hW.wf
  obtain rfl : t = ⟨#[]⟩ := hPl.1 (show hasText 45 = false by decide)
  obtain rfl : u = 0 := hPl.2.1 (show hasNum 45 = false by decide)
  obtain rfl : m = ⟨#[]⟩ := hPl.2.2.1 (show (45 : Int) ≠ 2 by decide) (show (45 : Int) ≠ 3 by decide)
  have hln : kids.length = 1 := by
    have h1 := ((hG.fit hn0).2.2.2.1 hn1)
    have e1 : (fixedL 45).length = 1 := by decide
    have e2 : restL 45 = 28 := by decide
    simp only [Nd.kind, Nd.kids] at h1
    rw [e1, e2] at h1
    omega
  obtain ⟨x0, rfl⟩ : ∃ x0, kids = [x0] := kids1 (n := Nd.mk 45 ⟨#[]⟩ ⟨#[]⟩ 0 ao cap kids) hln
  obtain ⟨hP0, hC0⟩ := hG.kid (i := 0) (x := x0) hn0 rfl
  have hf0 : x0.kind ∈ ([33] : List Int) := class_few [33] rfl (hC0 hn1)
  have hk0 : x0.kind = 33 := by
    have h := hf0
    simp at h
    omega
  have hw0 : x0.kind ∈ walkL := by rw [hk0]; decide
  have HG0 := Lib.hid (show GoodW e x0 from ⟨hP0.good hw0, hW.kid (i := 0) rfl⟩)
  have HK0 := Lib.hid hk0
  have HR0 := Lib.hid (show RepD A d w x0 b0 from hR0)
  have c3 : w.cell? ⟨b, 3, none⟩ = some (.pointer (some ⟨b0, 0, none⟩)) := by rw [Lib.cell_of_heap hb]; rfl
  have hblt : b < w.heap.size := World.block_lt_of_cell? _ _ c3
  have hbne : ¬ b = w.heap.size := by omega
  have hbne2 : ¬ w.heap.size = b := by omega
  clear hn0 hn1 hPl hln hG hW hb hP0 hC0 hR0
  have q44 := no_44 76 (by decide)
  have q45 := yes_45
  go_enter Tryz.func70, Tryz.ntmps70
  go_wp2_with fail
  (go_at_call 54; refine (orNoneK_33 d hN e A x0 b0 _ HG0.out (by first | exact HR0.out.below ((Below.refl _ _).alloc (Nat.le_refl _) _) | exact HR0.out.below (Below.drew ((Below.refl _ _).alloc (Nat.le_refl _) _))) HK0.out).mono ?_; rintro e c0w ⟨E0, m0, rfl, hS0, hl0, hb0⟩; have HZ0 : Below (w.alloc zN).heap.size (w.alloc zN) c0w := (by first | exact hb0 | exact (Below.drew (Below.refl _ _)).trans (hb0.mono (by simp))); have HY0 : Below w.heap.size w c0w := ((Below.refl w.heap.size w).alloc (Nat.le_refl _) zN).trans (HZ0.mono (by simp)); have hz0 : w.heap.size < c0w.heap.size := (by have := Below.size HZ0; (try simp at this); omega); obtain ⟨kb0, -⟩ := bblk hb0 (b := b) (by first | omega | (simp; omega)); obtain ⟨ka0, fa0⟩ := bblk hb0 (b := w.heap.size) (by first | omega | (simp; done) | (simp; omega)))
  go_wp2_with fail
  refine bodyPost_ret (v := .agg #[.int .i64 45, .string ⟨#[]⟩, .string ⟨#[]⟩, .int .u64 0, .slice (some ⟨c0w.heap.size, 0, none⟩) 1 1]) (by simp [results, Tryz.f70, go_sem, ka0, hz0, Nat.ne_of_lt hz0]) rfl (NodePost.stored2 _ _ _ _ _ HZ0 (back_fin [m0] rfl HWF.out HZ0 rfl ?_))
  intro i x y hx hy
  match i with
  | 0 => simp at hx hy; subst hx hy; exact ⟨E0, hS0, (hl0.mono (From.le (by first | exact Nat.le_refl _ | omega | (simp; omega) | (have := Below.size HZ0; simp; omega) | (have := Below.size HZ0; simp at this ⊢; omega))))⟩
  | _ + 1 => simp at hx

end Go.Proofs.YtdljkanfebndaaaGreatDoor
