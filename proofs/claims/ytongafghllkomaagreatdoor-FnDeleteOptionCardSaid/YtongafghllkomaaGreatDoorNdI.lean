/-
  node kind by kind, part H: it hands back the tree that lies there, given its own contract a level down. No conditions.
  node kind by kind, part I: it hands back the tree that lies there, given its own contract a level down. No conditions.
-/
import Derived.Test.YtongafghllkomaaGreatDoorNdF
import Derived.Test.YtongafghllkomaaGreatDoorUnK
import Derived.Deep.RegionHeld3
import Derived.Deep.RegionWith
import Derived.Deep.LoopGhost
import Derived.Deep.AppendLies
namespace Go.Proofs.YtongafghllkomaaGreatDoor
open Go.RowKit
set_option linter.unusedVariables false
set_option linter.unusedSimpArgs false


/-- A list of nodes, as one of the kids. -/
theorem list_node {e : Nat} {x : Nd} (hP : PreD (e + 1) x) (hk : x.kind = 1) (hW : WfN x) {A : Nat → Prop} {D : Nat} {W : World} {ao : Option Addr} {cap : Nat} {ms : List Nd} (hlm : ms.length = x.kids.length)
    (hs : ∀ (i : Nat) (n m : Nd), x.kids[i]? = some n → ms[i]? = some m → SameD D n m) (hl : ListIn A D W ao ms) : SameD (D + 1) x (.mk 1 ⟨#[]⟩ ⟨#[]⟩ 0 ao cap ms) ∧ LiesIn A (D + 1) W (.mk 1 ⟨#[]⟩ ⟨#[]⟩ 0 ao cap ms) := by
  have hPl := (hP.fit (by omega)).2.2.1
  have h3 := hW.wf.2.2.1
  exact ⟨⟨hk, hPl.1 (by rw [hk]; decide), hPl.2.2.1 (by omega) (by omega), hPl.2.1 (by rw [hk]; decide), hlm.symm, hs⟩, ⟨⟨show (ByteArray.mk #[]).size ≤ maxLen by decide, show (ByteArray.mk #[]).size ≤ maxLen by decide, by simp only [Nd.kids]; omega, show (0 : Int) ≤ 0 by decide, show (0 : Int) < 18446744073709551616 by decide, show (-9223372036854775808 : Int) ≤ 1 by decide, show (1 : Int) ≤ 9223372036854775807 by decide⟩, hl⟩⟩

set_option maxRecDepth 100000 in
set_option maxHeartbeats 2000000 in
theorem nd_20 (d : Nat) (hN : NodeC d) (e : Nat) (A : Nat → Prop) (n : Nd) (b : Nat) (w : World) (hG : PreD (e + 1) n) (hW : WfN n) (hR : RepD A (d + 1) w n b) (hk : n.kind = 20) :
    Calls Tryz.prog 36 #[.iface (pTy n.kind) (.pointer (some ⟨b, 0, none⟩))] w (NodePost n w) := by
  obtain ⟨k, t, m, u, ao, cap, kids⟩ := n
  obtain rfl : k = 20 := hk
  have hn0 : (Nd.mk 20 t m u ao cap kids).kind ≠ 0 := by show (20 : Int) ≠ 0; decide
  have hn1 : (Nd.mk 20 t m u ao cap kids).kind ≠ 1 := by show (20 : Int) ≠ 1; decide
  have hPl := (hG.fit hn0).2.2.1
  have HWF := Lib.hid hW.wf
  obtain rfl : t = ⟨#[]⟩ := hPl.1 (show hasText 20 = false by decide)
  obtain rfl : u = 0 := hPl.2.1 (show hasNum 20 = false by decide)
  obtain rfl : m = ⟨#[]⟩ := hPl.2.2.1 (show (20 : Int) ≠ 2 by decide) (show (20 : Int) ≠ 3 by decide)
  have hln : kids.length = 2 := by
    have h1 := ((hG.fit hn0).2.2.2.1 hn1)
    have e1 : (fixedL 20).length = 2 := by decide
    have e2 : restL 20 = 28 := by decide
    simp only [Nd.kind, Nd.kids] at h1
    rw [e1, e2] at h1
    omega
  obtain ⟨x0, x1, rfl⟩ : ∃ x0 x1, kids = [x0, x1] := kids2 (n := Nd.mk 20 ⟨#[]⟩ ⟨#[]⟩ 0 ao cap kids) hln
  obtain ⟨hP0, hC0⟩ := hG.kid (i := 0) (x := x0) hn0 rfl
  obtain ⟨hP1, hC1⟩ := hG.kid (i := 1) (x := x1) hn0 rfl
  obtain ⟨e1, rfl⟩ := hP0.pos
  obtain ⟨hk0, hkk0⟩ := class_16 (hC0 hn1)
  have hks0 : ∀ x ∈ x0.kids, GoodW e1 x ∧ x.kind = 29 := by
    intro x hx
    obtain ⟨i, hi, ei⟩ := List.mem_iff_getElem.1 hx
    have hp := list_good hP0 hk0 x hx
    have hkx := hkk0 x hx
    exact ⟨⟨hp.good (by rw [hkx]; decide), (hW.kid (i := 0) rfl).kid (i := i) (by rw [List.getElem?_eq_getElem hi, ei])⟩, hkx⟩
  have HKS0 := Lib.hid hks0
  have HSM0 := Lib.hid (show x0.kids.length ≤ 1000 from by have := hP0.small; omega)
  have HP0 := Lib.hid hP0
  have HK0 := Lib.hid hk0
  have HW0 := Lib.hid (hW.kid (i := 0) (x := x0) rfl)
  have hw1 : x1.kind ∈ walkL := by
    rcases class_7 (hC1 hn1) with h | h
    · rw [h]; decide
    · exact expr_walk h
  have HG1 := Lib.hid (show GoodW (e1 + 1) x1 from ⟨hP1.good hw1, hW.kid (i := 1) rfl⟩)
  obtain ⟨hA, cs, hb, hs⟩ := hR
  rw [slots_20 _ rfl] at hs
  match cs, hs with
  | [v0, v1, v2, v3, v4, v5, v6, v7], ⟨e0z, e1z, e2z, e3z, e4z, e5z, e6z, e7z, _⟩ =>
    obtain ⟨ao0, cap0, hv0, hHL0⟩ := HeldList.of (ptr := true) (R := RepD A d) (ns := x0.kids) (v := v4) (w := w) (A := A) e4z
    subst hv0
    have HHL0 := Lib.hid hHL0
    have c4 : w.cell? ⟨b, 4, none⟩ = some (.slice ao0 x0.kids.length cap0) := by rw [Lib.cell_of_heap hb]; rfl
    obtain ⟨b1, rfl, hR1⟩ := (show IfcTo (RepD A d) w x1 v7 from e7z)
    have HR1 := Lib.hid hR1
    have c7 : w.cell? ⟨b, 7, none⟩ = some (.iface (pTy x1.kind) (.pointer (some ⟨b1, 0, none⟩))) := by rw [Lib.cell_of_heap hb]; rfl
    have hblt : b < w.heap.size := World.block_lt_of_cell? _ _ c4
    have hbne : ¬ b = w.heap.size := by omega
    have hbne2 : ¬ w.heap.size = b := by omega
    rw [show pTy (Nd.kind (.mk 20 ⟨#[]⟩ ⟨#[]⟩ 0 ao cap [x0, x1])) = 182 from ptrTy_20]
    clear hn0 hn1 hPl hln hG hW hA hb hP0 hC0 hP1 hC1 hk0 hkk0 hks0 hHL0
    have q2 := no_2 182 (by decide)
    have q3 := no_3 182 (by decide)
    have q4 := no_4 182 (by decide)
    have q5 := no_5 182 (by decide)
    have q6 := no_6 182 (by decide)
    have q7 := no_7 182 (by decide)
    have q8 := no_8 182 (by decide)
    have q9 := no_9 182 (by decide)
    have q10 := no_10 182 (by decide)
    have q11 := no_11 182 (by decide)
    have q12 := no_12 182 (by decide)
    have q13 := no_13 182 (by decide)
    have q14 := no_14 182 (by decide)
    have q15 := no_15 182 (by decide)
    have q16 := no_16 182 (by decide)
    have q17 := no_17 182 (by decide)
    have q18 := no_18 182 (by decide)
    have q19 := no_19 182 (by decide)
    have q20 := yes_20
    go_enter Tryz.func36, Tryz.ntmps36
    go_wp2_with fail
    go_region_held3 (fun w' => (w'.cell? ⟨b, 4, none⟩ = some (.slice ao0 x0.kids.length cap0) ∧ w'.cell? ⟨b, 7, none⟩ = some (.iface (pTy x1.kind) (.pointer (some ⟨b1, 0, none⟩))))) (go_keep) (first | (go_at_call 101; refine (listProperty d hN e1 A x0.kids ao0 cap0 _ HSM0.out (by first | exact HHL0.out.below ((Below.refl _ _).alloc (Nat.le_refl _) _) | exact HHL0.out.below (Below.drew ((Below.refl _ _).alloc (Nat.le_refl _) _))) HKS0.out).mono ?_; rintro e c0w ⟨D0, aq0, capq0, ms0, rfl, hlm0, hsm0, hli0, hb0⟩; have HZ0 : Below (w.alloc zN).heap.size (w.alloc zN) c0w := (by first | exact hb0 | exact (Below.drew (Below.refl _ _)).trans (hb0.mono (by simp))); have HY0 : Below w.heap.size w c0w := ((Below.refl w.heap.size w).alloc (Nat.le_refl _) zN).trans (HZ0.mono (by simp)); have hz0 : w.heap.size < c0w.heap.size := (by have := Below.size HZ0; (try simp at this); omega); obtain ⟨kb0, -⟩ := bblk hb0 (b := b) (by first | omega | (simp; omega)); obtain ⟨ka0, fa0⟩ := bblk hb0 (b := w.heap.size) (by first | omega | (simp; done) | (simp; omega)); have HLM0 := Lib.hid hlm0; have HSS0 := Lib.hid hsm0; have HLI0 := Lib.hid hli0; clear hlm0 hsm0 hli0) | (go_at_call 54; refine (exprOrNone d hN (e1 + 1) A x1 b1 _ HG1.out (by first | exact HR1.out.below HY0 | exact HR1.out.below (Below.drew HY0))).mono ?_; rintro e c1w ⟨E1, m1, rfl, hS1, hl1, hb1⟩; have HZ1 : Below (w.alloc zN).heap.size (w.alloc zN) c1w := (by first | exact Below.trans HZ0 (hb1.mono (Below.size HZ0)) | exact Below.trans (Below.drew HZ0) (hb1.mono (by have := Below.size HZ0; simpa using this))); have HY1 : Below w.heap.size w c1w := ((Below.refl w.heap.size w).alloc (Nat.le_refl _) zN).trans (HZ1.mono (by simp)); have hz1 : w.heap.size < c1w.heap.size := (by have := Below.size HZ1; (try simp at this); omega); obtain ⟨kb1, -⟩ := bblk hb1 (b := b) (by first | omega | (simp; omega)); obtain ⟨ka1, fa1⟩ := bblk hb1 (b := w.heap.size) (by first | omega | (simp; done) | (simp; omega))))
    go_wp2_with fail
    rw [← HLM0.out]
    refine bodyPost_ret (v := .agg #[.int .i64 20, .string ⟨#[]⟩, .string ⟨#[]⟩, .int .u64 0, .slice (some ⟨c1w.heap.size, 0, none⟩) 2 2]) (by simp [results, Tryz.f36, go_sem, ka0, hz0, Nat.ne_of_lt hz0, ka1, hz1, Nat.ne_of_lt hz1]) rfl (NodePost.stored2 _ _ _ _ _ HZ1 (back_fin [(.mk 1 ⟨#[]⟩ ⟨#[]⟩ 0 aq0 capq0 ms0), m1] rfl HWF.out HZ1 rfl ?_))
    intro i x y hx hy
    match i with
    | 0 => simp at hx hy; subst hx hy; exact ⟨D0 + 1, (list_node (cap := capq0) HP0.out HK0.out HW0.out HLM0.out HSS0.out HLI0.out).1, (((list_node (cap := capq0) HP0.out HK0.out HW0.out HLM0.out HSS0.out HLI0.out).2.mono (From.le (by first | exact Nat.le_refl _ | omega | (simp; omega) | (have := Below.size HZ0; simp; omega) | (have := Below.size HZ0; simp at this ⊢; omega)))).below (by first | exact hb1 | (have h := hb1; simpa using h)))⟩
    | 1 => simp at hx hy; subst hx hy; exact ⟨E1, hS1, (hl1.mono (From.le (by first | exact Nat.le_refl _ | omega | (simp; omega) | (have := Below.size HZ1; simp; omega) | (have := Below.size HZ0; simp at this ⊢; omega))))⟩
    | _ + 2 => simp at hx

set_option maxRecDepth 100000 in
set_option maxHeartbeats 2000000 in
theorem nd_3 (d : Nat) (hN : NodeC d) (e : Nat) (A : Nat → Prop) (n : Nd) (b : Nat) (w : World) (hG : PreD (e + 1) n) (hW : WfN n) (hR : RepD A (d + 1) w n b) (hk : n.kind = 3) (hm : (n.kid 0).kind ≠ 0) :
    Calls Tryz.prog 36 #[.iface (pTy n.kind) (.pointer (some ⟨b, 0, none⟩))] w (NodePost n w) := by
  obtain ⟨k, t, m, u, ao, cap, kids⟩ := n
  obtain rfl : k = 3 := hk
  have hn0 : (Nd.mk 3 t m u ao cap kids).kind ≠ 0 := by show (3 : Int) ≠ 0; decide
  have hn1 : (Nd.mk 3 t m u ao cap kids).kind ≠ 1 := by show (3 : Int) ≠ 1; decide
  have hPl := (hG.fit hn0).2.2.1
  have HWF := Lib.hid hW.wf
  obtain rfl : u = 0 := hPl.2.1 (show hasNum 3 = false by decide)
  have hln : kids.length = 3 := by
    have h1 := ((hG.fit hn0).2.2.2.1 hn1)
    have e1 : (fixedL 3).length = 3 := by decide
    have e2 : restL 3 = 28 := by decide
    simp only [Nd.kind, Nd.kids] at h1
    rw [e1, e2] at h1
    omega
  obtain ⟨x0, x1, x2, rfl⟩ : ∃ x0 x1 x2, kids = [x0, x1, x2] := kids3 (n := Nd.mk 3 t m 0 ao cap kids) hln
  obtain ⟨hP0, hC0⟩ := hG.kid (i := 0) (x := x0) hn0 rfl
  obtain ⟨hP1, hC1⟩ := hG.kid (i := 1) (x := x1) hn0 rfl
  obtain ⟨hP2, hC2⟩ := hG.kid (i := 2) (x := x2) hn0 rfl
  obtain ⟨e1, rfl⟩ := hP1.pos
  have hx0 : x0.kind ≠ 0 := hm
  have hf0 : x0.kind ∈ ([4, 0] : List Int) := class_few [4, 0] rfl (hC0 hn1)
  have hk0 : x0.kind = 4 := by
    have h := hf0
    simp at h
    omega
  have HG0 := Lib.hid (show GoodW (e1 + 1) x0 from ⟨hP0.good (by rw [hk0]; decide), hW.kid (i := 0) rfl⟩)
  have HK0 := Lib.hid hk0
  obtain ⟨hk1, hkk1⟩ := class_17 (hC1 hn1)
  have hks1 : ∀ x ∈ x1.kids, GoodW e1 x ∧ x.kind = 5 := by
    intro x hx
    obtain ⟨i, hi, ei⟩ := List.mem_iff_getElem.1 hx
    have hp := list_good hP1 hk1 x hx
    have hkx := hkk1 x hx
    exact ⟨⟨hp.good (by rw [hkx]; decide), (hW.kid (i := 1) rfl).kid (i := i) (by rw [List.getElem?_eq_getElem hi, ei])⟩, hkx⟩
  have HKS1 := Lib.hid hks1
  have HSM1 := Lib.hid (show x1.kids.length ≤ 1000 from by have := hP1.small; omega)
  have HP1 := Lib.hid hP1
  have HK1 := Lib.hid hk1
  have HW1 := Lib.hid (hW.kid (i := 1) (x := x1) rfl)
  obtain ⟨hk2, hkk2⟩ := class_18 (hC2 hn1)
  have hks2 : ∀ x ∈ x2.kids, GoodW e1 x ∧ x.kind ∈ ([7, 8, 9, 10, 11, 12, 14, 15] : List Int) := by
    intro x hx
    obtain ⟨i, hi, ei⟩ := List.mem_iff_getElem.1 hx
    have hp := list_good hP2 hk2 x hx
    have hkx := stmt_of hp (hkk2 x hx)
    exact ⟨⟨hp.good (stmt_walk hkx), (hW.kid (i := 2) rfl).kid (i := i) (by rw [List.getElem?_eq_getElem hi, ei])⟩, hkx⟩
  have HKS2 := Lib.hid hks2
  have HSM2 := Lib.hid (show x2.kids.length ≤ 1000 from by have := hP2.small; omega)
  have HP2 := Lib.hid hP2
  have HK2 := Lib.hid hk2
  have HW2 := Lib.hid (hW.kid (i := 2) (x := x2) rfl)
  obtain ⟨hA, cs, hb, hs⟩ := hR
  rw [slots_3 _ rfl] at hs
  match cs, hs with
  | [v0, v1, v2, v3, v4, v5, v6, v7, v8], ⟨e0z, e1z, e2z, e3z, e4z, e5z, e6z, e7z, e8z, _⟩ =>
    have c3 : w.cell? ⟨b, 3, none⟩ = some (.string t) := by rw [Lib.cell_of_heap hb]; exact congrArg some e3z
    have c4 : w.cell? ⟨b, 4, none⟩ = some (.string m) := by rw [Lib.cell_of_heap hb]; exact congrArg some e4z
    obtain ⟨b0, rfl, hR0⟩ : PtrTo (RepD A d) w x0 v5 := by
      rcases e5z with e | e
      · exact absurd e.1 hx0
      · exact e.2
    have HR0 := Lib.hid hR0
    have c5 : w.cell? ⟨b, 5, none⟩ = some (.pointer (some ⟨b0, 0, none⟩)) := by rw [Lib.cell_of_heap hb]; rfl
    obtain ⟨ao1, cap1, hv1, hHL1⟩ := HeldList.of (ptr := true) (R := RepD A d) (ns := x1.kids) (v := v6) (w := w) (A := A) e6z
    subst hv1
    have HHL1 := Lib.hid hHL1
    have c6 : w.cell? ⟨b, 6, none⟩ = some (.slice ao1 x1.kids.length cap1) := by rw [Lib.cell_of_heap hb]; rfl
    obtain ⟨ao2, cap2, hv2, hHL2⟩ := HeldList.of (ptr := false) (R := RepD A d) (ns := x2.kids) (v := v7) (w := w) (A := A) e7z
    subst hv2
    have HHL2 := Lib.hid hHL2
    have c7 : w.cell? ⟨b, 7, none⟩ = some (.slice ao2 x2.kids.length cap2) := by rw [Lib.cell_of_heap hb]; rfl
    have hblt : b < w.heap.size := World.block_lt_of_cell? _ _ c5
    have hbne : ¬ b = w.heap.size := by omega
    have hbne2 : ¬ w.heap.size = b := by omega
    rw [show pTy (Nd.kind (.mk 3 t m 0 ao cap [x0, x1, x2])) = 80 from ptrTy_3]
    clear hn0 hn1 hPl hln hG hW hA hb hP0 hC0 hP1 hC1 hP2 hC2 hk1 hkk1 hks1 hHL1 hk2 hkk2 hks2 hHL2
    have q2 := no_2 80 (by decide)
    have q3 := yes_3
    go_enter Tryz.func36, Tryz.ntmps36
    go_wp2_with fail
    go_region_held3 (fun w' => (w'.cell? ⟨b, 3, none⟩ = some (.string t) ∧ w'.cell? ⟨b, 4, none⟩ = some (.string m) ∧ w'.cell? ⟨b, 5, none⟩ = some (.pointer (some ⟨b0, 0, none⟩)) ∧ w'.cell? ⟨b, 6, none⟩ = some (.slice ao1 x1.kids.length cap1) ∧ w'.cell? ⟨b, 7, none⟩ = some (.slice ao2 x2.kids.length cap2))) (go_keep) (first | (go_at_call 90; refine (orNone_4 d hN (e1 + 1) A x0 b0 _ HG0.out (by first | exact HR0.out.below ((Below.refl _ _).alloc (Nat.le_refl _) _) | exact HR0.out.below (Below.drew ((Below.refl _ _).alloc (Nat.le_refl _) _))) HK0.out).mono ?_; rintro e c0w ⟨E0, m0, rfl, hS0, hl0, hb0⟩; have HZ0 : Below (w.alloc zN).heap.size (w.alloc zN) c0w := (by first | exact hb0 | exact (Below.drew (Below.refl _ _)).trans (hb0.mono (by simp))); have HY0 : Below w.heap.size w c0w := ((Below.refl w.heap.size w).alloc (Nat.le_refl _) zN).trans (HZ0.mono (by simp)); have hz0 : w.heap.size < c0w.heap.size := (by have := Below.size HZ0; (try simp at this); omega); obtain ⟨kb0, -⟩ := bblk hb0 (b := b) (by first | omega | (simp; omega)); obtain ⟨ka0, fa0⟩ := bblk hb0 (b := w.heap.size) (by first | omega | (simp; done) | (simp; omega))) | (go_at_call 91; refine (listImportDeclaration d hN e1 A x1.kids ao1 cap1 _ HSM1.out (by first | exact HHL1.out.below HY0 | exact HHL1.out.below (Below.drew HY0)) HKS1.out).mono ?_; rintro e c1w ⟨D1, aq1, capq1, ms1, rfl, hlm1, hsm1, hli1, hb1⟩; have HZ1 : Below (w.alloc zN).heap.size (w.alloc zN) c1w := (by first | exact Below.trans HZ0 (hb1.mono (Below.size HZ0)) | exact Below.trans (Below.drew HZ0) (hb1.mono (by have := Below.size HZ0; simpa using this))); have HY1 : Below w.heap.size w c1w := ((Below.refl w.heap.size w).alloc (Nat.le_refl _) zN).trans (HZ1.mono (by simp)); have hz1 : w.heap.size < c1w.heap.size := (by have := Below.size HZ1; (try simp at this); omega); obtain ⟨kb1, -⟩ := bblk hb1 (b := b) (by first | omega | (simp; omega)); obtain ⟨ka1, fa1⟩ := bblk hb1 (b := w.heap.size) (by first | omega | (simp; done) | (simp; omega)); have HLM1 := Lib.hid hlm1; have HSS1 := Lib.hid hsm1; have HLI1 := Lib.hid hli1; clear hlm1 hsm1 hli1) | (go_at_call 92; refine (listStatement d hN e1 A x2.kids ao2 cap2 _ HSM2.out (by first | exact HHL2.out.below HY1 | exact HHL2.out.below (Below.drew HY1)) HKS2.out).mono ?_; rintro e c2w ⟨D2, aq2, capq2, ms2, rfl, hlm2, hsm2, hli2, hb2⟩; have HZ2 : Below (w.alloc zN).heap.size (w.alloc zN) c2w := (by first | exact Below.trans HZ1 (hb2.mono (Below.size HZ1)) | exact Below.trans (Below.drew HZ1) (hb2.mono (by have := Below.size HZ1; simpa using this))); have HY2 : Below w.heap.size w c2w := ((Below.refl w.heap.size w).alloc (Nat.le_refl _) zN).trans (HZ2.mono (by simp)); have hz2 : w.heap.size < c2w.heap.size := (by have := Below.size HZ2; (try simp at this); omega); obtain ⟨kb2, -⟩ := bblk hb2 (b := b) (by first | omega | (simp; omega)); obtain ⟨ka2, fa2⟩ := bblk hb2 (b := w.heap.size) (by first | omega | (simp; done) | (simp; omega)); have HLM2 := Lib.hid hlm2; have HSS2 := Lib.hid hsm2; have HLI2 := Lib.hid hli2; clear hlm2 hsm2 hli2))
    go_wp2_with fail
    rw [← HLM1.out]
    rw [← HLM2.out]
    refine bodyPost_ret (v := .agg #[.int .i64 3, .string t, .string m, .int .u64 0, .slice (some ⟨c2w.heap.size, 0, none⟩) 3 3]) (by simp [results, Tryz.f36, go_sem, ka0, hz0, Nat.ne_of_lt hz0, ka1, hz1, Nat.ne_of_lt hz1, ka2, hz2, Nat.ne_of_lt hz2]) rfl (NodePost.stored2 _ _ _ _ _ HZ2 (back_fin [m0, (.mk 1 ⟨#[]⟩ ⟨#[]⟩ 0 aq1 capq1 ms1), (.mk 1 ⟨#[]⟩ ⟨#[]⟩ 0 aq2 capq2 ms2)] rfl HWF.out HZ2 rfl ?_))
    intro i x y hx hy
    match i with
    | 0 => simp at hx hy; subst hx hy; exact ⟨E0, hS0, (((hl0.mono (From.le (by first | exact Nat.le_refl _ | omega | (simp; omega) | (have := Below.size HZ0; simp; omega) | (have := Below.size HZ0; simp at this ⊢; omega)))).below (by first | exact hb1 | (have h := hb1; simpa using h))).below (by first | exact hb2 | (have h := hb2; simpa using h)))⟩
    | 1 => simp at hx hy; subst hx hy; exact ⟨D1 + 1, (list_node (cap := capq1) HP1.out HK1.out HW1.out HLM1.out HSS1.out HLI1.out).1, (((list_node (cap := capq1) HP1.out HK1.out HW1.out HLM1.out HSS1.out HLI1.out).2.mono (From.le (by first | exact Nat.le_refl _ | omega | (simp; omega) | (have := Below.size HZ1; simp; omega) | (have := Below.size HZ0; simp at this ⊢; omega)))).below (by first | exact hb2 | (have h := hb2; simpa using h)))⟩
    | 2 => simp at hx hy; subst hx hy; exact ⟨D2 + 1, (list_node (cap := capq2) HP2.out HK2.out HW2.out HLM2.out HSS2.out HLI2.out).1, ((list_node (cap := capq2) HP2.out HK2.out HW2.out HLM2.out HSS2.out HLI2.out).2.mono (From.le (by first | exact Nat.le_refl _ | omega | (simp; omega) | (have := Below.size HZ2; simp; omega) | (have := Below.size HZ1; simp at this ⊢; omega))))⟩
    | _ + 3 => simp at hx

set_option maxRecDepth 100000 in
set_option maxHeartbeats 2000000 in
theorem nd_3_none (d : Nat) (hN : NodeC d) (e : Nat) (A : Nat → Prop) (n : Nd) (b : Nat) (w : World) (hG : PreD (e + 1) n) (hW : WfN n) (hR : RepD A (d + 1) w n b) (hk : n.kind = 3) (hm : (n.kid 0).kind = 0) :
    Calls Tryz.prog 36 #[.iface (pTy n.kind) (.pointer (some ⟨b, 0, none⟩))] w (NodePost n w) := by
  obtain ⟨k, t, m, u, ao, cap, kids⟩ := n
  obtain rfl : k = 3 := hk
  have hn0 : (Nd.mk 3 t m u ao cap kids).kind ≠ 0 := by show (3 : Int) ≠ 0; decide
  have hn1 : (Nd.mk 3 t m u ao cap kids).kind ≠ 1 := by show (3 : Int) ≠ 1; decide
  have hPl := (hG.fit hn0).2.2.1
  have HWF := Lib.hid hW.wf
  obtain rfl : u = 0 := hPl.2.1 (show hasNum 3 = false by decide)
  have hln : kids.length = 3 := by
    have h1 := ((hG.fit hn0).2.2.2.1 hn1)
    have e1 : (fixedL 3).length = 3 := by decide
    have e2 : restL 3 = 28 := by decide
    simp only [Nd.kind, Nd.kids] at h1
    rw [e1, e2] at h1
    omega
  obtain ⟨x0, x1, x2, rfl⟩ : ∃ x0 x1 x2, kids = [x0, x1, x2] := kids3 (n := Nd.mk 3 t m 0 ao cap kids) hln
  obtain ⟨hP0, hC0⟩ := hG.kid (i := 0) (x := x0) hn0 rfl
  obtain ⟨hP1, hC1⟩ := hG.kid (i := 1) (x := x1) hn0 rfl
  obtain ⟨hP2, hC2⟩ := hG.kid (i := 2) (x := x2) hn0 rfl
  obtain ⟨e1, rfl⟩ := hP1.pos
  have hx0 : x0.kind = 0 := hm
  have HX0 := Lib.hid (And.intro hx0 (hP0.none0 hx0))
  obtain ⟨hk1, hkk1⟩ := class_17 (hC1 hn1)
  have hks1 : ∀ x ∈ x1.kids, GoodW e1 x ∧ x.kind = 5 := by
    intro x hx
    obtain ⟨i, hi, ei⟩ := List.mem_iff_getElem.1 hx
    have hp := list_good hP1 hk1 x hx
    have hkx := hkk1 x hx
    exact ⟨⟨hp.good (by rw [hkx]; decide), (hW.kid (i := 1) rfl).kid (i := i) (by rw [List.getElem?_eq_getElem hi, ei])⟩, hkx⟩
  have HKS1 := Lib.hid hks1
  have HSM1 := Lib.hid (show x1.kids.length ≤ 1000 from by have := hP1.small; omega)
  have HP1 := Lib.hid hP1
  have HK1 := Lib.hid hk1
  have HW1 := Lib.hid (hW.kid (i := 1) (x := x1) rfl)
  obtain ⟨hk2, hkk2⟩ := class_18 (hC2 hn1)
  have hks2 : ∀ x ∈ x2.kids, GoodW e1 x ∧ x.kind ∈ ([7, 8, 9, 10, 11, 12, 14, 15] : List Int) := by
    intro x hx
    obtain ⟨i, hi, ei⟩ := List.mem_iff_getElem.1 hx
    have hp := list_good hP2 hk2 x hx
    have hkx := stmt_of hp (hkk2 x hx)
    exact ⟨⟨hp.good (stmt_walk hkx), (hW.kid (i := 2) rfl).kid (i := i) (by rw [List.getElem?_eq_getElem hi, ei])⟩, hkx⟩
  have HKS2 := Lib.hid hks2
  have HSM2 := Lib.hid (show x2.kids.length ≤ 1000 from by have := hP2.small; omega)
  have HP2 := Lib.hid hP2
  have HK2 := Lib.hid hk2
  have HW2 := Lib.hid (hW.kid (i := 2) (x := x2) rfl)
  obtain ⟨hA, cs, hb, hs⟩ := hR
  rw [slots_3 _ rfl] at hs
  match cs, hs with
  | [v0, v1, v2, v3, v4, v5, v6, v7, v8], ⟨e0z, e1z, e2z, e3z, e4z, e5z, e6z, e7z, e8z, _⟩ =>
    have c3 : w.cell? ⟨b, 3, none⟩ = some (.string t) := by rw [Lib.cell_of_heap hb]; exact congrArg some e3z
    have c4 : w.cell? ⟨b, 4, none⟩ = some (.string m) := by rw [Lib.cell_of_heap hb]; exact congrArg some e4z
    obtain rfl : v5 = .pointer none := by
      rcases e5z with e | e
      · exact e.2
      · exact absurd hx0 e.1
    have c5 : w.cell? ⟨b, 5, none⟩ = some (.pointer none) := by rw [Lib.cell_of_heap hb]; rfl
    obtain ⟨ao1, cap1, hv1, hHL1⟩ := HeldList.of (ptr := true) (R := RepD A d) (ns := x1.kids) (v := v6) (w := w) (A := A) e6z
    subst hv1
    have HHL1 := Lib.hid hHL1
    have c6 : w.cell? ⟨b, 6, none⟩ = some (.slice ao1 x1.kids.length cap1) := by rw [Lib.cell_of_heap hb]; rfl
    obtain ⟨ao2, cap2, hv2, hHL2⟩ := HeldList.of (ptr := false) (R := RepD A d) (ns := x2.kids) (v := v7) (w := w) (A := A) e7z
    subst hv2
    have HHL2 := Lib.hid hHL2
    have c7 : w.cell? ⟨b, 7, none⟩ = some (.slice ao2 x2.kids.length cap2) := by rw [Lib.cell_of_heap hb]; rfl
    have hblt : b < w.heap.size := World.block_lt_of_cell? _ _ c5
    have hbne : ¬ b = w.heap.size := by omega
    have hbne2 : ¬ w.heap.size = b := by omega
    rw [show pTy (Nd.kind (.mk 3 t m 0 ao cap [x0, x1, x2])) = 80 from ptrTy_3]
    clear hn0 hn1 hPl hln hG hW hA hb hP0 hC0 hP1 hC1 hP2 hC2 hk1 hkk1 hks1 hHL1 hk2 hkk2 hks2 hHL2
    have q2 := no_2 80 (by decide)
    have q3 := yes_3
    go_enter Tryz.func36, Tryz.ntmps36
    go_wp2_with fail
    go_region_held3 (fun w' => (w'.cell? ⟨b, 3, none⟩ = some (.string t) ∧ w'.cell? ⟨b, 4, none⟩ = some (.string m) ∧ w'.cell? ⟨b, 5, none⟩ = some (.pointer none) ∧ w'.cell? ⟨b, 6, none⟩ = some (.slice ao1 x1.kids.length cap1) ∧ w'.cell? ⟨b, 7, none⟩ = some (.slice ao2 x2.kids.length cap2))) (go_keep) (first | (go_at_call 90; refine (orNone_4_none _).mono ?_; rintro e c0w ⟨rfl, hb0⟩; have HZ0 : Below (w.alloc zN).heap.size (w.alloc zN) c0w := (by first | exact hb0 | exact (Below.drew (Below.refl _ _)).trans (hb0.mono (by simp))); have HY0 : Below w.heap.size w c0w := ((Below.refl w.heap.size w).alloc (Nat.le_refl _) zN).trans (HZ0.mono (by simp)); have hz0 : w.heap.size < c0w.heap.size := (by have := Below.size HZ0; (try simp at this); omega); obtain ⟨kb0, -⟩ := bblk hb0 (b := b) (by first | omega | (simp; omega)); obtain ⟨ka0, fa0⟩ := bblk hb0 (b := w.heap.size) (by first | omega | (simp; done) | (simp; omega))) | (go_at_call 91; refine (listImportDeclaration d hN e1 A x1.kids ao1 cap1 _ HSM1.out (by first | exact HHL1.out.below HY0 | exact HHL1.out.below (Below.drew HY0)) HKS1.out).mono ?_; rintro e c1w ⟨D1, aq1, capq1, ms1, rfl, hlm1, hsm1, hli1, hb1⟩; have HZ1 : Below (w.alloc zN).heap.size (w.alloc zN) c1w := (by first | exact Below.trans HZ0 (hb1.mono (Below.size HZ0)) | exact Below.trans (Below.drew HZ0) (hb1.mono (by have := Below.size HZ0; simpa using this))); have HY1 : Below w.heap.size w c1w := ((Below.refl w.heap.size w).alloc (Nat.le_refl _) zN).trans (HZ1.mono (by simp)); have hz1 : w.heap.size < c1w.heap.size := (by have := Below.size HZ1; (try simp at this); omega); obtain ⟨kb1, -⟩ := bblk hb1 (b := b) (by first | omega | (simp; omega)); obtain ⟨ka1, fa1⟩ := bblk hb1 (b := w.heap.size) (by first | omega | (simp; done) | (simp; omega)); have HLM1 := Lib.hid hlm1; have HSS1 := Lib.hid hsm1; have HLI1 := Lib.hid hli1; clear hlm1 hsm1 hli1) | (go_at_call 92; refine (listStatement d hN e1 A x2.kids ao2 cap2 _ HSM2.out (by first | exact HHL2.out.below HY1 | exact HHL2.out.below (Below.drew HY1)) HKS2.out).mono ?_; rintro e c2w ⟨D2, aq2, capq2, ms2, rfl, hlm2, hsm2, hli2, hb2⟩; have HZ2 : Below (w.alloc zN).heap.size (w.alloc zN) c2w := (by first | exact Below.trans HZ1 (hb2.mono (Below.size HZ1)) | exact Below.trans (Below.drew HZ1) (hb2.mono (by have := Below.size HZ1; simpa using this))); have HY2 : Below w.heap.size w c2w := ((Below.refl w.heap.size w).alloc (Nat.le_refl _) zN).trans (HZ2.mono (by simp)); have hz2 : w.heap.size < c2w.heap.size := (by have := Below.size HZ2; (try simp at this); omega); obtain ⟨kb2, -⟩ := bblk hb2 (b := b) (by first | omega | (simp; omega)); obtain ⟨ka2, fa2⟩ := bblk hb2 (b := w.heap.size) (by first | omega | (simp; done) | (simp; omega)); have HLM2 := Lib.hid hlm2; have HSS2 := Lib.hid hsm2; have HLI2 := Lib.hid hli2; clear hlm2 hsm2 hli2))
    go_wp2_with fail
    rw [← HLM1.out]
    rw [← HLM2.out]
    refine bodyPost_ret (v := .agg #[.int .i64 3, .string t, .string m, .int .u64 0, .slice (some ⟨c2w.heap.size, 0, none⟩) 3 3]) (by simp [results, Tryz.f36, go_sem, ka0, hz0, Nat.ne_of_lt hz0, ka1, hz1, Nat.ne_of_lt hz1, ka2, hz2, Nat.ne_of_lt hz2]) rfl (NodePost.stored2 _ _ _ _ _ HZ2 (back_fin [Nd.none, (.mk 1 ⟨#[]⟩ ⟨#[]⟩ 0 aq1 capq1 ms1), (.mk 1 ⟨#[]⟩ ⟨#[]⟩ 0 aq2 capq2 ms2)] rfl HWF.out HZ2 rfl ?_))
    intro i x y hx hy
    match i with
    | 0 => simp at hx hy; subst hx hy; exact ⟨1, none_same HX0.out.1 HX0.out.2, none_lies _ _⟩
    | 1 => simp at hx hy; subst hx hy; exact ⟨D1 + 1, (list_node (cap := capq1) HP1.out HK1.out HW1.out HLM1.out HSS1.out HLI1.out).1, (((list_node (cap := capq1) HP1.out HK1.out HW1.out HLM1.out HSS1.out HLI1.out).2.mono (From.le (by first | exact Nat.le_refl _ | omega | (simp; omega) | (have := Below.size HZ1; simp; omega) | (have := Below.size HZ0; simp at this ⊢; omega)))).below (by first | exact hb2 | (have h := hb2; simpa using h)))⟩
    | 2 => simp at hx hy; subst hx hy; exact ⟨D2 + 1, (list_node (cap := capq2) HP2.out HK2.out HW2.out HLM2.out HSS2.out HLI2.out).1, ((list_node (cap := capq2) HP2.out HK2.out HW2.out HLM2.out HSS2.out HLI2.out).2.mono (From.le (by first | exact Nat.le_refl _ | omega | (simp; omega) | (have := Below.size HZ2; simp; omega) | (have := Below.size HZ1; simp at this ⊢; omega))))⟩
    | _ + 3 => simp at hx

end Go.Proofs.YtongafghllkomaaGreatDoor

namespace Go.Proofs.YtongafghllkomaaGreatDoor
open Go.RowKit
set_option linter.unusedVariables false
set_option linter.unusedSimpArgs false

/-- A slice of durations, cell by cell. -/
def HeldDurs (w : World) (ao : Option Addr) (ns : List Nd) : Prop :=
  ∀ (j : Nat) (n : Nd), ns[j]? = some n → ∃ g, ao = some ⟨g, 0, none⟩ ∧ w.cell? ⟨g, j * 2, none⟩ = some (.int .i64 (wrap64 n.num)) ∧ w.cell? ⟨g, j * 2 + 1, none⟩ = some (.string n.text)

theorem HeldDurs.of {A : Nat → Prop} {w : World} {v : Value} {ns : List Nd} (h : CellsAre A w v ns.length 2 (fun i cur => ∀ n, ns[i]? = some n → cur[2 * i]? = some (.int .i64 (wrap64 n.num)) ∧ cur[2 * i + 1]? = some (.string n.text))) :
    ∃ ao cap, v = .slice ao ns.length cap ∧ HeldDurs w ao ns := by
  rcases h with ⟨h0, rfl⟩ | ⟨g, cap, cur, e, -, rfl, hg, -, -, -, hP⟩
  · exact ⟨none, 0, by rw [h0], fun j n hn => by have := (List.getElem?_eq_some_iff.1 hn).1; omega⟩
  · refine ⟨_, cap, rfl, fun j n hn => ?_⟩
    obtain ⟨h1, h2⟩ := hP j (List.getElem?_eq_some_iff.1 hn).1 n hn
    exact ⟨g, rfl, by rw [Lib.cell_of_heap hg, Nat.mul_comm]; exact h1, by rw [Lib.cell_of_heap hg, Nat.mul_comm]; exact h2⟩

theorem HeldDurs.below {w w' : World} {ao : Option Addr} {ns : List Nd} (h : HeldDurs w ao ns) (hb : Below w.heap.size w w') : HeldDurs w' ao ns := by
  intro j n hn
  obtain ⟨g, h1, h2, h3⟩ := h j n hn
  exact ⟨g, h1, (hb.cell (World.block_lt_of_cell? _ _ h2)).trans h2, (hb.cell (World.block_lt_of_cell? _ _ h3)).trans h3⟩

/-- A magnitude, as a plain node. -/
def magN (x : Nd) : Nd := .mk 40 x.text ⟨#[]⟩ x.num none 0 []
theorem mag_same {x : Nd} (h : x.kind = 40 ∧ x.more = ⟨#[]⟩ ∧ x.kids = []) : SameD 1 x (magN x) :=
  ⟨h.1, rfl, h.2.1, rfl, by rw [h.2.2]; rfl, fun i a b ha _ => by rw [h.2.2] at ha; simp at ha⟩
theorem mag_lies {A : Nat → Prop} {w : World} {x : Nd} (h : WfN x) : LiesIn A 1 w (magN x) :=
  ⟨⟨h.wf.1, show (ByteArray.mk #[]).size ≤ maxLen by decide, by simp [magN, Nd.kids], h.wf.2.2.2.1, h.wf.2.2.2.2.1, show (-9223372036854775808 : Int) ≤ 40 by decide, show (40 : Int) ≤ 9223372036854775807 by decide⟩, fun i y hy => by have : ([] : List Nd)[i]? = some y := hy; simp at this⟩

set_option maxRecDepth 100000 in
set_option maxHeartbeats 1000000 in
theorem mags (ns : List Nd) (ao : Option Addr) (cap : Nat) (w : World) (hlen4 : ns.length ≤ 1000) (hL : HeldDurs w ao ns) (hk : ∀ x ∈ ns, (x.kind = 40 ∧ x.more = ⟨#[]⟩ ∧ x.kids = []) ∧ WfN x) :
    Calls Tryz.prog 106 #[.slice ao ns.length cap] w (BackPost ns w) := by
  obtain ⟨len, hlen⟩ : ∃ len, ns.length = len := ⟨_, rfl⟩
  rw [hlen] at hlen4 ⊢
  obtain ⟨i0, hi, hz0, hz1, hz2⟩ := info_parts infoNode
  have HN := Lib.hid hlen
  have HL := Lib.hid hL
  have HK := Lib.hid hk
  clear hlen hL hk
  go_enter Tryz.func106, Tryz.ntmps106
  go_wp2_with fail
  go_loopg [3, 8] len (fun gk out i wr => ∃ (j : Nat) (ao' : Option Addr) (cap' : Nat), j ≤ len ∧ gk = len - j ∧ i = .int .i64 (j : Int) ∧ out = .slice ao' j cap' ∧ Hid (BackOk w.heap.size ns j (.slice ao' j cap') wr) ∧ Hid (Below w.heap.size w wr))
  case atStart => exact ⟨0, none, 0, by omega, by omega, rfl, rfl, Lib.hid (BackOk.start _ _ _), Lib.hid (Below.refl _ _)⟩
  case round =>
    obtain ⟨j, ao', cap', hj, rfl, rfl, rfl, hO, hB⟩ := hrel
    by_cases hjn : j < len
    · have hjz : (j : Int) < (len : Int) := by omega
      obtain ⟨x, hx⟩ : ∃ x, ns[j]? = some x := ⟨ns[j]'(by have := HN.out; omega), List.getElem?_eq_getElem _⟩
      obtain ⟨g0, rfl, hc0, hc1⟩ := HL.out j x hx
      have c0 : wr.cell? ⟨g0, j * 2, none⟩ = some (.int .i64 (wrap64 x.num)) := (hB.out.cell (World.block_lt_of_cell? _ _ hc0)).trans hc0
      have c1 : wr.cell? ⟨g0, j * 2 + 1, none⟩ = some (.string x.text) := (hB.out.cell (World.block_lt_of_cell? _ _ hc1)).trans hc1
      have HX := Lib.hid hx
      have HKX := Lib.hid (HK.out x (List.mem_of_getElem? hx))
      have hu1 : 0 ≤ x.num := HKX.out.2.wf.2.2.2.1
      have hu2 : x.num < 18446744073709551616 := HKX.out.2.wf.2.2.2.2.1
      have hwr : IntKind.u64.wrap (wrap64 x.num) = x.num := by simp only [IntKind.wrap, IntKind.bits, IntKind.signed]; unfold wrap64; simp; omega
      have hBs : w.heap.size ≤ wr.heap.size := hB.out.size
      clear hx hc0 hc1
      have HBa := Lib.hid ((Below.refl wr.heap.size wr).alloc (Nat.le_refl _) (.cells #[.int .i64 (wrap64 x.num), .string x.text] 302))
      have HO1 := Lib.hid (hO.out.below HBa.out)
      have HBw := Lib.hid (hB.out.trans (HBa.out.mono hBs))
      obtain ⟨D, ms, hown, -⟩ := HO1.out
      have HOW0 := Lib.hid hown
      have HOW := Lib.hid (hown.alloc (.cells (magN x).cells5.toArray 25))
      clear hown
      go_wp2_with (at_builtin; refine wpList_append_lies _ rfl _ _ 23 rfl w.heap.size 25 i0 _ 5 72 undNodes hi hz0 hz1 hz2 rfl (by decide) _ _ _ rfl HOW.out ⟨wr.heap.size + 1, 0, none⟩ 1 1 (magN x).cells5 rfl rfl ?c1 ?c2 (by decide) ?c3 ?c4 ?c5 _ rfl ?_)
      case c1 =>
        have := news5 (wr.alloc (.cells #[.int .i64 (wrap64 x.num), .string x.text] 302)) (magN x) 25
        rw [show (wr.alloc (.cells #[.int .i64 (wrap64 x.num), .string x.text] 302)).heap.size = wr.heap.size + 1 by simp] at this
        exact this
      case c2 => intro u hu; simp [Nd.cells5] at hu; rcases hu with rfl | rfl | rfl | rfl | rfl <;> rfl
      case c3 => unfold maxLen; omega
      case c4 => omega
      case c5 => simp; omega
      intro g cap2 w2 hown' hgrow hat hglt
      have HO2 := Lib.hid (BackOk.next HO1.out HX.out (mag_same HKX.out.1) (mag_lies HKX.out.2) HOW0.out hown' rfl hgrow (hat.imp id (fun h => by simpa using h)))
      have HB2 := Lib.hid ((HBw.out.alloc HBw.out.size _).grown hgrow (by simp; omega) (by
        intro k hk
        exact (World.ownsRow.lt HOW0.out k hk).1))
      clear hown' hgrow hat
      go_wp2_with fail
      go_roundg (len - (j + 1))
      case measure => omega
      case rel => exact ⟨j + 1, some ⟨g, 0, none⟩, cap2, by omega, rfl, by push_cast; rfl, rfl, HO2, HB2⟩
    · have hjz : ¬ (j : Int) < (len : Int) := by omega
      obtain rfl : j = len := by omega
      go_wp2_with fail
      go_ret
      have hl := HN.out
      have hO2 := hO.out
      rw [← hl] at hO2
      obtain ⟨D, ao2, cap2, ms, he, h1, h2, h3⟩ := hO2.done
      rw [hl] at he h1
      cases he
      unfold BackPost
      rw [hl]
      exact ⟨D, _, _, ms, rfl, h1, h2, h3, hB.out⟩

set_option maxRecDepth 100000 in
set_option maxHeartbeats 2000000 in
theorem nd_39 (d : Nat) (hN : NodeC d) (e : Nat) (A : Nat → Prop) (n : Nd) (b : Nat) (w : World) (hG : PreD (e + 1) n) (hW : WfN n) (hR : RepD A (d + 1) w n b) (hk : n.kind = 39) :
    Calls Tryz.prog 36 #[.iface (pTy n.kind) (.pointer (some ⟨b, 0, none⟩))] w (NodePost n w) := by
  obtain ⟨k, t, m, u, ao, cap, kids⟩ := n
  obtain rfl : k = 39 := hk
  have hn0 : (Nd.mk 39 t m u ao cap kids).kind ≠ 0 := by show (39 : Int) ≠ 0; decide
  have hn1 : (Nd.mk 39 t m u ao cap kids).kind ≠ 1 := by show (39 : Int) ≠ 1; decide
  have hPl := (hG.fit hn0).2.2.1
  have HWF := Lib.hid hW.wf
  obtain rfl : t = ⟨#[]⟩ := hPl.1 (show hasText 39 = false by decide)
  obtain rfl : u = 0 := hPl.2.1 (show hasNum 39 = false by decide)
  obtain rfl : m = ⟨#[]⟩ := hPl.2.2.1 (show (39 : Int) ≠ 2 by decide) (show (39 : Int) ≠ 3 by decide)
  have hks : ∀ x ∈ kids, (x.kind = 40 ∧ x.more = ⟨#[]⟩ ∧ x.kids = []) ∧ WfN x := by
    intro x hx
    obtain ⟨i, hi, e1⟩ := List.mem_iff_getElem.1 hx
    have hx2 : kids[i]? = some x := by rw [List.getElem?_eq_getElem hi, e1]
    obtain ⟨hP, hC⟩ := hG.kid (i := i) (x := x) hn0 hx2
    have hC1 := hC hn1
    have e1 : (fixedL 39).getD i (restL 39) = restL 39 := by rw [show fixedL 39 = [] from by decide]; simp
    have hC2 : ofClassB x (restL 39) = true := by rw [← e1]; exact hC1
    have hkx : x.kind ∈ ([40] : List Int) := class_few [40] rfl hC2
    have hk40 : x.kind = 40 := by simpa using hkx
    obtain ⟨e2, rfl⟩ := hP.pos
    have hF := hP.fit (by omega)
    have h1 := hF.2.2.2.1 (by omega)
    rw [hk40, show (fixedL 40).length = 0 from by decide, show restL 40 = 28 from by decide] at h1
    exact ⟨⟨hk40, hF.2.2.1.2.2.1 (by omega) (by omega), List.eq_nil_of_length_eq_zero (by omega)⟩, hW.kid (i := i) hx2⟩
  have hsm : kids.length ≤ 1000 := by have := hG.small; simp only [Nd.kids] at this; omega
  have HKS := Lib.hid hks
  have HSM := Lib.hid hsm
  obtain ⟨hA, cs, hb, hs⟩ := hR
  rw [slots_39 _ rfl] at hs
  match cs, hs with
  | [v0, v1, v2, v3], ⟨e0, e1, e2, e3, _⟩ =>
    obtain ⟨ao2, cap2, hv, hHL⟩ := HeldDurs.of (ns := kids) (v := v3) (w := w) (A := A) e3
    subst hv
    have HHL := Lib.hid hHL
    have c3 : w.cell? ⟨b, 3, none⟩ = some (.slice ao2 kids.length cap2) := by rw [Lib.cell_of_heap hb]; rfl
    have hblt : b < w.heap.size := World.block_lt_of_cell? _ _ c3
    have hbne : ¬ b = w.heap.size := by omega
    have hbne2 : ¬ w.heap.size = b := by omega
    rw [show pTy (Nd.kind (.mk 39 ⟨#[]⟩ ⟨#[]⟩ 0 ao cap kids)) = 239 from ptrTy_39]
    clear hn0 hn1 hPl hG hW hA hb hks hsm hHL
    have q2 := no_2 239 (by decide)
    have q3 := no_3 239 (by decide)
    have q4 := no_4 239 (by decide)
    have q5 := no_5 239 (by decide)
    have q6 := no_6 239 (by decide)
    have q7 := no_7 239 (by decide)
    have q8 := no_8 239 (by decide)
    have q9 := no_9 239 (by decide)
    have q10 := no_10 239 (by decide)
    have q11 := no_11 239 (by decide)
    have q12 := no_12 239 (by decide)
    have q13 := no_13 239 (by decide)
    have q14 := no_14 239 (by decide)
    have q15 := no_15 239 (by decide)
    have q16 := no_16 239 (by decide)
    have q17 := no_17 239 (by decide)
    have q18 := no_18 239 (by decide)
    have q19 := no_19 239 (by decide)
    have q20 := no_20 239 (by decide)
    have q21 := no_21 239 (by decide)
    have q22 := no_22 239 (by decide)
    have q23 := no_23 239 (by decide)
    have q24 := no_24 239 (by decide)
    have q25 := no_25 239 (by decide)
    have q26 := no_26 239 (by decide)
    have q27 := no_27 239 (by decide)
    have q28 := no_28 239 (by decide)
    have q29 := no_29 239 (by decide)
    have q30 := no_30 239 (by decide)
    have q31 := no_31 239 (by decide)
    have q32 := no_32 239 (by decide)
    have q33 := no_33 239 (by decide)
    have q34 := no_34 239 (by decide)
    have q35 := no_35 239 (by decide)
    have q36 := no_36 239 (by decide)
    have q37 := no_37 239 (by decide)
    have q38 := no_38 239 (by decide)
    have q39 := yes_39
    go_enter Tryz.func36, Tryz.ntmps36
    go_wp2_with fail
    (go_at_call 106; refine (mags kids ao2 cap2 _ HSM.out (by first | exact HHL.out.below ((Below.refl _ _).alloc (Nat.le_refl _) _) | exact HHL.out.below (Below.drew ((Below.refl _ _).alloc (Nat.le_refl _) _))) HKS.out).mono ?_; rintro e c0w ⟨D, ao3, cap3, ms, rfl, hlm, hsm, hli, hb0⟩; have HZ0 : Below (w.alloc zN).heap.size (w.alloc zN) c0w := (by first | exact hb0 | exact (Below.drew (Below.refl _ _)).trans (hb0.mono (by simp))); have HLI : Hid (ListIn (From (w.alloc zN).heap.size) D c0w ao3 ms) := Lib.hid (by first | exact hli | (have h := hli; simpa using h)); have hz0 : w.heap.size < c0w.heap.size := (by have := Below.size HZ0; (try simp at this); omega); obtain ⟨kb0, -⟩ := bblk hb0 (b := b) (by first | omega | (simp; omega)); obtain ⟨ka0, fa0⟩ := bblk hb0 (b := w.heap.size) (by first | omega | (simp; done) | (simp; omega)))
    have HSM2 := Lib.hid hsm
    have HLM := Lib.hid hlm
    clear hsm hlm
    go_wp2_with fail
    refine bodyPost_ret (v := .agg #[.int .i64 39, .string ⟨#[]⟩, .string ⟨#[]⟩, .int .u64 0, .slice ao3 kids.length cap3]) (by simp [results, Tryz.f36, go_sem, ka0, hz0, Nat.ne_of_lt hz0]) rfl (NodePost.stored _ _ _ _ _ (back_list HLM.out HWF.out HZ0 HSM2.out HLI.out))
end Go.Proofs.YtongafghllkomaaGreatDoor
