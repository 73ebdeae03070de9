/-
  node kind by kind, part E: it hands back the tree that lies there, given its own contract a level down. No conditions.
  node kind by kind, part F: it hands back the tree that lies there, given its own contract a level down. No conditions.
-/
import Derived.Test.YtongafghllkomaaGreatDoorOrNone
import Derived.Test.YtongafghllkomaaGreatDoorTests
import Derived.Test.YtongafghllkomaaGreatDoorList
import Derived.Deep.RegionHeld3
import Derived.Deep.RegionWith
import Derived.Deep.QuietTactic
import Derived.BigQuiet
namespace Go.Proofs.YtongafghllkomaaGreatDoor
open Go.RowKit
set_option linter.unusedVariables false
set_option linter.unusedSimpArgs false

theorem HeldList.below {ptr : Bool} {A : Nat → Prop} {d : Nat} {w w' : World} {ao : Option Addr} {ns : List Nd} (h : HeldList ptr (RepD A d) w ao ns) (hb : Below w.heap.size w w') : HeldList ptr (RepD A d) w' ao ns := by
  intro j n hn
  obtain ⟨g, x, h1, h2, h3⟩ := h j n hn
  exact ⟨g, x, h1, (hb.cell (World.block_lt_of_cell? _ _ h2)).trans h2, h3.imp fun b hr => hr.below hb⟩

set_option maxRecDepth 100000 in
set_option maxHeartbeats 2000000 in
theorem nd_6 (d : Nat) (hN : NodeC d) (e : Nat) (A : Nat → Prop) (n : Nd) (b : Nat) (w : World) (hG : PreD (e + 1) n) (hW : WfN n) (hR : RepD A (d + 1) w n b) (hk : n.kind = 6) :
    Calls Tryz.prog 36 #[.iface (pTy n.kind) (.pointer (some ⟨b, 0, none⟩))] w (NodePost n w) := by
  obtain ⟨k, t, m, u, ao, cap, kids⟩ := n
  obtain rfl : k = 6 := hk
  have hn0 : (Nd.mk 6 t m u ao cap kids).kind ≠ 0 := by show (6 : Int) ≠ 0; decide
  have hn1 : (Nd.mk 6 t m u ao cap kids).kind ≠ 1 := by show (6 : Int) ≠ 1; decide
  have hPl := (hG.fit hn0).2.2.1
  have HWF := Lib.hid hW.wf
  obtain rfl : t = ⟨#[]⟩ := hPl.1 (show hasText 6 = false by decide)
  obtain rfl : u = 0 := hPl.2.1 (show hasNum 6 = false by decide)
  obtain rfl : m = ⟨#[]⟩ := hPl.2.2.1 (show (6 : Int) ≠ 2 by decide) (show (6 : Int) ≠ 3 by decide)
  have hks : ∀ x ∈ kids, GoodW e x ∧ x.kind ∈ ([7, 8, 9, 10, 11, 12, 14, 15] : List Int) := by
    intro x hx
    obtain ⟨i, hi, e1⟩ := List.mem_iff_getElem.1 hx
    have hx2 : kids[i]? = some x := by rw [List.getElem?_eq_getElem hi, e1]
    obtain ⟨hP, hC⟩ := hG.kid (i := i) (x := x) hn0 hx2
    have hC1 := hC hn1
    have e1 : (fixedL 6).getD i (restL 6) = restL 6 := by rw [show fixedL 6 = [] from by decide]; simp
    have hC2 : ofClassB x (restL 6) = true := by rw [← e1]; exact hC1
    have hkx : x.kind ∈ ([7, 8, 9, 10, 11, 12, 14, 15] : List Int) := class_1 hP hC2
    exact ⟨⟨hP.good (stmt_walk hkx), hW.kid (i := i) hx2⟩, hkx⟩
  have hsm : kids.length ≤ 1000 := by have := hG.small; simp only [Nd.kids] at this; omega
  have HKS := Lib.hid hks
  have HSM := Lib.hid hsm
  obtain ⟨hA, cs, hb, hs⟩ := hR
  rw [slots_6 _ rfl] at hs
  match cs, hs with
  | [v0, v1, v2, v3, v4, v5], ⟨e0, e1, e2, e3, e4, e5, _⟩ =>
    obtain ⟨ao2, cap2, hv, hHL⟩ := HeldList.of (ptr := false) (R := RepD A d) (ns := kids) (v := v4) (w := w) (A := A) e4
    subst hv
    have HHL := Lib.hid hHL
    have c4 : w.cell? ⟨b, 4, none⟩ = some (.slice ao2 kids.length cap2) := by rw [Lib.cell_of_heap hb]; rfl
    have hblt : b < w.heap.size := World.block_lt_of_cell? _ _ c4
    have hbne : ¬ b = w.heap.size := by omega
    have hbne2 : ¬ w.heap.size = b := by omega
    rw [show pTy (Nd.kind (.mk 6 ⟨#[]⟩ ⟨#[]⟩ 0 ao cap kids)) = 120 from ptrTy_6]
    clear hn0 hn1 hPl hG hW hA hb hks hsm hHL
    have q2 := no_2 120 (by decide)
    have q3 := no_3 120 (by decide)
    have q4 := no_4 120 (by decide)
    have q5 := no_5 120 (by decide)
    have q6 := yes_6
    go_enter Tryz.func36, Tryz.ntmps36
    go_wp2_with fail
    (go_at_call 92; refine (listStatement d hN e A kids ao2 cap2 _ HSM.out (by first | exact HHL.out.below ((Below.refl _ _).alloc (Nat.le_refl _) _) | exact HHL.out.below (Below.drew ((Below.refl _ _).alloc (Nat.le_refl _) _))) HKS.out).mono ?_; rintro e c0w ⟨D, ao3, cap3, ms, rfl, hlm, hsm, hli, hb0⟩; have HZ0 : Below (w.alloc zN).heap.size (w.alloc zN) c0w := (by first | exact hb0 | exact (Below.drew (Below.refl _ _)).trans (hb0.mono (by simp))); have HLI : Hid (ListIn (From (w.alloc zN).heap.size) D c0w ao3 ms) := Lib.hid (by first | exact hli | (have h := hli; simpa using h)); have hz0 : w.heap.size < c0w.heap.size := (by have := Below.size HZ0; (try simp at this); omega); obtain ⟨kb0, -⟩ := bblk hb0 (b := b) (by first | omega | (simp; omega)); obtain ⟨ka0, fa0⟩ := bblk hb0 (b := w.heap.size) (by first | omega | (simp; done) | (simp; omega)))
    have HSM2 := Lib.hid hsm
    have HLM := Lib.hid hlm
    clear hsm hlm
    go_wp2_with fail
    refine bodyPost_ret (v := .agg #[.int .i64 6, .string ⟨#[]⟩, .string ⟨#[]⟩, .int .u64 0, .slice ao3 kids.length cap3]) (by simp [results, Tryz.f36, go_sem, ka0, hz0, Nat.ne_of_lt hz0]) rfl (NodePost.stored _ _ _ _ _ (back_list HLM.out HWF.out HZ0 HSM2.out HLI.out))

set_option maxRecDepth 100000 in
set_option maxHeartbeats 2000000 in
theorem nd_26 (d : Nat) (hN : NodeC d) (e : Nat) (A : Nat → Prop) (n : Nd) (b : Nat) (w : World) (hG : PreD (e + 1) n) (hW : WfN n) (hR : RepD A (d + 1) w n b) (hk : n.kind = 26) :
    Calls Tryz.prog 36 #[.iface (pTy n.kind) (.pointer (some ⟨b, 0, none⟩))] w (NodePost n w) := by
  obtain ⟨k, t, m, u, ao, cap, kids⟩ := n
  obtain rfl : k = 26 := hk
  have hn0 : (Nd.mk 26 t m u ao cap kids).kind ≠ 0 := by show (26 : Int) ≠ 0; decide
  have hn1 : (Nd.mk 26 t m u ao cap kids).kind ≠ 1 := by show (26 : Int) ≠ 1; decide
  have hPl := (hG.fit hn0).2.2.1
  have HWF := Lib.hid hW.wf
  obtain rfl : t = ⟨#[]⟩ := hPl.1 (show hasText 26 = false by decide)
  obtain rfl : u = 0 := hPl.2.1 (show hasNum 26 = false by decide)
  obtain rfl : m = ⟨#[]⟩ := hPl.2.2.1 (show (26 : Int) ≠ 2 by decide) (show (26 : Int) ≠ 3 by decide)
  have hks : ∀ x ∈ kids, GoodW e x ∧ x.kind ∈ (exprL : List Int) := by
    intro x hx
    obtain ⟨i, hi, e1⟩ := List.mem_iff_getElem.1 hx
    have hx2 : kids[i]? = some x := by rw [List.getElem?_eq_getElem hi, e1]
    obtain ⟨hP, hC⟩ := hG.kid (i := i) (x := x) hn0 hx2
    have hC1 := hC hn1
    have e1 : (fixedL 26).getD i (restL 26) = restL 26 := by rw [show fixedL 26 = [] from by decide]; simp
    have hC2 : ofClassB x (restL 26) = true := by rw [← e1]; exact hC1
    have hkx : x.kind ∈ (exprL : List Int) := class_0 hC2
    exact ⟨⟨hP.good (expr_walk hkx), hW.kid (i := i) hx2⟩, hkx⟩
  have hsm : kids.length ≤ 1000 := by have := hG.small; simp only [Nd.kids] at this; omega
  have HKS := Lib.hid hks
  have HSM := Lib.hid hsm
  obtain ⟨hA, cs, hb, hs⟩ := hR
  rw [slots_26 _ rfl] at hs
  match cs, hs with
  | [v0, v1, v2, v3, v4, v5], ⟨e0, e1, e2, e3, e4, e5, _⟩ =>
    obtain ⟨ao2, cap2, hv, hHL⟩ := HeldList.of (ptr := false) (R := RepD A d) (ns := kids) (v := v4) (w := w) (A := A) e4
    subst hv
    have HHL := Lib.hid hHL
    have c4 : w.cell? ⟨b, 4, none⟩ = some (.slice ao2 kids.length cap2) := by rw [Lib.cell_of_heap hb]; rfl
    have hblt : b < w.heap.size := World.block_lt_of_cell? _ _ c4
    have hbne : ¬ b = w.heap.size := by omega
    have hbne2 : ¬ w.heap.size = b := by omega
    rw [show pTy (Nd.kind (.mk 26 ⟨#[]⟩ ⟨#[]⟩ 0 ao cap kids)) = 207 from ptrTy_26]
    clear hn0 hn1 hPl hG hW hA hb hks hsm hHL
    have q2 := no_2 207 (by decide)
    have q3 := no_3 207 (by decide)
    have q4 := no_4 207 (by decide)
    have q5 := no_5 207 (by decide)
    have q6 := no_6 207 (by decide)
    have q7 := no_7 207 (by decide)
    have q8 := no_8 207 (by decide)
    have q9 := no_9 207 (by decide)
    have q10 := no_10 207 (by decide)
    have q11 := no_11 207 (by decide)
    have q12 := no_12 207 (by decide)
    have q13 := no_13 207 (by decide)
    have q14 := no_14 207 (by decide)
    have q15 := no_15 207 (by decide)
    have q16 := no_16 207 (by decide)
    have q17 := no_17 207 (by decide)
    have q18 := no_18 207 (by decide)
    have q19 := no_19 207 (by decide)
    have q20 := no_20 207 (by decide)
    have q21 := no_21 207 (by decide)
    have q22 := no_22 207 (by decide)
    have q23 := no_23 207 (by decide)
    have q24 := no_24 207 (by decide)
    have q25 := no_25 207 (by decide)
    have q26 := yes_26
    go_enter Tryz.func36, Tryz.ntmps36
    go_wp2_with fail
    (go_at_call 99; refine (listExpression d hN e A kids ao2 cap2 _ HSM.out (by first | exact HHL.out.below ((Below.refl _ _).alloc (Nat.le_refl _) _) | exact HHL.out.below (Below.drew ((Below.refl _ _).alloc (Nat.le_refl _) _))) HKS.out).mono ?_; rintro e c0w ⟨D, ao3, cap3, ms, rfl, hlm, hsm, hli, hb0⟩; have HZ0 : Below (w.alloc zN).heap.size (w.alloc zN) c0w := (by first | exact hb0 | exact (Below.drew (Below.refl _ _)).trans (hb0.mono (by simp))); have HLI : Hid (ListIn (From (w.alloc zN).heap.size) D c0w ao3 ms) := Lib.hid (by first | exact hli | (have h := hli; simpa using h)); have hz0 : w.heap.size < c0w.heap.size := (by have := Below.size HZ0; (try simp at this); omega); obtain ⟨kb0, -⟩ := bblk hb0 (b := b) (by first | omega | (simp; omega)); obtain ⟨ka0, fa0⟩ := bblk hb0 (b := w.heap.size) (by first | omega | (simp; done) | (simp; omega)))
    have HSM2 := Lib.hid hsm
    have HLM := Lib.hid hlm
    clear hsm hlm
    go_wp2_with fail
    refine bodyPost_ret (v := .agg #[.int .i64 26, .string ⟨#[]⟩, .string ⟨#[]⟩, .int .u64 0, .slice ao3 kids.length cap3]) (by simp [results, Tryz.f36, go_sem, ka0, hz0, Nat.ne_of_lt hz0]) rfl (NodePost.stored _ _ _ _ _ (back_list HLM.out HWF.out HZ0 HSM2.out HLI.out))

set_option maxRecDepth 100000 in
set_option maxHeartbeats 2000000 in
theorem nd_30 (d : Nat) (hN : NodeC d) (e : Nat) (A : Nat → Prop) (n : Nd) (b : Nat) (w : World) (hG : PreD (e + 1) n) (hW : WfN n) (hR : RepD A (d + 1) w n b) (hk : n.kind = 30) :
    Calls Tryz.prog 36 #[.iface (pTy n.kind) (.pointer (some ⟨b, 0, none⟩))] w (NodePost n w) := by
  obtain ⟨k, t, m, u, ao, cap, kids⟩ := n
  obtain rfl : k = 30 := hk
  have hn0 : (Nd.mk 30 t m u ao cap kids).kind ≠ 0 := by show (30 : Int) ≠ 0; decide
  have hn1 : (Nd.mk 30 t m u ao cap kids).kind ≠ 1 := by show (30 : Int) ≠ 1; decide
  have hPl := (hG.fit hn0).2.2.1
  have HWF := Lib.hid hW.wf
  obtain rfl : t = ⟨#[]⟩ := hPl.1 (show hasText 30 = false by decide)
  obtain rfl : u = 0 := hPl.2.1 (show hasNum 30 = false by decide)
  obtain rfl : m = ⟨#[]⟩ := hPl.2.2.1 (show (30 : Int) ≠ 2 by decide) (show (30 : Int) ≠ 3 by decide)
  have hks : ∀ x ∈ kids, GoodW e x ∧ x.kind ∈ ([31, 32] : List Int) := by
    intro x hx
    obtain ⟨i, hi, e1⟩ := List.mem_iff_getElem.1 hx
    have hx2 : kids[i]? = some x := by rw [List.getElem?_eq_getElem hi, e1]
    obtain ⟨hP, hC⟩ := hG.kid (i := i) (x := x) hn0 hx2
    have hC1 := hC hn1
    have e1 : (fixedL 30).getD i (restL 30) = restL 30 := by rw [show fixedL 30 = [] from by decide]; simp
    have hC2 : ofClassB x (restL 30) = true := by rw [← e1]; exact hC1
    have hkx : x.kind ∈ ([31, 32] : List Int) := class_few [31, 32] rfl hC2
    exact ⟨⟨hP.good (by revert hkx; unfold walkL; simp; omega), hW.kid (i := i) hx2⟩, hkx⟩
  have hsm : kids.length ≤ 1000 := by have := hG.small; simp only [Nd.kids] at this; omega
  have HKS := Lib.hid hks
  have HSM := Lib.hid hsm
  obtain ⟨hA, cs, hb, hs⟩ := hR
  rw [slots_30 _ rfl] at hs
  match cs, hs with
  | [v0, v1, v2, v3], ⟨e0, e1, e2, e3, _⟩ =>
    obtain ⟨ao2, cap2, hv, hHL⟩ := HeldList.of (ptr := false) (R := RepD A d) (ns := kids) (v := v3) (w := w) (A := A) e3
    subst hv
    have HHL := Lib.hid hHL
    have c3 : w.cell? ⟨b, 3, none⟩ = some (.slice ao2 kids.length cap2) := by rw [Lib.cell_of_heap hb]; rfl
    have hblt : b < w.heap.size := World.block_lt_of_cell? _ _ c3
    have hbne : ¬ b = w.heap.size := by omega
    have hbne2 : ¬ w.heap.size = b := by omega
    rw [show pTy (Nd.kind (.mk 30 ⟨#[]⟩ ⟨#[]⟩ 0 ao cap kids)) = 221 from ptrTy_30]
    clear hn0 hn1 hPl hG hW hA hb hks hsm hHL
    have q2 := no_2 221 (by decide)
    have q3 := no_3 221 (by decide)
    have q4 := no_4 221 (by decide)
    have q5 := no_5 221 (by decide)
    have q6 := no_6 221 (by decide)
    have q7 := no_7 221 (by decide)
    have q8 := no_8 221 (by decide)
    have q9 := no_9 221 (by decide)
    have q10 := no_10 221 (by decide)
    have q11 := no_11 221 (by decide)
    have q12 := no_12 221 (by decide)
    have q13 := no_13 221 (by decide)
    have q14 := no_14 221 (by decide)
    have q15 := no_15 221 (by decide)
    have q16 := no_16 221 (by decide)
    have q17 := no_17 221 (by decide)
    have q18 := no_18 221 (by decide)
    have q19 := no_19 221 (by decide)
    have q20 := no_20 221 (by decide)
    have q21 := no_21 221 (by decide)
    have q22 := no_22 221 (by decide)
    have q23 := no_23 221 (by decide)
    have q24 := no_24 221 (by decide)
    have q25 := no_25 221 (by decide)
    have q26 := no_26 221 (by decide)
    have q27 := no_27 221 (by decide)
    have q28 := no_28 221 (by decide)
    have q29 := no_29 221 (by decide)
    have q30 := yes_30
    go_enter Tryz.func36, Tryz.ntmps36
    go_wp2_with fail
    (go_at_call 104; refine (listStringExpressionPart d hN e A kids ao2 cap2 _ HSM.out (by first | exact HHL.out.below ((Below.refl _ _).alloc (Nat.le_refl _) _) | exact HHL.out.below (Below.drew ((Below.refl _ _).alloc (Nat.le_refl _) _))) HKS.out).mono ?_; rintro e c0w ⟨D, ao3, cap3, ms, rfl, hlm, hsm, hli, hb0⟩; have HZ0 : Below (w.alloc zN).heap.size (w.alloc zN) c0w := (by first | exact hb0 | exact (Below.drew (Below.refl _ _)).trans (hb0.mono (by simp))); have HLI : Hid (ListIn (From (w.alloc zN).heap.size) D c0w ao3 ms) := Lib.hid (by first | exact hli | (have h := hli; simpa using h)); have hz0 : w.heap.size < c0w.heap.size := (by have := Below.size HZ0; (try simp at this); omega); obtain ⟨kb0, -⟩ := bblk hb0 (b := b) (by first | omega | (simp; omega)); obtain ⟨ka0, fa0⟩ := bblk hb0 (b := w.heap.size) (by first | omega | (simp; done) | (simp; omega)))
    have HSM2 := Lib.hid hsm
    have HLM := Lib.hid hlm
    clear hsm hlm
    go_wp2_with fail
    refine bodyPost_ret (v := .agg #[.int .i64 30, .string ⟨#[]⟩, .string ⟨#[]⟩, .int .u64 0, .slice ao3 kids.length cap3]) (by simp [results, Tryz.f36, go_sem, ka0, hz0, Nat.ne_of_lt hz0]) rfl (NodePost.stored _ _ _ _ _ (back_list HLM.out HWF.out HZ0 HSM2.out HLI.out))

set_option maxRecDepth 100000 in
set_option maxHeartbeats 2000000 in
theorem nd_2 (d : Nat) (hN : NodeC d) (e : Nat) (A : Nat → Prop) (n : Nd) (b : Nat) (w : World) (hG : PreD (e + 1) n) (hW : WfN n) (hR : RepD A (d + 1) w n b) (hk : n.kind = 2) :
    Calls Tryz.prog 36 #[.iface (pTy n.kind) (.pointer (some ⟨b, 0, none⟩))] w (NodePost n w) := by
  obtain ⟨k, t, m, u, ao, cap, kids⟩ := n
  obtain rfl : k = 2 := hk
  have hn0 : (Nd.mk 2 t m u ao cap kids).kind ≠ 0 := by show (2 : Int) ≠ 0; decide
  have hn1 : (Nd.mk 2 t m u ao cap kids).kind ≠ 1 := by show (2 : Int) ≠ 1; decide
  have hPl := (hG.fit hn0).2.2.1
  have HWF := Lib.hid hW.wf
  obtain rfl : u = 0 := hPl.2.1 (show hasNum 2 = false by decide)
  have hks : ∀ x ∈ kids, GoodW e x ∧ x.kind = 3 := by
    intro x hx
    obtain ⟨i, hi, e1⟩ := List.mem_iff_getElem.1 hx
    have hx2 : kids[i]? = some x := by rw [List.getElem?_eq_getElem hi, e1]
    obtain ⟨hP, hC⟩ := hG.kid (i := i) (x := x) hn0 hx2
    have hC1 := hC hn1
    have e1 : (fixedL 2).getD i (restL 2) = restL 2 := by rw [show fixedL 2 = [] from by decide]; simp
    have hC2 : ofClassB x (restL 2) = true := by rw [← e1]; exact hC1
    have hkx : x.kind ∈ ([3] : List Int) := class_few [3] rfl hC2
    exact ⟨⟨hP.good (by revert hkx; unfold walkL; simp; omega), hW.kid (i := i) hx2⟩, by simpa using hkx⟩
  have hsm : kids.length ≤ 1000 := by have := hG.small; simp only [Nd.kids] at this; omega
  have HKS := Lib.hid hks
  have HSM := Lib.hid hsm
  obtain ⟨hA, cs, hb, hs⟩ := hR
  rw [slots_2 _ rfl] at hs
  match cs, hs with
  | [v0, v1, v2, v3, v4, v5], ⟨e0, e1, e2, e3, e4, e5, _⟩ =>
    obtain ⟨ao2, cap2, hv, hHL⟩ := HeldList.of (ptr := true) (R := RepD A d) (ns := kids) (v := v5) (w := w) (A := A) e5
    subst hv
    have HHL := Lib.hid hHL
    have c5 : w.cell? ⟨b, 5, none⟩ = some (.slice ao2 kids.length cap2) := by rw [Lib.cell_of_heap hb]; rfl
    have c3 : w.cell? ⟨b, 3, none⟩ = some (.string m) := by rw [Lib.cell_of_heap hb]; exact congrArg some e3
    have c4 : w.cell? ⟨b, 4, none⟩ = some (.string t) := by rw [Lib.cell_of_heap hb]; exact congrArg some e4
    have hblt : b < w.heap.size := World.block_lt_of_cell? _ _ c5
    have hbne : ¬ b = w.heap.size := by omega
    have hbne2 : ¬ w.heap.size = b := by omega
    rw [show pTy (Nd.kind (.mk 2 t m 0 ao cap kids)) = 96 from ptrTy_2]
    clear hn0 hn1 hPl hG hW hA hb hks hsm hHL
    have q2 := yes_2
    go_enter Tryz.func36, Tryz.ntmps36
    go_wp2_with fail
    go_region_held3 (fun w' => (w'.cell? ⟨b, 5, none⟩ = some (.slice ao2 kids.length cap2) ∧ w'.cell? ⟨b, 3, none⟩ = some (.string m) ∧ w'.cell? ⟨b, 4, none⟩ = some (.string t))) (go_keep) ((go_at_call 89; refine (listFile d hN e A kids ao2 cap2 _ HSM.out (by first | exact HHL.out.below ((Below.refl _ _).alloc (Nat.le_refl _) _) | exact HHL.out.below (Below.drew ((Below.refl _ _).alloc (Nat.le_refl _) _))) HKS.out).mono ?_; rintro e c0w ⟨D, ao3, cap3, ms, rfl, hlm, hsm, hli, hb0⟩; have HZ0 : Below (w.alloc zN).heap.size (w.alloc zN) c0w := (by first | exact hb0 | exact (Below.drew (Below.refl _ _)).trans (hb0.mono (by simp))); have HLI : Hid (ListIn (From (w.alloc zN).heap.size) D c0w ao3 ms) := Lib.hid (by first | exact hli | (have h := hli; simpa using h)); have hz0 : w.heap.size < c0w.heap.size := (by have := Below.size HZ0; (try simp at this); omega); obtain ⟨kb0, -⟩ := bblk hb0 (b := b) (by first | omega | (simp; omega)); obtain ⟨ka0, fa0⟩ := bblk hb0 (b := w.heap.size) (by first | omega | (simp; done) | (simp; omega))))
    have HSM2 := Lib.hid hsm
    have HLM := Lib.hid hlm
    clear hsm hlm
    go_wp2_with fail
    refine bodyPost_ret (v := .agg #[.int .i64 2, .string t, .string m, .int .u64 0, .slice ao3 kids.length cap3]) (by simp [results, Tryz.f36, go_sem, ka0, hz0, Nat.ne_of_lt hz0]) rfl (NodePost.stored _ _ _ _ _ (back_list HLM.out HWF.out HZ0 HSM2.out HLI.out))

end Go.Proofs.YtongafghllkomaaGreatDoor

namespace Go.Proofs.YtongafghllkomaaGreatDoor
open Go.RowKit
set_option linter.unusedVariables false
set_option linter.unusedSimpArgs false


theorem regexStr (br : Nat) (t : ByteArray) (w : World) (hc : w.cell? ⟨br, 0, none⟩ = some (.string t)) :
    Calls Tryz.prog 107 #[.pointer (some ⟨br, 0, none⟩)] w fun e w' => e = .returned (.string t) ∧ w = w' := by
  go_enter Tryz.func107, Tryz.ntmps107
  go_wp2_with fail
  go_ret
  exact ⟨rfl, rfl⟩

theorem num41 (u : Int) (h1 : 0 ≤ u) (h2 : u < 18446744073709551616) : IntKind.u64.wrap (IntKind.i64.wrap (IntKind.i64.wrap (secOf u * 1000000000) + nsecOf u)) = u := by
  simp only [IntKind.wrap, IntKind.bits, IntKind.signed]
  unfold secOf nsecOf wrap64
  simp
  omega

set_option maxRecDepth 100000 in
set_option maxHeartbeats 2000000 in
theorem nd_38 (d : Nat) (hN : NodeC d) (e : Nat) (A : Nat → Prop) (n : Nd) (b : Nat) (w : World) (hG : PreD (e + 1) n) (hW : WfN n) (hR : RepD A (d + 1) w n b) (hk : n.kind = 38) :
    Calls Tryz.prog 36 #[.iface (pTy n.kind) (.pointer (some ⟨b, 0, none⟩))] w (NodePost n w) := by
  obtain ⟨k, t, m, u, ao, cap, kids⟩ := n
  obtain rfl : k = 38 := hk
  have hn0 : (Nd.mk 38 t m u ao cap kids).kind ≠ 0 := by show (38 : Int) ≠ 0; decide
  have hn1 : (Nd.mk 38 t m u ao cap kids).kind ≠ 1 := by show (38 : Int) ≠ 1; decide
  have hPl := (hG.fit hn0).2.2.1
  have HWF := Lib.hid hW.wf
  obtain rfl : t = ⟨#[]⟩ := hPl.1 (show hasText 38 = false by decide)
  obtain rfl : m = ⟨#[]⟩ := hPl.2.2.1 (show (38 : Int) ≠ 2 by decide) (show (38 : Int) ≠ 3 by decide)
  have hln : kids.length = 0 := by
    have h1 := ((hG.fit hn0).2.2.2.1 hn1)
    have e1 : (fixedL 38).length = 0 := by decide
    have e2 : restL 38 = 28 := by decide
    simp only [Nd.kind, Nd.kids] at h1
    rw [e1, e2] at h1
    omega
  obtain rfl : kids = [] := List.eq_nil_of_length_eq_zero hln
  obtain ⟨hA, cs, hb, hs⟩ := hR
  rw [slots_38 _ rfl] at hs
  match cs, hs with
  | [v0, v1, v2, v3], ⟨e0, e1, e2, e3, _⟩ =>
    have c3 : w.cell? ⟨b, 3, none⟩ = some (.float .f64 u.toNat) := by rw [Lib.cell_of_heap hb]; exact congrArg some e3
    have hu1 : 0 ≤ u := HWF.out.2.2.2.1
    have hu2 : u < 18446744073709551616 := HWF.out.2.2.2.2.1
    have hblt : b < w.heap.size := (Array.getElem?_eq_some_iff.1 hb).1
    rw [show pTy (Nd.kind (.mk 38 _ _ _ ao cap [])) = 234 from ptrTy_38]
    clear hn0 hn1 hPl hln hG hW hA hb
    have q2 := no_2 234 (by decide)
    have q3 := no_3 234 (by decide)
    have q4 := no_4 234 (by decide)
    have q5 := no_5 234 (by decide)
    have q6 := no_6 234 (by decide)
    have q7 := no_7 234 (by decide)
    have q8 := no_8 234 (by decide)
    have q9 := no_9 234 (by decide)
    have q10 := no_10 234 (by decide)
    have q11 := no_11 234 (by decide)
    have q12 := no_12 234 (by decide)
    have q13 := no_13 234 (by decide)
    have q14 := no_14 234 (by decide)
    have q15 := no_15 234 (by decide)
    have q16 := no_16 234 (by decide)
    have q17 := no_17 234 (by decide)
    have q18 := no_18 234 (by decide)
    have q19 := no_19 234 (by decide)
    have q20 := no_20 234 (by decide)
    have q21 := no_21 234 (by decide)
    have q22 := no_22 234 (by decide)
    have q23 := no_23 234 (by decide)
    have q24 := no_24 234 (by decide)
    have q25 := no_25 234 (by decide)
    have q26 := no_26 234 (by decide)
    have q27 := no_27 234 (by decide)
    have q28 := no_28 234 (by decide)
    have q29 := no_29 234 (by decide)
    have q30 := no_30 234 (by decide)
    have q31 := no_31 234 (by decide)
    have q32 := no_32 234 (by decide)
    have q33 := no_33 234 (by decide)
    have q34 := no_34 234 (by decide)
    have q35 := no_35 234 (by decide)
    have q36 := no_36 234 (by decide)
    have q37 := no_37 234 (by decide)
    have q38 := yes_38
    have hbits : ∀ w : World, Sem.run Tryz.prog (callFunc 105 #[.float .f64 u.toNat]) w = .ok (Next.value (Value.int .u64 (u.toNat : Int))) w := fun w => by kernel_rfl
    have hun : ((u.toNat : Nat) : Int) = u := by omega
    rw [hun] at hbits
    clear hun
    go_enter Tryz.func36, Tryz.ntmps36
    go_wp2_with fail
    exact bodyPost_ret (v := .agg #[.int .i64 38, .string ⟨#[]⟩, .string ⟨#[]⟩, .int .u64 u, .slice none 0 0]) (by simp [results, Tryz.f36, go_sem]) rfl (back_leaf HWF.out ((Below.refl _ _).alloc (Nat.le_refl _) _))

set_option maxRecDepth 100000 in
set_option maxHeartbeats 2000000 in
theorem nd_41 (d : Nat) (hN : NodeC d) (e : Nat) (A : Nat → Prop) (n : Nd) (b : Nat) (w : World) (hG : PreD (e + 1) n) (hW : WfN n) (hR : RepD A (d + 1) w n b) (hk : n.kind = 41) :
    Calls Tryz.prog 36 #[.iface (pTy n.kind) (.pointer (some ⟨b, 0, none⟩))] w (NodePost n w) := by
  obtain ⟨k, t, m, u, ao, cap, kids⟩ := n
  obtain rfl : k = 41 := hk
  have hn0 : (Nd.mk 41 t m u ao cap kids).kind ≠ 0 := by show (41 : Int) ≠ 0; decide
  have hn1 : (Nd.mk 41 t m u ao cap kids).kind ≠ 1 := by show (41 : Int) ≠ 1; decide
  have hPl := (hG.fit hn0).2.2.1
  have HWF := Lib.hid hW.wf
  obtain rfl : t = ⟨#[]⟩ := hPl.1 (show hasText 41 = false by decide)
  obtain rfl : m = ⟨#[]⟩ := hPl.2.2.1 (show (41 : Int) ≠ 2 by decide) (show (41 : Int) ≠ 3 by decide)
  have hln : kids.length = 0 := by
    have h1 := ((hG.fit hn0).2.2.2.1 hn1)
    have e1 : (fixedL 41).length = 0 := by decide
    have e2 : restL 41 = 28 := by decide
    simp only [Nd.kind, Nd.kids] at h1
    rw [e1, e2] at h1
    omega
  obtain rfl : kids = [] := List.eq_nil_of_length_eq_zero hln
  obtain ⟨hA, cs, hb, hs⟩ := hR
  rw [slots_41 _ rfl] at hs
  match cs, hs with
  | [v0, v1, v2, v3, v4, v5], ⟨e0, e1, e2, e3, e4, e5, _⟩ =>
    have c3 : w.cell? ⟨b, 3, none⟩ = some (.int .i64 (secOf u)) := by rw [Lib.cell_of_heap hb]; exact congrArg some e3
    have c4 : w.cell? ⟨b, 4, none⟩ = some (.int .i64 (nsecOf u)) := by rw [Lib.cell_of_heap hb]; exact congrArg some e4
    have c5 : w.cell? ⟨b, 5, none⟩ = some (.int .i64 0) := by rw [Lib.cell_of_heap hb]; exact congrArg some e5
    have hu1 : 0 ≤ u := HWF.out.2.2.2.1
    have hu2 : u < 18446744073709551616 := HWF.out.2.2.2.2.1
    have hblt : b < w.heap.size := (Array.getElem?_eq_some_iff.1 hb).1
    rw [show pTy (Nd.kind (.mk 41 _ _ _ ao cap [])) = 244 from ptrTy_41]
    clear hn0 hn1 hPl hln hG hW hA hb
    have q2 := no_2 244 (by decide)
    have q3 := no_3 244 (by decide)
    have q4 := no_4 244 (by decide)
    have q5 := no_5 244 (by decide)
    have q6 := no_6 244 (by decide)
    have q7 := no_7 244 (by decide)
    have q8 := no_8 244 (by decide)
    have q9 := no_9 244 (by decide)
    have q10 := no_10 244 (by decide)
    have q11 := no_11 244 (by decide)
    have q12 := no_12 244 (by decide)
    have q13 := no_13 244 (by decide)
    have q14 := no_14 244 (by decide)
    have q15 := no_15 244 (by decide)
    have q16 := no_16 244 (by decide)
    have q17 := no_17 244 (by decide)
    have q18 := no_18 244 (by decide)
    have q19 := no_19 244 (by decide)
    have q20 := no_20 244 (by decide)
    have q21 := no_21 244 (by decide)
    have q22 := no_22 244 (by decide)
    have q23 := no_23 244 (by decide)
    have q24 := no_24 244 (by decide)
    have q25 := no_25 244 (by decide)
    have q26 := no_26 244 (by decide)
    have q27 := no_27 244 (by decide)
    have q28 := no_28 244 (by decide)
    have q29 := no_29 244 (by decide)
    have q30 := no_30 244 (by decide)
    have q31 := no_31 244 (by decide)
    have q32 := no_32 244 (by decide)
    have q33 := no_33 244 (by decide)
    have q34 := no_34 244 (by decide)
    have q35 := no_35 244 (by decide)
    have q36 := no_36 244 (by decide)
    have q37 := no_37 244 (by decide)
    have q38 := no_38 244 (by decide)
    have q39 := no_39 244 (by decide)
    have q41 := yes_41
    go_enter Tryz.func36, Tryz.ntmps36
    go_wp2_with fail
    go_region_held3 (fun w' => (w'.cell? ⟨b, 3, none⟩ = some (.int .i64 (secOf u)) ∧ w'.cell? ⟨b, 4, none⟩ = some (.int .i64 (nsecOf u)))) (go_keep) (fail)
    go_wp2_with fail
    rw [num41 u hu1 hu2]
    exact bodyPost_ret (v := .agg #[.int .i64 41, .string ⟨#[]⟩, .string ⟨#[]⟩, .int .u64 u, .slice none 0 0]) (by simp [results, Tryz.f36, go_sem]) rfl (back_leaf HWF.out ((Below.refl _ _).alloc (Nat.le_refl _) _).drew)

set_option maxRecDepth 100000 in
set_option maxHeartbeats 2000000 in
theorem nd_42 (d : Nat) (hN : NodeC d) (e : Nat) (A : Nat → Prop) (n : Nd) (b : Nat) (w : World) (hG : PreD (e + 1) n) (hW : WfN n) (hR : RepD A (d + 1) w n b) (hk : n.kind = 42) :
    Calls Tryz.prog 36 #[.iface (pTy n.kind) (.pointer (some ⟨b, 0, none⟩))] w (NodePost n w) := by
  obtain ⟨k, t, m, u, ao, cap, kids⟩ := n
  obtain rfl : k = 42 := hk
  have hn0 : (Nd.mk 42 t m u ao cap kids).kind ≠ 0 := by show (42 : Int) ≠ 0; decide
  have hn1 : (Nd.mk 42 t m u ao cap kids).kind ≠ 1 := by show (42 : Int) ≠ 1; decide
  have hPl := (hG.fit hn0).2.2.1
  have HWF := Lib.hid hW.wf
  obtain rfl : u = 0 := hPl.2.1 (show hasNum 42 = false by decide)
  obtain rfl : m = ⟨#[]⟩ := hPl.2.2.1 (show (42 : Int) ≠ 2 by decide) (show (42 : Int) ≠ 3 by decide)
  have hln : kids.length = 0 := by
    have h1 := ((hG.fit hn0).2.2.2.1 hn1)
    have e1 : (fixedL 42).length = 0 := by decide
    have e2 : restL 42 = 28 := by decide
    simp only [Nd.kind, Nd.kids] at h1
    rw [e1, e2] at h1
    omega
  obtain rfl : kids = [] := List.eq_nil_of_length_eq_zero hln
  obtain ⟨hA, cs, hb, hs⟩ := hR
  rw [slots_42 _ rfl] at hs
  match cs, hs with
  | [v0, v1, v2, v3], ⟨e0, e1, e2, e3, _⟩ =>
    obtain ⟨br, -, rfl, hbr⟩ := e3
    have c3 : w.cell? ⟨b, 3, none⟩ = some (.pointer (some ⟨br, 0, none⟩)) := by rw [Lib.cell_of_heap hb]; rfl
    have d0 : w.cell? ⟨br, 0, none⟩ = some (.string t) := by rw [Lib.cell_of_heap hbr]; rfl
    have hbr2 : br < w.heap.size := World.block_lt_of_cell? _ _ d0
    have hblt : b < w.heap.size := (Array.getElem?_eq_some_iff.1 hb).1
    rw [show pTy (Nd.kind (.mk 42 _ _ _ ao cap [])) = 250 from ptrTy_42]
    clear hn0 hn1 hPl hln hG hW hA hb
    have q2 := no_2 250 (by decide)
    have q3 := no_3 250 (by decide)
    have q4 := no_4 250 (by decide)
    have q5 := no_5 250 (by decide)
    have q6 := no_6 250 (by decide)
    have q7 := no_7 250 (by decide)
    have q8 := no_8 250 (by decide)
    have q9 := no_9 250 (by decide)
    have q10 := no_10 250 (by decide)
    have q11 := no_11 250 (by decide)
    have q12 := no_12 250 (by decide)
    have q13 := no_13 250 (by decide)
    have q14 := no_14 250 (by decide)
    have q15 := no_15 250 (by decide)
    have q16 := no_16 250 (by decide)
    have q17 := no_17 250 (by decide)
    have q18 := no_18 250 (by decide)
    have q19 := no_19 250 (by decide)
    have q20 := no_20 250 (by decide)
    have q21 := no_21 250 (by decide)
    have q22 := no_22 250 (by decide)
    have q23 := no_23 250 (by decide)
    have q24 := no_24 250 (by decide)
    have q25 := no_25 250 (by decide)
    have q26 := no_26 250 (by decide)
    have q27 := no_27 250 (by decide)
    have q28 := no_28 250 (by decide)
    have q29 := no_29 250 (by decide)
    have q30 := no_30 250 (by decide)
    have q31 := no_31 250 (by decide)
    have q32 := no_32 250 (by decide)
    have q33 := no_33 250 (by decide)
    have q34 := no_34 250 (by decide)
    have q35 := no_35 250 (by decide)
    have q36 := no_36 250 (by decide)
    have q37 := no_37 250 (by decide)
    have q38 := no_38 250 (by decide)
    have q39 := no_39 250 (by decide)
    have q41 := no_41 250 (by decide)
    have q42 := yes_42
    go_enter Tryz.func36, Tryz.ntmps36
    go_wp2_with fail
    refine (regexStr br t _ (by first | exact d0 | (rw [((Below.refl w.heap.size w).alloc (Nat.le_refl _) _).cell (p := ⟨br, 0, none⟩) hbr2]; exact d0))).mono ?_
    rintro e w1 ⟨rfl, rfl⟩
    go_wp2_with fail
    exact bodyPost_ret (v := .agg #[.int .i64 42, .string t, .string ⟨#[]⟩, .int .u64 0, .slice none 0 0]) (by simp [results, Tryz.f36, go_sem]) rfl (back_leaf HWF.out ((Below.refl _ _).alloc (Nat.le_refl _) _))

end Go.Proofs.YtongafghllkomaaGreatDoor
