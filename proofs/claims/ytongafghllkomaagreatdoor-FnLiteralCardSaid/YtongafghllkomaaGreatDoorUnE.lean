/-
  unnode kind by kind, part E: what it lays, given its own contract a level down. No conditions.
-/
import Derived.Test.YtongafghllkomaaGreatDoorUnBase
namespace Go.Proofs.YtongafghllkomaaGreatDoor
open Go.RowKit
set_option linter.unusedVariables false


theorem CellsAre.fin {ptr : Bool} {d B B' : Nat} {ns : List Nd} {w w' : World} {v : Value} (h : CellsAre (From B) w v ns.length 1 (fun i cur => ∀ n, ns[i]? = some n → ∃ x, cur[i]? = some x ∧ HeldBy ptr (RepD (From B) d) w n x)) (hb : Below w.heap.size w w') (hB : B' ≤ B) :
    CellsAre (From B') w' v ns.length 1 (fun i cur => ∀ n, ns[i]? = some n → ∃ x, cur[i]? = some x ∧ HeldBy ptr (RepD (From B') d) w' n x) :=
  CellsAre.carry h (fun b o hA hb' => ⟨(Carries.of_below (A := From B) hb b o hA hb').1, Nat.le_trans hB hA⟩) (fun i x _ hx n hn => let ⟨y, h1, h2⟩ := hx n hn; ⟨y, h1, h2.imp fun b hr => (hr.mono (From.le hB)).below hb⟩)

set_option maxRecDepth 100000 in
set_option maxHeartbeats 2000000 in
theorem un_2 (d : Nat) (hU : UnC d) (n : Nd) (D : Nat) (w : World) (hL : LiesD D w n) (hG : PreD (d + 1) n) (hk : n.kind = 2) :
    Calls Tryz.prog 31 #[n.val] w (UnPost (d + 1) n w) := by
  obtain ⟨D, rfl⟩ : ∃ E, D = E + 1 := by cases D with | zero => exact hL.elim | succ E => exact ⟨E, rfl⟩
  obtain ⟨k, t, m, u, ao, cap, kids⟩ := n
  obtain rfl : k = 2 := hk
  have hn0 : (Nd.mk 2 t m u ao cap kids).kind ≠ 0 := by show (2 : Int) ≠ 0; decide
  have hn1 : (Nd.mk 2 t m u ao cap kids).kind ≠ 1 := by show (2 : Int) ≠ 1; decide
  have hks : ∀ x ∈ kids, GoodD d x ∧ x.kind ∈ ([3] : List Int) := by
    intro x hx
    obtain ⟨i, hi, e⟩ := List.mem_iff_getElem.1 hx
    obtain ⟨hP, hC⟩ := hG.kid (i := i) (x := x) hn0 (by show kids[i]? = some x; rw [List.getElem?_eq_getElem hi, e])
    have hC1 := hC hn1
    have e1 : (fixedL 2).getD i (restL 2) = restL 2 := by rw [show fixedL 2 = [] from by decide]; simp
    have hC2 : ofClassB x (restL 2) = true := by rw [← e1]; exact hC1
    have hkx : x.kind ∈ ([3] : List Int) := class_few [3] rfl hC2
    exact ⟨hP.good (by revert hkx; unfold walkL; simp; omega), hkx⟩
  have hsm : kids.length ≤ 1000 := by have := hG.small; simp only [Nd.kids] at this; omega
  have HKS := Lib.hid hks
  have HLL := Lib.hid (show ListLies D w ao kids from hL.2)
  have HSM := Lib.hid hsm
  clear hn0 hn1 hL hG hks hsm
  show Calls _ _ #[.agg #[.int .i64 2, .string t, .string m, .int .u64 u, .slice ao kids.length cap]] w _
  go_enter Tryz.func31, Tryz.ntmps31
  go_wp2_with fail
  go_region_held3 (fun w' => (w'.cell? ⟨w.heap.size, 1, none⟩ = some (.string t) ∧ w'.cell? ⟨w.heap.size, 2, none⟩ = some (.string m) ∧ w'.cell? ⟨w.heap.size, 4, none⟩ = some (.slice ao kids.length cap))) (go_keep) (first | (go_at_call 58; refine (nodesOfFile d hU D kids ao cap _ HSM.out (by first | exact HLL.out.below ((Below.refl _ _).alloc (Nat.le_refl _) _) | exact HLL.out.below (((Below.refl _ _).alloc (Nat.le_refl _) _).drew)) HKS.out).mono ?_; rintro e w1 ⟨ao1, cap1, rfl, hcs, hb1⟩; have HB1 : Below w.heap.size w w1 := (by first | exact ((Below.refl w.heap.size w).alloc (Nat.le_refl _) _).trans (hb1.mono (by simp)) | exact (((Below.refl w.heap.size w).alloc (Nat.le_refl _) _).drew).trans (hb1.mono (by simp))); obtain ⟨ka, -⟩ := bblk hb1 (b := w.heap.size) (by simp)))
  go_wp2_with fail
  go_ret
  refine unpost _ ptrTy_2 sTy_2 rfl HB1 ?_
  rw [slots_2 _ rfl]
  exact ⟨rfl, rfl, rfl, rfl, rfl, CellsAre.fin hcs ((Below.refl _ _).alloc (Nat.le_refl _) _) (by simp), trivial⟩

set_option maxRecDepth 100000 in
set_option maxHeartbeats 2000000 in
theorem un_6 (d : Nat) (hU : UnC d) (n : Nd) (D : Nat) (w : World) (hL : LiesD D w n) (hG : PreD (d + 1) n) (hk : n.kind = 6) :
    Calls Tryz.prog 31 #[n.val] w (UnPost (d + 1) n w) := by
  obtain ⟨D, rfl⟩ : ∃ E, D = E + 1 := by cases D with | zero => exact hL.elim | succ E => exact ⟨E, rfl⟩
  obtain ⟨k, t, m, u, ao, cap, kids⟩ := n
  obtain rfl : k = 6 := hk
  have hn0 : (Nd.mk 6 t m u ao cap kids).kind ≠ 0 := by show (6 : Int) ≠ 0; decide
  have hn1 : (Nd.mk 6 t m u ao cap kids).kind ≠ 1 := by show (6 : Int) ≠ 1; decide
  have hks : ∀ x ∈ kids, GoodD d x ∧ x.kind ∈ ([7, 8, 9, 10, 11, 12, 14, 15] : List Int) := by
    intro x hx
    obtain ⟨i, hi, e⟩ := List.mem_iff_getElem.1 hx
    obtain ⟨hP, hC⟩ := hG.kid (i := i) (x := x) hn0 (by show kids[i]? = some x; rw [List.getElem?_eq_getElem hi, e])
    have hC1 := hC hn1
    have e1 : (fixedL 6).getD i (restL 6) = restL 6 := by rw [show fixedL 6 = [] from by decide]; simp
    have hC2 : ofClassB x (restL 6) = true := by rw [← e1]; exact hC1
    have hkx : x.kind ∈ ([7, 8, 9, 10, 11, 12, 14, 15] : List Int) := class_1 hP hC2
    exact ⟨hP.good (by revert hkx; unfold walkL; simp; omega), hkx⟩
  have hsm : kids.length ≤ 1000 := by have := hG.small; simp only [Nd.kids] at this; omega
  have HKS := Lib.hid hks
  have HLL := Lib.hid (show ListLies D w ao kids from hL.2)
  have HSM := Lib.hid hsm
  clear hn0 hn1 hL hG hks hsm
  show Calls _ _ #[.agg #[.int .i64 6, .string t, .string m, .int .u64 u, .slice ao kids.length cap]] w _
  go_enter Tryz.func31, Tryz.ntmps31
  go_wp2_with fail
  (go_at_call 61; refine (nodesOfStatement d hU D kids ao cap _ HSM.out (by first | exact HLL.out.below ((Below.refl _ _).alloc (Nat.le_refl _) _) | exact HLL.out.below (((Below.refl _ _).alloc (Nat.le_refl _) _).drew)) HKS.out).mono ?_; rintro e w1 ⟨ao1, cap1, rfl, hcs, hb1⟩; have HB1 : Below w.heap.size w w1 := (by first | exact ((Below.refl w.heap.size w).alloc (Nat.le_refl _) _).trans (hb1.mono (by simp)) | exact (((Below.refl w.heap.size w).alloc (Nat.le_refl _) _).drew).trans (hb1.mono (by simp))); obtain ⟨ka, -⟩ := bblk hb1 (b := w.heap.size) (by simp))
  go_wp2_with fail
  go_ret
  refine unpost _ ptrTy_6 sTy_6 rfl HB1 ?_
  rw [slots_6 _ rfl]
  exact ⟨rfl, rfl, rfl, rfl, CellsAre.fin hcs ((Below.refl _ _).alloc (Nat.le_refl _) _) (by simp), rfl, trivial⟩

set_option maxRecDepth 100000 in
set_option maxHeartbeats 2000000 in
theorem un_26 (d : Nat) (hU : UnC d) (n : Nd) (D : Nat) (w : World) (hL : LiesD D w n) (hG : PreD (d + 1) n) (hk : n.kind = 26) :
    Calls Tryz.prog 31 #[n.val] w (UnPost (d + 1) n w) := by
  obtain ⟨D, rfl⟩ : ∃ E, D = E + 1 := by cases D with | zero => exact hL.elim | succ E => exact ⟨E, rfl⟩
  obtain ⟨k, t, m, u, ao, cap, kids⟩ := n
  obtain rfl : k = 26 := hk
  have hn0 : (Nd.mk 26 t m u ao cap kids).kind ≠ 0 := by show (26 : Int) ≠ 0; decide
  have hn1 : (Nd.mk 26 t m u ao cap kids).kind ≠ 1 := by show (26 : Int) ≠ 1; decide
  have hks : ∀ x ∈ kids, GoodD d x ∧ x.kind ∈ ([16, 17, 18, 19, 20, 21, 22, 23, 24, 25, 26, 27, 28, 30, 33, 34, 35, 36, 37, 38, 39, 41, 42, 43] : List Int) := by
    intro x hx
    obtain ⟨i, hi, e⟩ := List.mem_iff_getElem.1 hx
    obtain ⟨hP, hC⟩ := hG.kid (i := i) (x := x) hn0 (by show kids[i]? = some x; rw [List.getElem?_eq_getElem hi, e])
    have hC1 := hC hn1
    have e1 : (fixedL 26).getD i (restL 26) = restL 26 := by rw [show fixedL 26 = [] from by decide]; simp
    have hC2 : ofClassB x (restL 26) = true := by rw [← e1]; exact hC1
    have hkx : x.kind ∈ ([16, 17, 18, 19, 20, 21, 22, 23, 24, 25, 26, 27, 28, 30, 33, 34, 35, 36, 37, 38, 39, 41, 42, 43] : List Int) := class_0 hC2
    exact ⟨hP.good (by revert hkx; unfold walkL; simp; omega), hkx⟩
  have hsm : kids.length ≤ 1000 := by have := hG.small; simp only [Nd.kids] at this; omega
  have HKS := Lib.hid hks
  have HLL := Lib.hid (show ListLies D w ao kids from hL.2)
  have HSM := Lib.hid hsm
  clear hn0 hn1 hL hG hks hsm
  show Calls _ _ #[.agg #[.int .i64 26, .string t, .string m, .int .u64 u, .slice ao kids.length cap]] w _
  go_enter Tryz.func31, Tryz.ntmps31
  go_wp2_with fail
  (go_at_call 75; refine (nodesOfExpression d hU D kids ao cap _ HSM.out (by first | exact HLL.out.below ((Below.refl _ _).alloc (Nat.le_refl _) _) | exact HLL.out.below (((Below.refl _ _).alloc (Nat.le_refl _) _).drew)) HKS.out).mono ?_; rintro e w1 ⟨ao1, cap1, rfl, hcs, hb1⟩; have HB1 : Below w.heap.size w w1 := (by first | exact ((Below.refl w.heap.size w).alloc (Nat.le_refl _) _).trans (hb1.mono (by simp)) | exact (((Below.refl w.heap.size w).alloc (Nat.le_refl _) _).drew).trans (hb1.mono (by simp))); obtain ⟨ka, -⟩ := bblk hb1 (b := w.heap.size) (by simp))
  go_wp2_with fail
  go_ret
  refine unpost _ ptrTy_26 sTy_26 rfl HB1 ?_
  rw [slots_26 _ rfl]
  exact ⟨rfl, rfl, rfl, rfl, CellsAre.fin hcs ((Below.refl _ _).alloc (Nat.le_refl _) _) (by simp), rfl, trivial⟩

set_option maxRecDepth 100000 in
set_option maxHeartbeats 2000000 in
theorem un_30 (d : Nat) (hU : UnC d) (n : Nd) (D : Nat) (w : World) (hL : LiesD D w n) (hG : PreD (d + 1) n) (hk : n.kind = 30) :
    Calls Tryz.prog 31 #[n.val] w (UnPost (d + 1) n w) := by
  obtain ⟨D, rfl⟩ : ∃ E, D = E + 1 := by cases D with | zero => exact hL.elim | succ E => exact ⟨E, rfl⟩
  obtain ⟨k, t, m, u, ao, cap, kids⟩ := n
  obtain rfl : k = 30 := hk
  have hn0 : (Nd.mk 30 t m u ao cap kids).kind ≠ 0 := by show (30 : Int) ≠ 0; decide
  have hn1 : (Nd.mk 30 t m u ao cap kids).kind ≠ 1 := by show (30 : Int) ≠ 1; decide
  have hks : ∀ x ∈ kids, GoodD d x ∧ x.kind ∈ ([31, 32] : List Int) := by
    intro x hx
    obtain ⟨i, hi, e⟩ := List.mem_iff_getElem.1 hx
    obtain ⟨hP, hC⟩ := hG.kid (i := i) (x := x) hn0 (by show kids[i]? = some x; rw [List.getElem?_eq_getElem hi, e])
    have hC1 := hC hn1
    have e1 : (fixedL 30).getD i (restL 30) = restL 30 := by rw [show fixedL 30 = [] from by decide]; simp
    have hC2 : ofClassB x (restL 30) = true := by rw [← e1]; exact hC1
    have hkx : x.kind ∈ ([31, 32] : List Int) := class_few [31, 32] rfl hC2
    exact ⟨hP.good (by revert hkx; unfold walkL; simp; omega), hkx⟩
  have hsm : kids.length ≤ 1000 := by have := hG.small; simp only [Nd.kids] at this; omega
  have HKS := Lib.hid hks
  have HLL := Lib.hid (show ListLies D w ao kids from hL.2)
  have HSM := Lib.hid hsm
  clear hn0 hn1 hL hG hks hsm
  show Calls _ _ #[.agg #[.int .i64 30, .string t, .string m, .int .u64 u, .slice ao kids.length cap]] w _
  go_enter Tryz.func31, Tryz.ntmps31
  go_wp2_with fail
  (go_at_call 81; refine (nodesOfStringExpressionPart d hU D kids ao cap _ HSM.out (by first | exact HLL.out.below ((Below.refl _ _).alloc (Nat.le_refl _) _) | exact HLL.out.below (((Below.refl _ _).alloc (Nat.le_refl _) _).drew)) HKS.out).mono ?_; rintro e w1 ⟨ao1, cap1, rfl, hcs, hb1⟩; have HB1 : Below w.heap.size w w1 := (by first | exact ((Below.refl w.heap.size w).alloc (Nat.le_refl _) _).trans (hb1.mono (by simp)) | exact (((Below.refl w.heap.size w).alloc (Nat.le_refl _) _).drew).trans (hb1.mono (by simp))); obtain ⟨ka, -⟩ := bblk hb1 (b := w.heap.size) (by simp))
  go_wp2_with fail
  go_ret
  refine unpost _ ptrTy_30 sTy_30 rfl HB1 ?_
  rw [slots_30 _ rfl]
  exact ⟨rfl, rfl, rfl, CellsAre.fin hcs ((Below.refl _ _).alloc (Nat.le_refl _) _) (by simp), trivial⟩

end Go.Proofs.YtongafghllkomaaGreatDoor
