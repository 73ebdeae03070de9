/-
  unnode kind by kind, part E: what it lays, given its own contract a level down. No conditions.
  Operators, logical operators, patterns and moments, as unnode makes them. No conditions but the ranges that stand in each.
-/
import Derived.Test.YtongafghllkomaaGreatDoorTests
import Derived.Test.YtongafghllkomaaGreatDoorOps
import Derived.Deep.LoopGhost
namespace Go.Proofs.YtongafghllkomaaGreatDoor
open Go.RowKit
set_option linter.unusedVariables false


theorem CellsAre.fin {ptr : Bool} {d B B' : Nat} {ns : List Nd} {w w' : World} {v : Value} (h : CellsAre (From B) w v ns.length 1 (fun i cur => ∀ n, ns[i]? = some n → ∃ x, cur[i]? = some x ∧ HeldBy ptr (RepD (From B) d) w n x)) (hb : Below w.heap.size w w') (hB : B' ≤ B) :
    CellsAre (From B') w' v ns.length 1 (fun i cur => ∀ n, ns[i]? = some n → ∃ x, cur[i]? = some x ∧ HeldBy ptr (RepD (From B') d) w' n x) :=
  CellsAre.carry h (fun b o hA hb' => ⟨(Carries.of_below (A := From B) hb b o hA hb').1, Nat.le_trans hB hA⟩) (fun i x _ hx n hn => let ⟨y, h1, h2⟩ := hx n hn; ⟨y, h1, h2.imp fun b hr => (hr.mono (From.le hB)).below hb⟩)

set_option maxRecDepth 100000 in
set_option maxHeartbeats 2000000 in
theorem un_2 (d : Nat) (hU : UnC d) (n : Nd) (D : Nat) (w : World) (hL : LiesD D w n) (hG : PreD (d + 1) n) (hk : n.kind = 2) :
    Calls Tryz.prog 31 #[n.val] w (UnPost (d + 1) n w) := by
  obtain ⟨D, rfl⟩ : ∃ E, D = E + 1 := by cases D with | zero => exact hL.elim | succ E => exact ⟨E, rfl⟩
  obtain ⟨k, t, m, u, ao, cap, kids⟩ := n
  obtain rfl : k = 2 := hk
  have hn0 : (Nd.mk 2 t m u ao cap kids).kind ≠ 0 := by show (2 : Int) ≠ 0; decide
  have hn1 : (Nd.mk 2 t m u ao cap kids).kind ≠ 1 := by show (2 : Int) ≠ 1; decide
  have hks : ∀ x ∈ kids, GoodD d x ∧ x.kind ∈ ([3] : List Int) := by
    intro x hx
    obtain ⟨i, hi, e⟩ := List.mem_iff_getElem.1 hx
    obtain ⟨hP, hC⟩ := hG.kid (i := i) (x := x) hn0 (by show kids[i]? = some x; rw [List.getElem?_eq_getElem hi, e])
    have hC1 := hC hn1
    have e1 : (fixedL 2).getD i (restL 2) = restL 2 := by rw [show fixedL 2 = [] from by decide]; simp
    have hC2 : ofClassB x (restL 2) = true := by rw [← e1]; exact hC1
    have hkx : x.kind ∈ ([3] : List Int) := class_few [3] rfl hC2
    exact ⟨hP.good (by revert hkx; unfold walkL; simp; omega), hkx⟩
  have hsm : kids.length ≤ 1000 := by have := hG.small; simp only [Nd.kids] at this; omega
  have HKS := Lib.hid hks
  have HLL := Lib.hid (show ListLies D w ao kids from hL.2)
  have HSM := Lib.hid hsm
  clear hn0 hn1 hL hG hks hsm
  show Calls _ _ #[.agg #[.int .i64 2, .string t, .string m, .int .u64 u, .slice ao kids.length cap]] w _
  go_enter Tryz.func31, Tryz.ntmps31
  go_wp2_with fail
  go_region_held3 (fun w' => (w'.cell? ⟨w.heap.size, 1, none⟩ = some (.string t) ∧ w'.cell? ⟨w.heap.size, 2, none⟩ = some (.string m) ∧ w'.cell? ⟨w.heap.size, 4, none⟩ = some (.slice ao kids.length cap))) (go_keep) (first | (go_at_call 58; refine (nodesOfFile d hU D kids ao cap _ HSM.out (by first | exact HLL.out.below ((Below.refl _ _).alloc (Nat.le_refl _) _) | exact HLL.out.below (((Below.refl _ _).alloc (Nat.le_refl _) _).drew)) HKS.out).mono ?_; rintro e w1 ⟨ao1, cap1, rfl, hcs, hb1⟩; have HB1 : Below w.heap.size w w1 := (by first | exact ((Below.refl w.heap.size w).alloc (Nat.le_refl _) _).trans (hb1.mono (by simp)) | exact (((Below.refl w.heap.size w).alloc (Nat.le_refl _) _).drew).trans (hb1.mono (by simp))); obtain ⟨ka, -⟩ := bblk hb1 (b := w.heap.size) (by simp)))
  go_wp2_with fail
  go_ret
  refine unpost _ ptrTy_2 sTy_2 rfl HB1 ?_
  rw [slots_2 _ rfl]
  exact ⟨rfl, rfl, rfl, rfl, rfl, CellsAre.fin hcs ((Below.refl _ _).alloc (Nat.le_refl _) _) (by simp), trivial⟩

set_option maxRecDepth 100000 in
set_option maxHeartbeats 2000000 in
theorem un_6 (d : Nat) (hU : UnC d) (n : Nd) (D : Nat) (w : World) (hL : LiesD D w n) (hG : PreD (d + 1) n) (hk : n.kind = 6) :
    Calls Tryz.prog 31 #[n.val] w (UnPost (d + 1) n w) := by
  obtain ⟨D, rfl⟩ : ∃ E, D = E + 1 := by cases D with | zero => exact hL.elim | succ E => exact ⟨E, rfl⟩
  obtain ⟨k, t, m, u, ao, cap, kids⟩ := n
  obtain rfl : k = 6 := hk
  have hn0 : (Nd.mk 6 t m u ao cap kids).kind ≠ 0 := by show (6 : Int) ≠ 0; decide
  have hn1 : (Nd.mk 6 t m u ao cap kids).kind ≠ 1 := by show (6 : Int) ≠ 1; decide
  have hks : ∀ x ∈ kids, GoodD d x ∧ x.kind ∈ ([7, 8, 9, 10, 11, 12, 14, 15] : List Int) := by
    intro x hx
    obtain ⟨i, hi, e⟩ := List.mem_iff_getElem.1 hx
    obtain ⟨hP, hC⟩ := hG.kid (i := i) (x := x) hn0 (by show kids[i]? = some x; rw [List.getElem?_eq_getElem hi, e])
    have hC1 := hC hn1
    have e1 : (fixedL 6).getD i (restL 6) = restL 6 := by rw [show fixedL 6 = [] from by decide]; simp
    have hC2 : ofClassB x (restL 6) = true := by rw [← e1]; exact hC1
    have hkx : x.kind ∈ ([7, 8, 9, 10, 11, 12, 14, 15] : List Int) := class_1 hP hC2
    exact ⟨hP.good (by revert hkx; unfold walkL; simp; omega), hkx⟩
  have hsm : kids.length ≤ 1000 := by have := hG.small; simp only [Nd.kids] at this; omega
  have HKS := Lib.hid hks
  have HLL := Lib.hid (show ListLies D w ao kids from hL.2)
  have HSM := Lib.hid hsm
  clear hn0 hn1 hL hG hks hsm
  show Calls _ _ #[.agg #[.int .i64 6, .string t, .string m, .int .u64 u, .slice ao kids.length cap]] w _
  go_enter Tryz.func31, Tryz.ntmps31
  go_wp2_with fail
  (go_at_call 61; refine (nodesOfStatement d hU D kids ao cap _ HSM.out (by first | exact HLL.out.below ((Below.refl _ _).alloc (Nat.le_refl _) _) | exact HLL.out.below (((Below.refl _ _).alloc (Nat.le_refl _) _).drew)) HKS.out).mono ?_; rintro e w1 ⟨ao1, cap1, rfl, hcs, hb1⟩; have HB1 : Below w.heap.size w w1 := (by first | exact ((Below.refl w.heap.size w).alloc (Nat.le_refl _) _).trans (hb1.mono (by simp)) | exact (((Below.refl w.heap.size w).alloc (Nat.le_refl _) _).drew).trans (hb1.mono (by simp))); obtain ⟨ka, -⟩ := bblk hb1 (b := w.heap.size) (by simp))
  go_wp2_with fail
  go_ret
  refine unpost _ ptrTy_6 sTy_6 rfl HB1 ?_
  rw [slots_6 _ rfl]
  exact ⟨rfl, rfl, rfl, rfl, CellsAre.fin hcs ((Below.refl _ _).alloc (Nat.le_refl _) _) (by simp), rfl, trivial⟩

set_option maxRecDepth 100000 in
set_option maxHeartbeats 2000000 in
theorem un_26 (d : Nat) (hU : UnC d) (n : Nd) (D : Nat) (w : World) (hL : LiesD D w n) (hG : PreD (d + 1) n) (hk : n.kind = 26) :
    Calls Tryz.prog 31 #[n.val] w (UnPost (d + 1) n w) := by
  obtain ⟨D, rfl⟩ : ∃ E, D = E + 1 := by cases D with | zero => exact hL.elim | succ E => exact ⟨E, rfl⟩
  obtain ⟨k, t, m, u, ao, cap, kids⟩ := n
  obtain rfl : k = 26 := hk
  have hn0 : (Nd.mk 26 t m u ao cap kids).kind ≠ 0 := by show (26 : Int) ≠ 0; decide
  have hn1 : (Nd.mk 26 t m u ao cap kids).kind ≠ 1 := by show (26 : Int) ≠ 1; decide
  have hks : ∀ x ∈ kids, GoodD d x ∧ x.kind ∈ ([16, 17, 18, 19, 20, 21, 22, 23, 24, 25, 26, 27, 28, 30, 33, 34, 35, 36, 37, 38, 39, 41, 42, 43] : List Int) := by
    intro x hx
    obtain ⟨i, hi, e⟩ := List.mem_iff_getElem.1 hx
    obtain ⟨hP, hC⟩ := hG.kid (i := i) (x := x) hn0 (by show kids[i]? = some x; rw [List.getElem?_eq_getElem hi, e])
    have hC1 := hC hn1
    have e1 : (fixedL 26).getD i (restL 26) = restL 26 := by rw [show fixedL 26 = [] from by decide]; simp
    have hC2 : ofClassB x (restL 26) = true := by rw [← e1]; exact hC1
    have hkx : x.kind ∈ ([16, 17, 18, 19, 20, 21, 22, 23, 24, 25, 26, 27, 28, 30, 33, 34, 35, 36, 37, 38, 39, 41, 42, 43] : List Int) := class_0 hC2
    exact ⟨hP.good (by revert hkx; unfold walkL; simp; omega), hkx⟩
  have hsm : kids.length ≤ 1000 := by have := hG.small; simp only [Nd.kids] at this; omega
  have HKS := Lib.hid hks
  have HLL := Lib.hid (show ListLies D w ao kids from hL.2)
  have HSM := Lib.hid hsm
  clear hn0 hn1 hL hG hks hsm
  show Calls _ _ #[.agg #[.int .i64 26, .string t, .string m, .int .u64 u, .slice ao kids.length cap]] w _
  go_enter Tryz.func31, Tryz.ntmps31
  go_wp2_with fail
  (go_at_call 75; refine (nodesOfExpression d hU D kids ao cap _ HSM.out (by first | exact HLL.out.below ((Below.refl _ _).alloc (Nat.le_refl _) _) | exact HLL.out.below (((Below.refl _ _).alloc (Nat.le_refl _) _).drew)) HKS.out).mono ?_; rintro e w1 ⟨ao1, cap1, rfl, hcs, hb1⟩; have HB1 : Below w.heap.size w w1 := (by first | exact ((Below.refl w.heap.size w).alloc (Nat.le_refl _) _).trans (hb1.mono (by simp)) | exact (((Below.refl w.heap.size w).alloc (Nat.le_refl _) _).drew).trans (hb1.mono (by simp))); obtain ⟨ka, -⟩ := bblk hb1 (b := w.heap.size) (by simp))
  go_wp2_with fail
  go_ret
  refine unpost _ ptrTy_26 sTy_26 rfl HB1 ?_
  rw [slots_26 _ rfl]
  exact ⟨rfl, rfl, rfl, rfl, CellsAre.fin hcs ((Below.refl _ _).alloc (Nat.le_refl _) _) (by simp), rfl, trivial⟩

set_option maxRecDepth 100000 in
set_option maxHeartbeats 2000000 in
theorem un_30 (d : Nat) (hU : UnC d) (n : Nd) (D : Nat) (w : World) (hL : LiesD D w n) (hG : PreD (d + 1) n) (hk : n.kind = 30) :
    Calls Tryz.prog 31 #[n.val] w (UnPost (d + 1) n w) := by
  obtain ⟨D, rfl⟩ : ∃ E, D = E + 1 := by cases D with | zero => exact hL.elim | succ E => exact ⟨E, rfl⟩
  obtain ⟨k, t, m, u, ao, cap, kids⟩ := n
  obtain rfl : k = 30 := hk
  have hn0 : (Nd.mk 30 t m u ao cap kids).kind ≠ 0 := by show (30 : Int) ≠ 0; decide
  have hn1 : (Nd.mk 30 t m u ao cap kids).kind ≠ 1 := by show (30 : Int) ≠ 1; decide
  have hks : ∀ x ∈ kids, GoodD d x ∧ x.kind ∈ ([31, 32] : List Int) := by
    intro x hx
    obtain ⟨i, hi, e⟩ := List.mem_iff_getElem.1 hx
    obtain ⟨hP, hC⟩ := hG.kid (i := i) (x := x) hn0 (by show kids[i]? = some x; rw [List.getElem?_eq_getElem hi, e])
    have hC1 := hC hn1
    have e1 : (fixedL 30).getD i (restL 30) = restL 30 := by rw [show fixedL 30 = [] from by decide]; simp
    have hC2 : ofClassB x (restL 30) = true := by rw [← e1]; exact hC1
    have hkx : x.kind ∈ ([31, 32] : List Int) := class_few [31, 32] rfl hC2
    exact ⟨hP.good (by revert hkx; unfold walkL; simp; omega), hkx⟩
  have hsm : kids.length ≤ 1000 := by have := hG.small; simp only [Nd.kids] at this; omega
  have HKS := Lib.hid hks
  have HLL := Lib.hid (show ListLies D w ao kids from hL.2)
  have HSM := Lib.hid hsm
  clear hn0 hn1 hL hG hks hsm
  show Calls _ _ #[.agg #[.int .i64 30, .string t, .string m, .int .u64 u, .slice ao kids.length cap]] w _
  go_enter Tryz.func31, Tryz.ntmps31
  go_wp2_with fail
  (go_at_call 81; refine (nodesOfStringExpressionPart d hU D kids ao cap _ HSM.out (by first | exact HLL.out.below ((Below.refl _ _).alloc (Nat.le_refl _) _) | exact HLL.out.below (((Below.refl _ _).alloc (Nat.le_refl _) _).drew)) HKS.out).mono ?_; rintro e w1 ⟨ao1, cap1, rfl, hcs, hb1⟩; have HB1 : Below w.heap.size w w1 := (by first | exact ((Below.refl w.heap.size w).alloc (Nat.le_refl _) _).trans (hb1.mono (by simp)) | exact (((Below.refl w.heap.size w).alloc (Nat.le_refl _) _).drew).trans (hb1.mono (by simp))); obtain ⟨ka, -⟩ := bblk hb1 (b := w.heap.size) (by simp))
  go_wp2_with fail
  go_ret
  refine unpost _ ptrTy_30 sTy_30 rfl HB1 ?_
  rw [slots_30 _ rfl]
  exact ⟨rfl, rfl, rfl, CellsAre.fin hcs ((Below.refl _ _).alloc (Nat.le_refl _) _) (by simp), trivial⟩

end Go.Proofs.YtongafghllkomaaGreatDoor

namespace Go.Proofs.YtongafghllkomaaGreatDoor
open Go.RowKit
set_option linter.unusedVariables false

theorem lookup_any (m : Nat) (hm : m < 20) (w : World) : Calls Tryz.prog 119 #[.string (op m)] w fun e w' => e = .returned (.int .i64 ((m : Int) + 1)) ∧ w = w' := by
  go_enter Tryz.func119, Tryz.ntmps119
  go_wp2_with fail
  refine (opOf m hm _).mono ?_
  rintro e w1 ⟨rfl, rfl⟩
  go_wp2_with fail
  go_ret
  exact ⟨rfl, rfl⟩

theorem operator_any (m : Nat) (hm : m < 20) (w : World) : Calls Tryz.prog 79 #[.string (op m)] w fun e w' => e = .returned (.int .i64 ((m : Int) + 1)) ∧ w = w' := by
  have h1 : ((m : Int) + 1 != 0) = true := by simp; omega
  go_enter Tryz.func79, Tryz.ntmps79
  go_wp2_with fail
  refine (lookup_any m hm _).mono ?_
  rintro e w1 ⟨rfl, rfl⟩
  go_wp2_with fail
  go_ret
  exact ⟨rfl, rfl⟩

theorem logicalOf_and (w : World) : Calls Tryz.prog 149 #[.string ⟨#[97, 110, 100]⟩] w fun e w' => e = .returned (.int .i64 1) ∧ w = w' := by
  go_enter Tryz.func149, Tryz.ntmps149
  go_wp2
  go_loopg [3] 1 (fun gk i wr => wr = w ∧ i = .int .i64 1)
  case atStart => exact ⟨rfl, rfl⟩
  case round =>
    obtain ⟨rfl, rfl⟩ := hrel
    go_wp2
    go_ret
    exact ⟨rfl, rfl⟩
theorem logicalOf_or (w : World) : Calls Tryz.prog 149 #[.string ⟨#[111, 114]⟩] w fun e w' => e = .returned (.int .i64 2) ∧ w = w' := by
  go_enter Tryz.func149, Tryz.ntmps149
  go_wp2
  go_loopg [3] 1 (fun gk i wr => wr = w ∧ ((gk = 1 ∧ i = .int .i64 1) ∨ (gk = 0 ∧ i = .int .i64 2)))
  case atStart => exact ⟨rfl, Or.inl ⟨rfl, rfl⟩⟩
  case round =>
    obtain ⟨rfl, ⟨rfl, rfl⟩ | ⟨rfl, rfl⟩⟩ := hrel
    · go_wp2
      go_roundg 0
      case measure => omega
      case rel => exact ⟨rfl, Or.inr ⟨rfl, rfl⟩⟩
    · go_wp2
      go_ret
      exact ⟨rfl, rfl⟩
theorem logical_and (w : World) : Calls Tryz.prog 80 #[.string ⟨#[97, 110, 100]⟩] w fun e w' => e = .returned (.int .i64 1) ∧ w = w' := by
  go_enter Tryz.func80, Tryz.ntmps80
  go_wp2_with (first | (go_at_call 149; refine (logicalOf_and _).mono ?_; rintro e w' ⟨rfl, rfl⟩) | go_in)
  go_ret
  exact ⟨rfl, rfl⟩
theorem logical_or (w : World) : Calls Tryz.prog 80 #[.string ⟨#[111, 114]⟩] w fun e w' => e = .returned (.int .i64 2) ∧ w = w' := by
  go_enter Tryz.func80, Tryz.ntmps80
  go_wp2_with (first | (go_at_call 149; refine (logicalOf_or _).mono ?_; rintro e w' ⟨rfl, rfl⟩) | go_in)
  go_ret
  exact ⟨rfl, rfl⟩

theorem regexp_any (s : ByteArray) (w : World) : Calls Tryz.prog 85 #[.string s] w fun e w' => e = .returned (.pointer (some ⟨w.heap.size, 0, none⟩)) ∧ w' = w.alloc (.cells #[.string s] 304) := by
  go_enter Tryz.func85, Tryz.ntmps85
  go_wp2_with fail
  go_ret
  exact ⟨rfl, rfl⟩

theorem tmod_bd (n : Int) : -1000000000 < n.tmod 1000000000 ∧ n.tmod 1000000000 < 1000000000 := by
  rcases Int.le_total 0 n with h | h
  · rw [Int.tmod_eq_emod_of_nonneg h]; omega
  · obtain ⟨k, rfl⟩ : ∃ k, n = -k := ⟨-n, by omega⟩
    rw [Int.neg_tmod, Int.tmod_eq_emod_of_nonneg (by omega)]; omega

theorem unix_any (n : Int) (h1 : -9223372036854775808 ≤ n) (h2 : n ≤ 9223372036854775807) (w : World) : Calls Tryz.prog 84 #[.int .i64 0, .int .i64 n] w fun e w' => e = .returned (.agg #[.int .i64 (n / 1000000000), .int .i64 (n % 1000000000), .int .i64 0]) ∧ Below w.heap.size w w' := by
  have hb1 := (tmod_bd n).1
  have hb2 := (tmod_bd n).2
  have e1 := Int.mul_tdiv_add_tmod n 1000000000
  have hb3 : -9223372037 ≤ n.tdiv 1000000000 := by omega
  have hb4 : n.tdiv 1000000000 ≤ 9223372037 := by omega
  have E1 := Lib.hid e1
  clear e1
  go_enter Tryz.func84, Tryz.ntmps84
  go_wp2_with fail
  all_goals
    refine bodyPost_ret (v := .agg #[.int .i64 (n / 1000000000), .int .i64 (n % 1000000000), .int .i64 0]) ?_ rfl ⟨rfl, ?_⟩
    · have e1 := E1.out
      simp [results, Tryz.f84, go_sem]
      omega
    · first | exact (Below.refl _ _).alloc (Nat.le_refl _) _ | exact ((Below.refl w.heap.size w).alloc (Nat.le_refl _) _).setCell (by simp) _ | skip

theorem opNum_all : ∀ m : Fin 20, opNum (op m.val) = (m.val : Int) + 1 := by decide +kernel
theorem opNum_op {m : Nat} (hm : m < 20) : opNum (op m) = (m : Int) + 1 := opNum_all ⟨m, hm⟩
theorem logNum_and : logNum ⟨#[97, 110, 100]⟩ = 1 := by decide +kernel
theorem logNum_or : logNum ⟨#[111, 114]⟩ = 2 := by decide +kernel
theorem unary_op {s : ByteArray} (h : s ∈ unaryL) : ∃ m, m < 20 ∧ s = op m := by
  simp only [unaryL, List.mem_cons, List.not_mem_nil, or_false] at h
  rcases h with rfl | rfl | rfl | rfl
  · exact ⟨5, by omega, rfl⟩
  · exact ⟨4, by omega, rfl⟩
  · exact ⟨12, by omega, rfl⟩
  · exact ⟨13, by omega, rfl⟩
theorem wrap64_bd (n : Int) : -9223372036854775808 ≤ wrap64 n ∧ wrap64 n ≤ 9223372036854775807 := by
  unfold wrap64; omega
end Go.Proofs.YtongafghllkomaaGreatDoor
