/-
  unnode kind by kind, part F: what it lays, given its own contract a level down. No conditions.
-/
import Derived.Test.YtongafghllkomaaGreatDoorOps2
namespace Go.Proofs.YtongafghllkomaaGreatDoor
open Go.RowKit
set_option linter.unusedVariables false


theorem kid_any (k : Int) (t m : ByteArray) (u : Int) (b o : Nat) (len cap : Nat) (x : Nd) (w : World) (hl : 0 < len) (c : NdCells w b o x) :
    Calls Tryz.prog 74 #[.agg #[.int .i64 k, .string t, .string m, .int .u64 u, .slice (some ⟨b, o, none⟩) len cap], .int .i64 0] w fun e w' => e = .returned x.val ∧ Below w.heap.size w w' := by
  have hc : ∀ ob o2, NdCells ((w.alloc ob).alloc o2) b o x := fun ob o2 => c.below (((Below.refl w.heap.size w).alloc (Nat.le_refl _) ob).alloc (by simp) o2) c.lt
  have h0 := fun ob o2 => (hc ob o2).1
  have h1 := fun ob o2 => (hc ob o2).2.1
  have h2 := fun ob o2 => (hc ob o2).2.2.1
  have h3 := fun ob o2 => (hc ob o2).2.2.2.1
  have h4 := fun ob o2 => (hc ob o2).2.2.2.2
  have hl2 : (0 : Int) < (len : Int) := by omega
  clear hc c
  go_enter Tryz.func74, Tryz.ntmps74
  go_wp2_with fail
  refine bodyPost_ret (v := x.val) ?_ rfl ⟨rfl, ((Below.refl w.heap.size w).alloc (Nat.le_refl _) _).alloc (by simp) _⟩
  simp [results, Tryz.f74, go_sem, Nd.val]

set_option maxRecDepth 100000 in
set_option maxHeartbeats 2000000 in
theorem un_16_one (d : Nat) (hU : UnC d) (n : Nd) (D : Nat) (w : World) (hL : LiesD D w n) (hG : PreD (d + 1) n) (hk : n.kind = 16) (hcp : n.cap = 1) :
    Calls Tryz.prog 31 #[n.val] w (UnPost (d + 1) n w) := by
  obtain ⟨D, rfl⟩ : ∃ E, D = E + 1 := by cases D with | zero => exact hL.elim | succ E => exact ⟨E, rfl⟩
  obtain ⟨k, t, m, u, ao, cap, kids⟩ := n
  obtain rfl : k = 16 := hk
  have hn0 : (Nd.mk 16 t m u ao cap kids).kind ≠ 0 := by show (16 : Int) ≠ 0; decide
  have hn1 : (Nd.mk 16 t m u ao cap kids).kind ≠ 1 := by show (16 : Int) ≠ 1; decide
  have hcap : cap = 1 := hcp
  clear hcp
  have h1 := ((hG.fit hn0).2.2.2.1 hn1)
  have e1 : (fixedL 16).length = 1 := by decide
  simp only [Nd.kind, Nd.kids] at h1
  rw [e1] at h1
  obtain ⟨x0, rest, rfl⟩ : ∃ x r, kids = x :: r := by
    cases kids with
    | nil => simp at h1
    | cons x r => exact ⟨x, r, rfl⟩
  have hroom : rest.length + 1 ≤ cap := by have := hG.room; simpa [Nd.kids, Nd.cap] using this
  obtain ⟨b, o, hao0, p00, p01, p02, p03, p04, hLx0⟩ := kid_cells (j := 0) hL rfl (Below.refl _ _)
  obtain rfl : ao = some ⟨b, o, none⟩ := hao0
  obtain ⟨hP0, hC0⟩ := hG.kid (i := 0) (x := x0) hn0 rfl
  have hk0 : x0.kind ∈ exprL := class_0 (hC0 hn1)
  have hks : ∀ x ∈ rest, GoodD d x ∧ x.kind ∈ ([16, 17, 18, 19, 20, 21, 22, 23, 24, 25, 26, 27, 28, 30, 33, 34, 35, 36, 37, 38, 39, 41, 42, 43] : List Int) := by
    intro x hx
    obtain ⟨i, hi, e⟩ := List.mem_iff_getElem.1 hx
    obtain ⟨hP, hC⟩ := hG.kid (i := i + 1) (x := x) hn0 (by show (x0 :: rest)[i + 1]? = some x; rw [List.getElem?_cons_succ, List.getElem?_eq_getElem hi, e])
    have hC1 := hC hn1
    have e1 : (fixedL 16).getD (i + 1) (restL 16) = restL 16 := by rw [show fixedL 16 = [0] from by decide]; simp
    have hC2 : ofClassB x (restL 16) = true := by rw [← e1]; exact hC1
    have hkx : x.kind ∈ ([16, 17, 18, 19, 20, 21, 22, 23, 24, 25, 26, 27, 28, 30, 33, 34, 35, 36, 37, 38, 39, 41, 42, 43] : List Int) := class_0 hC2
    exact ⟨hP.good (by revert hkx; unfold walkL; simp; omega), hkx⟩
  have hsm : rest.length ≤ 1000 := by have := hG.small; simp [Nd.kids] at this; omega
  simp only [Nat.zero_mul, Nat.add_zero] at p00 p01 p02 p03 p04
  have HKS := Lib.hid hks
  have HSM := Lib.hid hsm
  obtain rfl : cap = 1 := hcap
  obtain rfl : rest = [] := List.eq_nil_of_length_eq_zero (by omega)
  have HLL := Lib.hid (show ListLies D w (some ⟨b, o, none⟩) [] from fun i x hx => by simp at hx)
  have HG0 := Lib.hid (hP0.good (expr_walk hk0))
  have HK0 := Lib.hid hk0
  have HL0 := Lib.hid hLx0
  have HC0 := Lib.hid (show NdCells w b o x0 from ⟨p00, p01, p02, p03, p04⟩)
  have hblt : b < w.heap.size := World.block_lt_of_cell? _ _ p00
  clear hn0 hn1 hP0 hC0 hk0 hLx0 hL hG hks hsm h1 e1 hroom
  show Calls _ _ #[.agg #[.int .i64 16, .string t, .string m, .int .u64 u, .slice (some ⟨b, o, none⟩) 1 1]] w _
  go_enter Tryz.func31, Tryz.ntmps31
  go_wp2_with fail
  go_region_held3 (fun w' => (w'.cell? ⟨w.heap.size, 0, none⟩ = some (.int .i64 16) ∧ w'.cell? ⟨w.heap.size, 1, none⟩ = some (.string t) ∧ w'.cell? ⟨w.heap.size, 2, none⟩ = some (.string m) ∧ w'.cell? ⟨w.heap.size, 3, none⟩ = some (.int .u64 u) ∧ w'.cell? ⟨w.heap.size, 4, none⟩ = some (.slice (some ⟨b, o, none⟩) 1 1))) (go_keep) (first | (go_at_call 74; refine (kid_any _ _ _ _ b o _ _ x0 _ (by omega) (by first | exact HC0.out.below ‹Below w.heap.size w _› HC0.out.lt | exact HC0.out.below (Below.drew ‹Below w.heap.size w _›) HC0.out.lt | exact HC0.out.below ((Below.refl _ _).alloc (Nat.le_refl _) _) HC0.out.lt | exact HC0.out.below (((Below.refl _ _).alloc (Nat.le_refl _) _).drew) HC0.out.lt)).mono ?_; rintro e c7w ⟨rfl, hb7⟩; have HZ7 : Below w.heap.size w c7w := (by first | exact Below.trans ‹Below w.heap.size w _› (hb7.mono (Below.size ‹Below w.heap.size w _›)) | exact Below.trans (Below.drew ‹Below w.heap.size w _›) (hb7.mono (by have := Below.size ‹Below w.heap.size w _›; simpa using this)) | exact ((Below.refl w.heap.size w).alloc (Nat.le_refl _) _).trans (hb7.mono (by simp)) | exact (((Below.refl w.heap.size w).alloc (Nat.le_refl _) _).drew).trans (hb7.mono (by simp))); have hz7 : w.heap.size < c7w.heap.size := (by have h := hb7.size; (try simp at h); omega); obtain ⟨ka7, -⟩ := bblk hb7 (b := w.heap.size) (by first | omega | (simp; omega) | (simp; done))) | (go_at_call 73; refine (nodeOfExpression d hU x0 D _ (by first | exact HL0.out.below ‹Below w.heap.size w _› | exact HL0.out.below (Below.drew ‹Below w.heap.size w _›) | exact HL0.out.below ((Below.refl _ _).alloc (Nat.le_refl _) _) | exact HL0.out.below (((Below.refl _ _).alloc (Nat.le_refl _) _).drew)) HG0.out HK0.out).mono ?_; rintro e c0w ⟨b0, rfl, hR0, hb0⟩; have HZ0 : Below w.heap.size w c0w := (by first | exact Below.trans ‹Below w.heap.size w _› (hb0.mono (Below.size ‹Below w.heap.size w _›)) | exact Below.trans (Below.drew ‹Below w.heap.size w _›) (hb0.mono (by have := Below.size ‹Below w.heap.size w _›; simpa using this)) | exact ((Below.refl w.heap.size w).alloc (Nat.le_refl _) _).trans (hb0.mono (by simp)) | exact (((Below.refl w.heap.size w).alloc (Nat.le_refl _) _).drew).trans (hb0.mono (by simp))); have hz0 : w.heap.size < c0w.heap.size := (by have h := hb0.size; (try simp at h); omega); obtain ⟨ka0, -⟩ := bblk hb0 (b := w.heap.size) (by first | omega | (simp; omega) | (simp; done))) | (go_at_call 75; refine (nodesOfExpression d hU D [] _ _ _ HSM.out (by first | exact HLL.out.below ‹Below w.heap.size w _› | exact HLL.out.below (Below.drew ‹Below w.heap.size w _›) | exact HLL.out.below ((Below.refl _ _).alloc (Nat.le_refl _) _) | exact HLL.out.below (((Below.refl _ _).alloc (Nat.le_refl _) _).drew)) HKS.out).mono ?_; rintro e c1w ⟨ao1, cap1, rfl, hcs, hb1⟩; have HZ1 : Below w.heap.size w c1w := (by first | exact Below.trans ‹Below w.heap.size w _› (hb1.mono (Below.size ‹Below w.heap.size w _›)) | exact Below.trans (Below.drew ‹Below w.heap.size w _›) (hb1.mono (by have := Below.size ‹Below w.heap.size w _›; simpa using this)) | exact ((Below.refl w.heap.size w).alloc (Nat.le_refl _) _).trans (hb1.mono (by simp)) | exact (((Below.refl w.heap.size w).alloc (Nat.le_refl _) _).drew).trans (hb1.mono (by simp))); have hz1 : w.heap.size < c1w.heap.size := (by have h := hb1.size; (try simp at h); omega); obtain ⟨ka1, -⟩ := bblk hb1 (b := w.heap.size) (by first | omega | (simp; omega) | (simp; done))))
  go_wp2_with fail
  go_ret
  refine unpost _ ptrTy_16 sTy_16 rfl HZ1 ?_
  rw [slots_16 _ rfl]
  exact ⟨rfl, rfl, rfl, ⟨b0, rfl, ((hR0.mono (From.le (by first | omega | (simp; omega)))).below (by first | exact hb1 | (have h := hb1; simpa using h))).below ((Below.refl _ _).alloc (Nat.le_refl _) _)⟩, rfl, CellsAre.fin hcs ((Below.refl _ _).alloc (Nat.le_refl _) _) (by first | omega | (simp; omega)), rfl, trivial⟩

set_option maxRecDepth 100000 in
set_option maxHeartbeats 2000000 in
theorem un_16 (d : Nat) (hU : UnC d) (n : Nd) (D : Nat) (w : World) (hL : LiesD D w n) (hG : PreD (d + 1) n) (hk : n.kind = 16) (hcp : n.cap ≠ 1) :
    Calls Tryz.prog 31 #[n.val] w (UnPost (d + 1) n w) := by
  obtain ⟨D, rfl⟩ : ∃ E, D = E + 1 := by cases D with | zero => exact hL.elim | succ E => exact ⟨E, rfl⟩
  obtain ⟨k, t, m, u, ao, cap, kids⟩ := n
  obtain rfl : k = 16 := hk
  have hn0 : (Nd.mk 16 t m u ao cap kids).kind ≠ 0 := by show (16 : Int) ≠ 0; decide
  have hn1 : (Nd.mk 16 t m u ao cap kids).kind ≠ 1 := by show (16 : Int) ≠ 1; decide
  have hcap : cap ≠ 1 := hcp
  clear hcp
  have h1 := ((hG.fit hn0).2.2.2.1 hn1)
  have e1 : (fixedL 16).length = 1 := by decide
  simp only [Nd.kind, Nd.kids] at h1
  rw [e1] at h1
  obtain ⟨x0, rest, rfl⟩ : ∃ x r, kids = x :: r := by
    cases kids with
    | nil => simp at h1
    | cons x r => exact ⟨x, r, rfl⟩
  have hroom : rest.length + 1 ≤ cap := by have := hG.room; simpa [Nd.kids, Nd.cap] using this
  obtain ⟨b, o, hao0, p00, p01, p02, p03, p04, hLx0⟩ := kid_cells (j := 0) hL rfl (Below.refl _ _)
  obtain rfl : ao = some ⟨b, o, none⟩ := hao0
  obtain ⟨hP0, hC0⟩ := hG.kid (i := 0) (x := x0) hn0 rfl
  have hk0 : x0.kind ∈ exprL := class_0 (hC0 hn1)
  have hks : ∀ x ∈ rest, GoodD d x ∧ x.kind ∈ ([16, 17, 18, 19, 20, 21, 22, 23, 24, 25, 26, 27, 28, 30, 33, 34, 35, 36, 37, 38, 39, 41, 42, 43] : List Int) := by
    intro x hx
    obtain ⟨i, hi, e⟩ := List.mem_iff_getElem.1 hx
    obtain ⟨hP, hC⟩ := hG.kid (i := i + 1) (x := x) hn0 (by show (x0 :: rest)[i + 1]? = some x; rw [List.getElem?_cons_succ, List.getElem?_eq_getElem hi, e])
    have hC1 := hC hn1
    have e1 : (fixedL 16).getD (i + 1) (restL 16) = restL 16 := by rw [show fixedL 16 = [0] from by decide]; simp
    have hC2 : ofClassB x (restL 16) = true := by rw [← e1]; exact hC1
    have hkx : x.kind ∈ ([16, 17, 18, 19, 20, 21, 22, 23, 24, 25, 26, 27, 28, 30, 33, 34, 35, 36, 37, 38, 39, 41, 42, 43] : List Int) := class_0 hC2
    exact ⟨hP.good (by revert hkx; unfold walkL; simp; omega), hkx⟩
  have hsm : rest.length ≤ 1000 := by have := hG.small; simp [Nd.kids] at this; omega
  simp only [Nat.zero_mul, Nat.add_zero] at p00 p01 p02 p03 p04
  have HKS := Lib.hid hks
  have HSM := Lib.hid hsm
  have HLL := Lib.hid (show ListLies D w (some ⟨b, o + 5, none⟩) rest from fun i x hx => by
    obtain ⟨⟨b2, o2, ha, hc⟩, hl⟩ := hL.2 (i + 1) x (by show (x0 :: rest)[i + 1]? = some x; rw [List.getElem?_cons_succ]; exact hx)
    cases ha
    exact ⟨⟨b, o + 5, rfl, by have e : o + (i + 1) * 5 = o + 5 + i * 5 := by omega
                              rw [← e]; exact hc⟩, hl⟩)
  have HG0 := Lib.hid (hP0.good (expr_walk hk0))
  have HK0 := Lib.hid hk0
  have HL0 := Lib.hid hLx0
  have HC0 := Lib.hid (show NdCells w b o x0 from ⟨p00, p01, p02, p03, p04⟩)
  have hblt : b < w.heap.size := World.block_lt_of_cell? _ _ p00
  have hq1 : (1 : Int) ≤ (rest.length : Int) + 1 := by omega
  have hq2 : ¬ cap = 1 := hcap
  have hq3 : ¬ 1 = cap := fun e => hcap e.symm
  clear hn0 hn1 hP0 hC0 hk0 hLx0 hL hG hks hsm h1 e1 hroom
  show Calls _ _ #[.agg #[.int .i64 16, .string t, .string m, .int .u64 u, .slice (some ⟨b, o, none⟩) (rest.length + 1) cap]] w _
  go_enter Tryz.func31, Tryz.ntmps31
  go_wp2_with fail
  go_region_held3 (fun w' => (w'.cell? ⟨w.heap.size, 0, none⟩ = some (.int .i64 16) ∧ w'.cell? ⟨w.heap.size, 1, none⟩ = some (.string t) ∧ w'.cell? ⟨w.heap.size, 2, none⟩ = some (.string m) ∧ w'.cell? ⟨w.heap.size, 3, none⟩ = some (.int .u64 u) ∧ w'.cell? ⟨w.heap.size, 4, none⟩ = some (.slice (some ⟨b, o, none⟩) (rest.length + 1) cap))) (go_keep) (first | (go_at_call 74; refine (kid_any _ _ _ _ b o _ _ x0 _ (by omega) (by first | exact HC0.out.below ‹Below w.heap.size w _› HC0.out.lt | exact HC0.out.below (Below.drew ‹Below w.heap.size w _›) HC0.out.lt | exact HC0.out.below ((Below.refl _ _).alloc (Nat.le_refl _) _) HC0.out.lt | exact HC0.out.below (((Below.refl _ _).alloc (Nat.le_refl _) _).drew) HC0.out.lt)).mono ?_; rintro e c7w ⟨rfl, hb7⟩; have HZ7 : Below w.heap.size w c7w := (by first | exact Below.trans ‹Below w.heap.size w _› (hb7.mono (Below.size ‹Below w.heap.size w _›)) | exact Below.trans (Below.drew ‹Below w.heap.size w _›) (hb7.mono (by have := Below.size ‹Below w.heap.size w _›; simpa using this)) | exact ((Below.refl w.heap.size w).alloc (Nat.le_refl _) _).trans (hb7.mono (by simp)) | exact (((Below.refl w.heap.size w).alloc (Nat.le_refl _) _).drew).trans (hb7.mono (by simp))); have hz7 : w.heap.size < c7w.heap.size := (by have h := hb7.size; (try simp at h); omega); obtain ⟨ka7, -⟩ := bblk hb7 (b := w.heap.size) (by first | omega | (simp; omega) | (simp; done))) | (go_at_call 73; refine (nodeOfExpression d hU x0 D _ (by first | exact HL0.out.below ‹Below w.heap.size w _› | exact HL0.out.below (Below.drew ‹Below w.heap.size w _›) | exact HL0.out.below ((Below.refl _ _).alloc (Nat.le_refl _) _) | exact HL0.out.below (((Below.refl _ _).alloc (Nat.le_refl _) _).drew)) HG0.out HK0.out).mono ?_; rintro e c0w ⟨b0, rfl, hR0, hb0⟩; have HZ0 : Below w.heap.size w c0w := (by first | exact Below.trans ‹Below w.heap.size w _› (hb0.mono (Below.size ‹Below w.heap.size w _›)) | exact Below.trans (Below.drew ‹Below w.heap.size w _›) (hb0.mono (by have := Below.size ‹Below w.heap.size w _›; simpa using this)) | exact ((Below.refl w.heap.size w).alloc (Nat.le_refl _) _).trans (hb0.mono (by simp)) | exact (((Below.refl w.heap.size w).alloc (Nat.le_refl _) _).drew).trans (hb0.mono (by simp))); have hz0 : w.heap.size < c0w.heap.size := (by have h := hb0.size; (try simp at h); omega); obtain ⟨ka0, -⟩ := bblk hb0 (b := w.heap.size) (by first | omega | (simp; omega) | (simp; done))) | (go_at_call 75; refine (nodesOfExpression d hU D rest _ _ _ HSM.out (by first | exact HLL.out.below ‹Below w.heap.size w _› | exact HLL.out.below (Below.drew ‹Below w.heap.size w _›) | exact HLL.out.below ((Below.refl _ _).alloc (Nat.le_refl _) _) | exact HLL.out.below (((Below.refl _ _).alloc (Nat.le_refl _) _).drew)) HKS.out).mono ?_; rintro e c1w ⟨ao1, cap1, rfl, hcs, hb1⟩; have HZ1 : Below w.heap.size w c1w := (by first | exact Below.trans ‹Below w.heap.size w _› (hb1.mono (Below.size ‹Below w.heap.size w _›)) | exact Below.trans (Below.drew ‹Below w.heap.size w _›) (hb1.mono (by have := Below.size ‹Below w.heap.size w _›; simpa using this)) | exact ((Below.refl w.heap.size w).alloc (Nat.le_refl _) _).trans (hb1.mono (by simp)) | exact (((Below.refl w.heap.size w).alloc (Nat.le_refl _) _).drew).trans (hb1.mono (by simp))); have hz1 : w.heap.size < c1w.heap.size := (by have h := hb1.size; (try simp at h); omega); obtain ⟨ka1, -⟩ := bblk hb1 (b := w.heap.size) (by first | omega | (simp; omega) | (simp; done))))
  go_wp2_with fail
  go_ret
  refine unpost _ ptrTy_16 sTy_16 rfl HZ1 ?_
  rw [slots_16 _ rfl]
  exact ⟨rfl, rfl, rfl, ⟨b0, rfl, ((hR0.mono (From.le (by first | omega | (simp; omega)))).below (by first | exact hb1 | (have h := hb1; simpa using h))).below ((Below.refl _ _).alloc (Nat.le_refl _) _)⟩, rfl, CellsAre.fin hcs ((Below.refl _ _).alloc (Nat.le_refl _) _) (by first | omega | (simp; omega)), rfl, trivial⟩

end Go.Proofs.YtongafghllkomaaGreatDoor
