/-
  unnode at a file once more: the file's block and the row of its statements are no blocks of what stands in it. No conditions.
  edit.DeleteOption over a file that the call has made itself: the first option of a name is taken out of the statements' row. No conditions.
-/
import Derived.Test.YtongafghllkomaaGreatDoorSepB
import Derived.Test.YtongafghllkomaaGreatDoorUnK
import Derived.Test.YtongafghllkomaaGreatDoorOptioned
import Derived.Test.YtongafghllkomaaGreatDoorDelP
import Derived.IntWalk
namespace Go.Proofs.YtongafghllkomaaGreatDoor
open Go.RowKit
set_option linter.unusedVariables false

/-- A file of the package lies in a block, what stands in it in other ones. -/
def SepFile (B d : Nat) (w : World) (n : Nd) (b : Nat) : Prop :=
  B ≤ b ∧ ∃ v5 v6 v7, w.heap[b]? = some (.cells #[.pointer none, .slice none 0 0, .slice none 0 0, .string n.text, .string n.more, v5, v6, v7, .slice none 0 0] (sTy n.kind) (0, 0)) ∧ some b ≠ v7.ownBlock ∧ RowTy 108 v7 w ∧
    SlotOk (Off B b v7) (RepD (Off B b v7) d) w (.mptr (n.kid 0)) v5 ∧ SlotOk (Off B b v7) (RepD (Off B b v7) d) w (.plist (n.kid 1).kids) v6 ∧
    CellsAre (From B) w v7 (n.kid 2).kids.length 1 (fun i cur => ∀ p, (n.kid 2).kids[i]? = some p → ∃ x, cur[i]? = some x ∧ HeldBy false (RepD (Off B b v7) d) w p x)

def FilePostS (d : Nat) (n : Nd) (w : World) (e : Ending) (w' : World) : Prop := ∃ b, e = .returned (.iface (pTy n.kind) (.pointer (some ⟨b, 0, none⟩))) ∧ SepFile w.heap.size d w' n b ∧ Below w.heap.size w w'

theorem sep_gt {X B d : Nat} {w : World} {n : Nd} {b : Nat} (h : RepD (From X) d w n b) (hX : B < X) : RepD (fun c => B < c) d w n b := h.mono fun c hc => Nat.lt_of_lt_of_le hX hc

/-- What lies between two sizes of memory. -/
theorem imp_within {B B0 d : Nat} {ns : List Nd} {c1 c2 : World} {v : Value} (h : CellsAre (From B) c1 v ns.length 1 (fun i cur => ∀ n, ns[i]? = some n → ∃ x, cur[i]? = some x ∧ HeldBy true (RepD (From B) d) c1 n x)) (hB : B0 ≤ B) (hb : Below c1.heap.size c1 c2) :
    SlotOk (fun c => B0 ≤ c ∧ c < c1.heap.size) (RepD (fun c => B0 ≤ c ∧ c < c1.heap.size) d) c2 (.plist ns) v := by
  show CellsAre _ c2 v ns.length 1 (fun i cur => ∀ n, ns[i]? = some n → ∃ x, cur[i]? = some x ∧ PtrTo _ c2 n x)
  refine CellsAre.carry h (fun c o hA ho => ⟨(Carries.of_below (A := fun _ => True) hb c o trivial ho).1, Nat.le_trans hB hA, (Array.getElem?_eq_some_iff.1 ho).1⟩) (fun i x _ hx n hn => ?_)
  obtain ⟨y, h1, h2⟩ := hx n hn
  obtain ⟨c, rfl, hr⟩ := (show PtrTo (RepD (From B) d) c1 n y from h2)
  exact ⟨_, h1, c, rfl, hr.carry (fun c o hA ho => ⟨(Carries.of_below (A := fun _ => True) hb c o trivial ho).1, Nat.le_trans hB hA, (Array.getElem?_eq_some_iff.1 ho).1⟩)⟩

theorem CellsAre.upS {ptr : Bool} {d B : Nat} {ns : List Nd} {w : World} {v : Value} {A : Nat → Prop} (h : CellsAre (From B) w v ns.length 1 (fun i cur => ∀ n, ns[i]? = some n → ∃ x, cur[i]? = some x ∧ HeldBy ptr (RepD A d) w n x)) :
    CellsAre (From B) w v ns.length 1 (fun i cur => ∀ n, ns[i]? = some n → ∃ x, cur[i]? = some x ∧ HeldBy ptr (RepD A (d + 1)) w n x) :=
  CellsAre.carry h (fun b o hA hb => ⟨hb, hA⟩) (fun i x _ hx n hn => let ⟨y, h1, h2⟩ := hx n hn; ⟨y, h1, h2.imp fun b hr => hr.up⟩)

theorem CellsAre.fromS {ptr : Bool} {d B B1 : Nat} {ns : List Nd} {w : World} {v : Value} (h : CellsAre (From B) w v ns.length 1 (fun i cur => ∀ n, ns[i]? = some n → ∃ x, cur[i]? = some x ∧ HeldBy ptr (RepD (fun c => B ≤ c ∧ some c ≠ v.ownBlock) d) w n x)) (hB : B1 ≤ B) :
    CellsAre (From B1) w v ns.length 1 (fun i cur => ∀ n, ns[i]? = some n → ∃ x, cur[i]? = some x ∧ HeldBy ptr (RepD (fun c => B1 ≤ c ∧ some c ≠ v.ownBlock) d) w n x) :=
  CellsAre.carry h (fun b o hA hb => ⟨hb, Nat.le_trans hB hA⟩) (fun i x _ hx n hn => let ⟨y, h1, h2⟩ := hx n hn; ⟨y, h1, h2.imp fun b hr => hr.mono fun c hc => ⟨Nat.le_trans hB hc.1, hc.2⟩⟩)

theorem sepf_post {d B1 : Nat} {n : Nd} {w c2 W : World} {T : Nat} {v5 v6 : Value} {ao2 : Option Addr} {cap2 : Nat} {ns1 ns2 : List Nd} (hk : n.kind = 3) (hT : pTy 3 = T) (h1e : (n.kid 1).kids = ns1) (h2e : (n.kid 2).kids = ns2) (hB2 : Below w.heap.size w c2)
    (h6 : SlotOk (fun c => w.heap.size ≤ c ∧ c < B1) (RepD (fun c => w.heap.size ≤ c ∧ c < B1) (d + 1)) c2 (.plist ns1) v6)
    (h7 : CellsAre (From B1) c2 (.slice ao2 ns2.length cap2) ns2.length 1 (fun i cur => ∀ p, ns2[i]? = some p → ∃ x, cur[i]? = some x ∧ HeldBy false (RepD (fun c => B1 ≤ c ∧ some c ≠ (Value.slice ao2 ns2.length cap2).ownBlock) (d + 1)) c2 p x))
    (hrt : RowTy 108 (.slice ao2 ns2.length cap2) c2)
    (hold : ∀ c, c < c2.heap.size → W.heap[c]? = c2.heap[c]?)
    (hnew : W.heap[c2.heap.size]? = some (.cells #[.pointer none, .slice none 0 0, .slice none 0 0, .string n.text, .string n.more, v5, v6, .slice ao2 ns2.length cap2, .slice none 0 0] (sTy 3) (0, 0)))
    (hBW : Below w.heap.size w W) (h5 : SlotOk (fun c => c2.heap.size < c) (RepD (fun c => c2.heap.size < c) (d + 1)) W (.mptr (n.kid 0)) v5) (hB1 : w.heap.size ≤ B1) :
    FilePostS (d + 1) n w (.returned (.iface T (.pointer (some ⟨c2.heap.size, 0, none⟩)))) W := by
  subst hT h1e h2e
  refine ⟨c2.heap.size, by rw [hk], ⟨hB2.size, v5, v6, _, by rw [hk]; exact hnew, fun e => ?_, fun g cur e fr hg hc => ?_, ?_, ?_, ?_⟩, hBW⟩
  · have := (cells_lt h7 e.symm).2
    omega
  · have hlt := (cells_lt h7 hg).2
    exact hrt g cur e fr hg (by rw [← hold g hlt]; exact hc)
  · refine h5.carry (fun m c hr => hr.carry ?_) ?_
    all_goals
      intro c o hA ho
      refine ⟨ho, Nat.le_trans hB2.size (Nat.le_of_lt hA), by omega, fun e => ?_⟩
      have := (cells_lt h7 e.symm).2
      omega
  · refine h6.carry (fun m c hr => hr.carry ?_) ?_
    all_goals
      intro c o hA ho
      have hlt := (Array.getElem?_eq_some_iff.1 ho).1
      refine ⟨(hold c hlt).trans ho, hA.1, by omega, fun e => ?_⟩
      have := (cells_lt h7 e.symm).1
      unfold From at this
      omega
  · refine CellsAre.carry h7 (fun c o hA ho => ⟨(hold c (Array.getElem?_eq_some_iff.1 ho).1).trans ho, Nat.le_trans hB1 hA⟩) (fun i x _ hx p hp => ?_)
    obtain ⟨y, hy1, hy2⟩ := hx p hp
    refine ⟨y, hy1, hy2.imp fun c hr => hr.carry (fun c o hA ho => ?_)⟩
    have hlt := (Array.getElem?_eq_some_iff.1 ho).1
    exact ⟨(hold c hlt).trans ho, Nat.le_trans hB1 hA.1, by omega, hA.2⟩

set_option maxRecDepth 100000 in
set_option maxHeartbeats 2000000 in
theorem sep_3_none (d : Nat) (hU : UnC (d + 1)) (hU2 : UnC d) (n : Nd) (D : Nat) (w : World) (hL : LiesD D w n) (hG : PreD (d + 1 + 1) n) (hk : n.kind = 3) (hm : (n.kid 0).kind = 0) :
    Calls Tryz.prog 31 #[n.val] w (FilePostS (d + 1) n w) := by
  obtain ⟨D, rfl⟩ : ∃ E, D = E + 1 := by cases D with | zero => exact hL.elim | succ E => exact ⟨E, rfl⟩
  obtain ⟨k, t, m, u, ao, cap, kids⟩ := n
  obtain rfl : k = 3 := hk
  have hn0 : (Nd.mk 3 t m u ao cap kids).kind ≠ 0 := by show (3 : Int) ≠ 0; decide
  have hn1 : (Nd.mk 3 t m u ao cap kids).kind ≠ 1 := by show (3 : Int) ≠ 1; decide
  have hln : kids.length = 3 := by
    have h1 := ((hG.fit hn0).2.2.2.1 hn1)
    have e1 : (fixedL 3).length = 3 := by decide
    have e2 : restL 3 = 28 := by decide
    simp only [Nd.kind, Nd.kids] at h1
    rw [e1, e2] at h1
    omega
  obtain ⟨x0, x1, x2, rfl⟩ : ∃ x y z, kids = [x, y, z] := kids3 (n := Nd.mk 3 t m u ao cap kids) hln
  obtain ⟨b, o, hao0, p00, p01, p02, p03, p04, hLx0⟩ := kid_cells (j := 0) hL rfl (Below.refl _ _)
  obtain rfl : ao = some ⟨b, o, none⟩ := hao0
  obtain ⟨bq, oq, hao1, p10, p11, p12, p13, p14, hLx1⟩ := kid_cells (j := 1) hL rfl (Below.refl _ _)
  cases hao1
  obtain ⟨bq, oq, hao2, p20, p21, p22, p23, p24, hLx2⟩ := kid_cells (j := 2) hL rfl (Below.refl _ _)
  cases hao2
  obtain ⟨hP0, hC0⟩ := hG.kid (i := 0) (x := x0) hn0 rfl
  obtain ⟨hP1, hC1⟩ := hG.kid (i := 1) (x := x1) hn0 rfl
  obtain ⟨hP2, hC2⟩ := hG.kid (i := 2) (x := x2) hn0 rfl
  have hk0 : x0.kind = 0 := hm
  obtain ⟨hk1, hk1s⟩ := class_17 (hC1 hn1)
  obtain ⟨hk2, hk2s⟩ := class_18 (hC2 hn1)
  simp only [Nat.zero_mul, Nat.add_zero, Nat.one_mul, Nat.reduceMul] at p00 p01 p02 p03 p04 p10 p11 p12 p13 p14 p20 p21 p22 p23 p24
  obtain ⟨D2, rfl⟩ : ∃ E, D = E + 1 := by cases D with | zero => exact hLx0.elim | succ E => exact ⟨E, rfl⟩
  have hkz : (x0.kind != 0) = false := by rw [hk0]; rfl
  have HLL1 := Lib.hid (show ListLies D2 w x1.ao x1.kids from hLx1.2)
  have HKS1 := Lib.hid (show ∀ x ∈ x1.kids, GoodD d x ∧ x.kind ∈ ([5] : List Int) from fun x hx => ⟨(list_good hP1 hk1 x hx).good (by rw [hk1s x hx]; decide), by rw [hk1s x hx]; decide⟩)
  have HSM1 := Lib.hid (show x1.kids.length ≤ 1000 from by have := hP1.small; omega)
  have HLL2 := Lib.hid (show ListLies D2 w x2.ao x2.kids from hLx2.2)
  have HKS2 := Lib.hid (show ∀ x ∈ x2.kids, GoodD d x ∧ x.kind ∈ ([7, 8, 9, 10, 11, 12, 14, 15] : List Int) from fun x hx => ⟨(list_good hP2 hk2 x hx).good (stmt_walk (stmt_of (list_good hP2 hk2 x hx) (hk2s x hx))), stmt_of (list_good hP2 hk2 x hx) (hk2s x hx)⟩)
  have HSM2 := Lib.hid (show x2.kids.length ≤ 1000 from by have := hP2.small; omega)
  have HK0 := Lib.hid hk0
  have HL0 := Lib.hid hLx0
  have hblt : b < w.heap.size := World.block_lt_of_cell? _ _ p00
  clear hn0 hn1 hln hP0 hC0 hP1 hC1 hP2 hC2 hk0 hk1 hk1s hk2 hk2s hLx0 hLx1 hLx2 hL hG hm
  show Calls _ _ #[.agg #[.int .i64 3, .string t, .string m, .int .u64 u, .slice (some ⟨b, o, none⟩) 3 cap]] w _
  go_enter Tryz.func31, Tryz.ntmps31
  go_wp2_with fail
  refine (exactly_any _ _ _ _ _ 3 _ _).mono ?_
  rintro e w1 ⟨rfl, hb1⟩
  have hz1 : w.heap.size < w1.heap.size := by have := hb1.size; simp at this; omega
  have HB1 := Lib.hid (((Below.refl w.heap.size w).alloc (Nat.le_refl _) _).trans (hb1.mono (by simp)))
  obtain ⟨k0, -⟩ := bblk hb1 (b := w.heap.size) (by simp)
  obtain ⟨k1, -⟩ := bblk hb1 (b := b) (by simp; omega)
  clear hb1
  go_wp2_with fail
  go_region_held3 (fun w' => (w'.cell? ⟨w.heap.size, 1, none⟩ = some (.string t) ∧ w'.cell? ⟨w.heap.size, 2, none⟩ = some (.string m) ∧ w'.cell? ⟨w.heap.size, 4, none⟩ = some (.slice (some ⟨b, o, none⟩) 3 cap) ∧ w'.cell? ⟨b, o + 5 + 4, none⟩ = some (.slice x1.ao x1.kids.length x1.cap) ∧ w'.cell? ⟨b, o + 10 + 4, none⟩ = some (.slice x2.ao x2.kids.length x2.cap))) (go_keep) (first | (go_at_call 60; refine (nodesOfImportDeclaration d hU2 D2 x1.kids x1.ao x1.cap _ HSM1.out (by first | exact HLL1.out.below HB1.out | exact HLL1.out.below (HB1.out.drew) | exact HLL1.out.below ‹Below w.heap.size w _› | exact HLL1.out.below (Below.drew ‹Below w.heap.size w _›)) HKS1.out).mono ?_; rintro e c1w ⟨ao1, cap1, rfl, hcs1, hb1⟩; have HZ1 : Below w.heap.size w c1w := (by first | exact Below.trans ‹Below w.heap.size w _› (hb1.mono (Below.size ‹Below w.heap.size w _›)) | exact Below.trans (Below.drew ‹Below w.heap.size w _›) (hb1.mono (by have := Below.size ‹Below w.heap.size w _›; simpa using this)) | exact HB1.out.trans (hb1.mono HB1.out.size) | exact (HB1.out.drew).trans (hb1.mono (by have := HB1.out.size; simpa using this))); have hz1 : w.heap.size < c1w.heap.size := (by have h := hb1.size; (try simp at h); omega); obtain ⟨ka1, -⟩ := bblk hb1 (b := w.heap.size) (by first | omega | (simp; omega)); obtain ⟨kb1, -⟩ := bblk hb1 (b := b) (by first | omega | (simp; omega))) | (go_at_call 61; refine (nodesOfStatementS d hU2 D2 x2.kids x2.ao x2.cap _ HSM2.out (by first | exact HLL2.out.below HB1.out | exact HLL2.out.below (HB1.out.drew) | exact HLL2.out.below ‹Below w.heap.size w _› | exact HLL2.out.below (Below.drew ‹Below w.heap.size w _›)) HKS2.out).mono ?_; rintro e c2w ⟨ao2, cap2, rfl, hcs2, hrt, hb2⟩; have HZ2 : Below w.heap.size w c2w := (by first | exact Below.trans ‹Below w.heap.size w _› (hb2.mono (Below.size ‹Below w.heap.size w _›)) | exact Below.trans (Below.drew ‹Below w.heap.size w _›) (hb2.mono (by have := Below.size ‹Below w.heap.size w _›; simpa using this)) | exact HB1.out.trans (hb2.mono HB1.out.size) | exact (HB1.out.drew).trans (hb2.mono (by have := HB1.out.size; simpa using this))); have hz2 : w.heap.size < c2w.heap.size := (by have h := hb2.size; (try simp at h); omega); obtain ⟨ka2, -⟩ := bblk hb2 (b := w.heap.size) (by first | omega | (simp; omega)); obtain ⟨kb2, -⟩ := bblk hb2 (b := b) (by first | omega | (simp; omega))))
  have hbz : b < c2w.heap.size := by omega
  have HZ := Lib.hid HZ2
  go_wp2_with fail
  go_ret
  exact sepf_post (n := .mk 3 t m u (some ⟨b, o, none⟩) cap [x0, x1, x2]) (ns1 := x1.kids) (ns2 := x2.kids) (B1 := c1w.heap.size) (c2 := c2w) (v5 := .pointer none) rfl ptrTy_3 rfl rfl HZ.out (imp_within (CellsAre.up hcs1) (by first | omega | (simp; omega) | (have h1 := hb1.size; have h2 := hb2.size; (try simp at h1); (try simp at h2); omega)) (by first | exact hb2 | (have h := hb2; simpa using h) : Below c1w.heap.size c1w c2w)) (CellsAre.upS (CellsAre.fromS hcs2 (by first | omega | (simp; omega) | (have h1 := hb1.size; have h2 := hb2.size; (try simp at h1); (try simp at h2); omega)))) hrt (fun c hc => heap_alloc_old _ _ hc) (by rw [show sTy 3 = 111 from sTy_3]; exact heap_alloc_new _ _) (HZ.out.alloc HZ.out.size _) (Or.inl ⟨HK0.out, rfl⟩) (by first | omega | (simp; omega) | (have h1 := hb1.size; have h2 := hb2.size; (try simp at h1); (try simp at h2); omega))

set_option maxRecDepth 100000 in
set_option maxHeartbeats 2000000 in
theorem sep_3 (d : Nat) (hU : UnC (d + 1)) (hU2 : UnC d) (n : Nd) (D : Nat) (w : World) (hL : LiesD D w n) (hG : PreD (d + 1 + 1) n) (hk : n.kind = 3) (hm : (n.kid 0).kind ≠ 0) :
    Calls Tryz.prog 31 #[n.val] w (FilePostS (d + 1) n w) := by
  obtain ⟨D, rfl⟩ : ∃ E, D = E + 1 := by cases D with | zero => exact hL.elim | succ E => exact ⟨E, rfl⟩
  obtain ⟨k, t, m, u, ao, cap, kids⟩ := n
  obtain rfl : k = 3 := hk
  have hn0 : (Nd.mk 3 t m u ao cap kids).kind ≠ 0 := by show (3 : Int) ≠ 0; decide
  have hn1 : (Nd.mk 3 t m u ao cap kids).kind ≠ 1 := by show (3 : Int) ≠ 1; decide
  have hln : kids.length = 3 := by
    have h1 := ((hG.fit hn0).2.2.2.1 hn1)
    have e1 : (fixedL 3).length = 3 := by decide
    have e2 : restL 3 = 28 := by decide
    simp only [Nd.kind, Nd.kids] at h1
    rw [e1, e2] at h1
    omega
  obtain ⟨x0, x1, x2, rfl⟩ : ∃ x y z, kids = [x, y, z] := kids3 (n := Nd.mk 3 t m u ao cap kids) hln
  obtain ⟨b, o, hao0, p00, p01, p02, p03, p04, hLx0⟩ := kid_cells (j := 0) hL rfl (Below.refl _ _)
  obtain rfl : ao = some ⟨b, o, none⟩ := hao0
  obtain ⟨bq, oq, hao1, p10, p11, p12, p13, p14, hLx1⟩ := kid_cells (j := 1) hL rfl (Below.refl _ _)
  cases hao1
  obtain ⟨bq, oq, hao2, p20, p21, p22, p23, p24, hLx2⟩ := kid_cells (j := 2) hL rfl (Below.refl _ _)
  cases hao2
  obtain ⟨hP0, hC0⟩ := hG.kid (i := 0) (x := x0) hn0 rfl
  obtain ⟨hP1, hC1⟩ := hG.kid (i := 1) (x := x1) hn0 rfl
  obtain ⟨hP2, hC2⟩ := hG.kid (i := 2) (x := x2) hn0 rfl
  have hk0 : x0.kind = 4 := by
    have h := class_few [4, 0] rfl (hC0 hn1)
    have h2 : x0.kind ≠ 0 := hm
    simp at h; omega
  obtain ⟨hk1, hk1s⟩ := class_17 (hC1 hn1)
  obtain ⟨hk2, hk2s⟩ := class_18 (hC2 hn1)
  simp only [Nat.zero_mul, Nat.add_zero, Nat.one_mul, Nat.reduceMul] at p00 p01 p02 p03 p04 p10 p11 p12 p13 p14 p20 p21 p22 p23 p24
  obtain ⟨D2, rfl⟩ : ∃ E, D = E + 1 := by cases D with | zero => exact hLx0.elim | succ E => exact ⟨E, rfl⟩
  have hkz : (x0.kind != 0) = true := by rw [hk0]; rfl
  have HLL1 := Lib.hid (show ListLies D2 w x1.ao x1.kids from hLx1.2)
  have HKS1 := Lib.hid (show ∀ x ∈ x1.kids, GoodD d x ∧ x.kind ∈ ([5] : List Int) from fun x hx => ⟨(list_good hP1 hk1 x hx).good (by rw [hk1s x hx]; decide), by rw [hk1s x hx]; decide⟩)
  have HSM1 := Lib.hid (show x1.kids.length ≤ 1000 from by have := hP1.small; omega)
  have HLL2 := Lib.hid (show ListLies D2 w x2.ao x2.kids from hLx2.2)
  have HKS2 := Lib.hid (show ∀ x ∈ x2.kids, GoodD d x ∧ x.kind ∈ ([7, 8, 9, 10, 11, 12, 14, 15] : List Int) from fun x hx => ⟨(list_good hP2 hk2 x hx).good (stmt_walk (stmt_of (list_good hP2 hk2 x hx) (hk2s x hx))), stmt_of (list_good hP2 hk2 x hx) (hk2s x hx)⟩)
  have HSM2 := Lib.hid (show x2.kids.length ≤ 1000 from by have := hP2.small; omega)
  have HG0 := Lib.hid (hP0.good (by rw [hk0]; decide))
  have HK0 := Lib.hid hk0
  have HL0 := Lib.hid hLx0
  have hblt : b < w.heap.size := World.block_lt_of_cell? _ _ p00
  clear hn0 hn1 hln hP0 hC0 hP1 hC1 hP2 hC2 hk0 hk1 hk1s hk2 hk2s hLx0 hLx1 hLx2 hL hG hm
  show Calls _ _ #[.agg #[.int .i64 3, .string t, .string m, .int .u64 u, .slice (some ⟨b, o, none⟩) 3 cap]] w _
  go_enter Tryz.func31, Tryz.ntmps31
  go_wp2_with fail
  refine (exactly_any _ _ _ _ _ 3 _ _).mono ?_
  rintro e w1 ⟨rfl, hb1⟩
  have hz1 : w.heap.size < w1.heap.size := by have := hb1.size; simp at this; omega
  have HB1 := Lib.hid (((Below.refl w.heap.size w).alloc (Nat.le_refl _) _).trans (hb1.mono (by simp)))
  obtain ⟨k0, -⟩ := bblk hb1 (b := w.heap.size) (by simp)
  obtain ⟨k1, -⟩ := bblk hb1 (b := b) (by simp; omega)
  clear hb1
  go_wp2_with fail
  go_region_held3 (fun w' => (w'.cell? ⟨w.heap.size, 1, none⟩ = some (.string t) ∧ w'.cell? ⟨w.heap.size, 2, none⟩ = some (.string m) ∧ w'.cell? ⟨w.heap.size, 4, none⟩ = some (.slice (some ⟨b, o, none⟩) 3 cap) ∧ w'.cell? ⟨b, o + 5 + 4, none⟩ = some (.slice x1.ao x1.kids.length x1.cap) ∧ w'.cell? ⟨b, o + 10 + 4, none⟩ = some (.slice x2.ao x2.kids.length x2.cap))) (go_keep) (first | (go_at_call 60; refine (nodesOfImportDeclaration d hU2 D2 x1.kids x1.ao x1.cap _ HSM1.out (by first | exact HLL1.out.below HB1.out | exact HLL1.out.below (HB1.out.drew) | exact HLL1.out.below ‹Below w.heap.size w _› | exact HLL1.out.below (Below.drew ‹Below w.heap.size w _›)) HKS1.out).mono ?_; rintro e c1w ⟨ao1, cap1, rfl, hcs1, hb1⟩; have HZ1 : Below w.heap.size w c1w := (by first | exact Below.trans ‹Below w.heap.size w _› (hb1.mono (Below.size ‹Below w.heap.size w _›)) | exact Below.trans (Below.drew ‹Below w.heap.size w _›) (hb1.mono (by have := Below.size ‹Below w.heap.size w _›; simpa using this)) | exact HB1.out.trans (hb1.mono HB1.out.size) | exact (HB1.out.drew).trans (hb1.mono (by have := HB1.out.size; simpa using this))); have hz1 : w.heap.size < c1w.heap.size := (by have h := hb1.size; (try simp at h); omega); obtain ⟨ka1, -⟩ := bblk hb1 (b := w.heap.size) (by first | omega | (simp; omega)); obtain ⟨kb1, -⟩ := bblk hb1 (b := b) (by first | omega | (simp; omega))) | (go_at_call 61; refine (nodesOfStatementS d hU2 D2 x2.kids x2.ao x2.cap _ HSM2.out (by first | exact HLL2.out.below HB1.out | exact HLL2.out.below (HB1.out.drew) | exact HLL2.out.below ‹Below w.heap.size w _› | exact HLL2.out.below (Below.drew ‹Below w.heap.size w _›)) HKS2.out).mono ?_; rintro e c2w ⟨ao2, cap2, rfl, hcs2, hrt, hb2⟩; have HZ2 : Below w.heap.size w c2w := (by first | exact Below.trans ‹Below w.heap.size w _› (hb2.mono (Below.size ‹Below w.heap.size w _›)) | exact Below.trans (Below.drew ‹Below w.heap.size w _›) (hb2.mono (by have := Below.size ‹Below w.heap.size w _›; simpa using this)) | exact HB1.out.trans (hb2.mono HB1.out.size) | exact (HB1.out.drew).trans (hb2.mono (by have := HB1.out.size; simpa using this))); have hz2 : w.heap.size < c2w.heap.size := (by have h := hb2.size; (try simp at h); omega); obtain ⟨ka2, -⟩ := bblk hb2 (b := w.heap.size) (by first | omega | (simp; omega)); obtain ⟨kb2, -⟩ := bblk hb2 (b := b) (by first | omega | (simp; omega))))
  have hbz : b < c2w.heap.size := by omega
  have HZ := Lib.hid HZ2
  go_wp2_with fail
  refine (nodeOf_4 (d + 1) hU x0 (D2 + 1) _ (HL0.out.below (HZ.out.alloc HZ.out.size _)) HG0.out HK0.out).mono ?_
  rintro e c3w ⟨b3, rfl, hR3, hb3⟩
  have HB := Lib.hid hb3
  have HR3 := Lib.hid hR3
  have hz3 : c2w.heap.size < c3w.heap.size := by have := hb3.size; simp at this; omega
  obtain ⟨ka3, fa3⟩ := bblk hb3 (b := c2w.heap.size) (by simp)
  clear hb3 hR3
  go_wp2_with fail
  go_ret
  refine sepf_post (n := .mk 3 t m u (some ⟨b, o, none⟩) cap [x0, x1, x2]) (ns1 := x1.kids) (ns2 := x2.kids) (B1 := c1w.heap.size) (c2 := c2w) (v5 := .pointer (some ⟨b3, 0, none⟩)) rfl ptrTy_3 rfl rfl HZ.out (imp_within (CellsAre.up hcs1) (by first | omega | (simp; omega) | (have h1 := hb1.size; have h2 := hb2.size; (try simp at h1); (try simp at h2); omega)) (by first | exact hb2 | (have h := hb2; simpa using h) : Below c1w.heap.size c1w c2w)) (CellsAre.upS (CellsAre.fromS hcs2 (by first | omega | (simp; omega) | (have h1 := hb1.size; have h2 := hb2.size; (try simp at h1); (try simp at h2); omega)))) hrt (fun c hc => ?_) ?_ ?_ (Or.inr ⟨(show x0.kind ≠ 0 from (by have h := HK0.out; omega)), b3, rfl, sep_gt (HR3.out.store2 (by simp)) (by simp)⟩) (by first | omega | (simp; omega) | (have h1 := hb1.size; have h2 := hb2.size; (try simp at h1); (try simp at h2); omega))
  · rw [Below.heap_setCell _ _ _ _ (fun e => by simp at e; omega), HB.out.block c (by simp; omega), heap_alloc_old _ _ hc]
  · rw [show sTy 3 = 111 from sTy_3]
    exact block_set HB.out
  · exact ((HZ.out.alloc HZ.out.size _).trans (HB.out.mono (by simp; omega))).setCell (by show w.heap.size ≤ c2w.heap.size; omega) _

end Go.Proofs.YtongafghllkomaaGreatDoor

namespace Go.Proofs.YtongafghllkomaaGreatDoor
open Go.RowKit
set_option linter.unusedVariables false

/-- A file without a statement. -/
def dropStmt (n : Nd) (i : Nat) : Nd := .mk n.kind n.text n.more n.num n.ao n.cap [n.kid 0, n.kid 1, dropKid (n.kid 2) i]

theorem SepFile.rep {B d : Nat} {w : World} {n : Nd} {b : Nat} (h : SepFile B d w n b) (hk : n.kind = 3) : RepD (From B) (d + 1) w n b := by
  obtain ⟨hB, v5, v6, v7, hb, hne, hrt, h5, h6, h7⟩ := h
  refine ⟨hB, [.pointer none, .slice none 0 0, .slice none 0 0, .string n.text, .string n.more, v5, v6, v7, .slice none 0 0], hb, ?_⟩
  rw [slots_3 _ hk]
  refine ⟨rfl, rfl, rfl, rfl, rfl, h5.carry (fun m c hr => hr.mono fun _ hc => hc.1) (fun c o hA ho => ⟨ho, hA.1⟩), h6.carry (fun m c hr => hr.mono fun _ hc => hc.1) (fun c o hA ho => ⟨ho, hA.1⟩), ?_, rfl, trivial⟩
  refine CellsAre.carry h7 (fun c o hA ho => ⟨ho, hA⟩) (fun i x _ hx p hp => ?_)
  obtain ⟨y, h1, h2⟩ := hx p hp
  exact ⟨y, h1, h2.imp fun c hr => hr.mono fun _ hc => hc.1⟩

/-- The file without an option, or as it was. -/
def DelOPost (B d : Nat) (n : Nd) (name : ByteArray) (b : Nat) (w0 : World) (e : Ending) (w' : World) : Prop :=
  e = .returned (.tuple #[]) ∧ ((∃ (i : Nat) (s : Nd), FirstOpt (n.kid 2).kids name i s ∧ RepD (From B) (d + 1) w' (dropStmt n i) b) ∨ (NoOpt (n.kid 2).kids name ∧ RepD (From B) (d + 1) w' n b)) ∧ Below B w0 w'

/-- Behind the append and the store the file lies without the option. -/
theorem delo_end {B d : Nat} {w w2 : World} {n : Nd} {b j len1 cap' g' T : Nat} {v5 v6 v7 : Value} {xs : List Value} (hk : n.kind = 3) (hj : j < (n.kid 2).kids.length) (hl1 : len1 + 1 = (n.kid 2).kids.length) (hBb : B ≤ b)
    (hb : w.heap[b]? = some (.cells #[.pointer none, .slice none 0 0, .slice none 0 0, .string n.text, .string n.more, v5, v6, v7, .slice none 0 0] (sTy n.kind) (0, 0))) (hne : some b ≠ v7.ownBlock)
    (h5 : SlotOk (Off B b v7) (RepD (Off B b v7) d) w (.mptr (n.kid 0)) v5) (h6 : SlotOk (Off B b v7) (RepD (Off B b v7) d) w (.plist (n.kid 1).kids) v6)
    (hE : ∀ (i : Nat) (p : Nd), (n.kid 2).kids[i]? = some p → ∃ x, xs[i]? = some x ∧ HeldBy false (RepD (Off B b v7) d) w p x)
    (hown : w2.ownsRow B T 1 (.slice (some ⟨g', 0, none⟩) len1 cap') len1 (xs.eraseIdx j)) (hgrow : w.grownBy w2 v7.ownBlock) (hgb : g' ≠ b) {W : World} (hW : W.heap = (w2.setCell ⟨b, 7, none⟩ (.slice (some ⟨g', 0, none⟩) len1 cap')).heap) :
    RepD (From B) (d + 1) W (dropStmt n j) b := by
  have hlt : b < w.heap.size := (Array.getElem?_eq_some_iff.1 hb).1
  have hb2 : w2.heap[b]? = some (.cells #[.pointer none, .slice none 0 0, .slice none 0 0, .string n.text, .string n.more, v5, v6, v7, .slice none 0 0] (sTy n.kind) (0, 0)) := (hgrow.block b hlt hne).trans hb
  have hcar : Carries (Off B b v7) (From B) w W := by
    intro c o hA ho
    have hc := (Array.getElem?_eq_some_iff.1 ho).1
    rw [hW]
    exact ⟨(Below.heap_setCell _ _ _ _ hA.2.1).trans ((hgrow.block c hc hA.2.2).trans ho), hA.1⟩
  refine ⟨hBb, [.pointer none, .slice none 0 0, .slice none 0 0, .string n.text, .string n.more, v5, v6, .slice (some ⟨g', 0, none⟩) len1 cap', .slice none 0 0], ?_, ?_⟩
  · show _ = some (Obj.cells _ (sTy n.kind) (0, 0))
    rw [hW]
    simp [World.setCell, Array.getElem?_modify, hb2]
  · rw [slots_3 _ (show (dropStmt n j).kind = 3 from hk)]
    have hlen : ((n.kid 2).kids.eraseIdx j).length = len1 := by rw [List.length_eraseIdx, if_pos hj]; omega
    refine ⟨rfl, rfl, rfl, rfl, rfl, h5.carry (fun n c hr => hr.carry hcar) hcar, h6.carry (fun n c hr => hr.carry hcar) hcar, ?_, rfl, trivial⟩
    show CellsAre (From B) _ _ ((n.kid 2).kids.eraseIdx j).length 1 (fun i cur => ∀ p, ((n.kid 2).kids.eraseIdx j)[i]? = some p → ∃ x, cur[i]? = some x ∧ IfcTo (RepD (From B) d) _ p x)
    rw [hlen]
    rcases hown.2 with ⟨hv, -⟩ | ⟨g, cap, cur, hv, hB, hg, hc1, hc2, hc3, hc4⟩
    · cases hv
    · cases hv
      refine Or.inr ⟨g', cap', cur, T, hB, rfl, by rw [hW]; exact (Below.heap_setCell _ _ _ _ hgb).trans hg, hc1, hc2, hc3, fun i hi p hp => ?_⟩
      have hcur : ∀ x, (xs.eraseIdx j)[i]? = some x → cur[i]? = some x := by
        intro x hx
        rw [← hc4, List.getElem?_take] at hx
        split at hx
        · simpa using hx
        · cases hx
      rcases erase_at hp with ⟨h1, h2⟩ | ⟨h1, h2⟩
      · obtain ⟨x, hx, hh⟩ := hE i p h2
        exact ⟨x, hcur x (by rw [List.getElem?_eraseIdx, if_pos h1]; exact hx), hh.imp fun c hr => hr.carry hcar⟩
      · obtain ⟨x, hx, hh⟩ := hE (i + 1) p h2
        exact ⟨x, hcur x (by rw [List.getElem?_eraseIdx, if_neg (by omega)]; exact hx), hh.imp fun c hr => hr.carry hcar⟩

set_option maxRecDepth 100000 in
set_option maxHeartbeats 4000000 in
theorem editDelO (B d : Nat) (n : Nd) (b : Nat) (name : ByteArray) (w0 w : World) (hS : SepFile B (d + 3) w n b) (hk : n.kind = 3) (hm : (n.kid 2).kids.length ≤ 1000) (hP : StmtsP (n.kid 2).kids) (hB0 : Below B w0 w) :
    Calls Tryz.prog 48 #[.pointer (some ⟨b, 0, none⟩), .string name] w (DelOPost B (d + 3) n name b w0) := by
  have HSO := Lib.hid hS
  obtain ⟨hBb, v5, v6, v7, hb, hne, hrt, h5, h6, h7⟩ := hS
  have HK3 := Lib.hid hk
  obtain ⟨ss, hss⟩ : ∃ ss, (n.kid 2).kids = ss := ⟨_, rfl⟩
  rw [hss] at hm hP h7
  obtain ⟨aoL, capL, rfl, hHL⟩ := HeldList.of (ptr := false) (R := RepD (Off B b v7) (d + 3)) (ns := ss) (v := v7) (w := w) (A := From B) h7
  have c7 : w.cell? ⟨b, 7, none⟩ = some (.slice aoL ss.length capL) := by rw [Lib.cell_of_heap hb]; rfl
  obtain ⟨len, hlen⟩ : ∃ len, ss.length = len := ⟨_, rfl⟩
  rw [hlen] at c7 hm
  have HN := Lib.hid hlen
  have HSS := Lib.hid hss
  have HHL := Lib.hid hHL
  have HP := Lib.hid hP
  have HB0 := Lib.hid hB0
  have HHB := Lib.hid hb
  have H5 := Lib.hid h5
  have H6 := Lib.hid h6
  have H7 := Lib.hid h7
  have HNE := Lib.hid hne
  have HBB := Lib.hid hBb
  have HRT := Lib.hid hrt
  clear hlen hss hHL hP hb hne h5 h6 h7 hB0 hBb hrt hk
  go_enter Tryz.func48, Tryz.ntmps48
  go_wp2_with fail
  go_loopg [16] len (fun gk i wr => wr = w ∧ ∃ (j : Nat), j ≤ len ∧ gk = len - j ∧ i = .int .i64 (j : Int) ∧ Hid (∀ (l : Nat) (r : Nd), l < j → ss[l]? = some r → ¬ IsOpt r name))
  case atStart => exact ⟨rfl, 0, by omega, by omega, rfl, Lib.hid (fun l r h => absurd h (by omega))⟩
  case round =>
    obtain ⟨rfl, j, hj, rfl, rfl, hD⟩ := hrel
    by_cases hjn : j < len
    · have hjz : (j : Int) < (len : Int) := by omega
      obtain ⟨s, hs⟩ : ∃ s, ss[j]? = some s := ⟨ss[j]'(by have := HN.out; omega), List.getElem?_eq_getElem _⟩
      obtain ⟨g0, z, rfl, c0, hh⟩ := HHL.out j s hs
      obtain ⟨bs, rfl, hRs⟩ := (show IfcTo (RepD (Off B b (.slice (some ⟨g0, 0, none⟩) ss.length capL)) (d + 3)) wr s z from hh)
      obtain ⟨hks, hop⟩ := HP.out j s hs
      have HS := Lib.hid hs
      by_cases h12 : s.kind = 12
      · obtain ⟨a, x, v, hsa, hka, hax, hkx, hkv⟩ := hop h12
        obtain ⟨ba, bx, bv, d3, d4, d5, d6, hRv⟩ := opt_cells hRs h12 hsa hka hax hkx
        rw [h12, show pTy 12 = 141 from ptrTy_12] at c0
        have q1 := optYes (.pointer (some ⟨bs, 0, none⟩)) wr
        have q2 := varYes (.pointer (some ⟨ba, 0, none⟩)) wr
        have ex : (s.kid 0).kid 0 = x := by unfold Nd.kid; rw [hsa]; show a.kids.getD 0 _ = x; rw [hax]; rfl
        have HIS := Lib.hid (show IsOpt s name ↔ x.text = name from ⟨fun h => by rw [← ex]; exact h.2, fun h => ⟨h12, by rw [ex]; exact h⟩⟩)
        clear hs hh hRs hks hop h12 hsa hka hax hkx hkv hRv ex d6
        by_cases hkey : x.text.toList = name.toList
        · have hke : (x.text.toList == name.toList) = true := by simpa using hkey
          have HE := Lib.hid (bytes_eq hkey)
          clear hkey
          obtain ⟨i0, hi, hz0, hz1, hz2⟩ := info_parts infoStatement
          obtain ⟨cur, hrow, hcapl, hcapm, hcsz, hEl⟩ := row_of H7.out HN.out HRT.out (by omega)
          have HROW := Lib.hid hrow
          have hBg : B ≤ g0 ∧ g0 ≠ b := ⟨(cells_lt H7.out rfl).1, fun e => HNE.out (by rw [e]; rfl)⟩
          have HEL := Lib.hid hEl
          have HCS := Lib.hid hcsz
          have c7w : wr.frozen? ⟨b, 7, none⟩ = false := Lib.frozen_of_heap HHB.out 7
          have hxl : cur.toList.take len = cur.toList.take len := rfl
          clear hrow hEl hcsz hxl
          have hlen5 : (cur.toList.take len).length = len := by have := HCS.out; simp; omega
          have hxs : ∀ (i : Nat), i < len → (cur.toList.take len)[i]? = cur[i]? := fun i hi => by rw [List.getElem?_take_of_lt hi]; simp
          have HE2 := Lib.hid (show ∀ (i : Nat) (p : Nd), ss[i]? = some p → ∃ x, (cur.toList.take len)[i]? = some x ∧ HeldBy false (RepD (Off B b (.slice (some ⟨g0, 0, none⟩) ss.length capL)) (d + 3)) wr p x from fun i p hp => by
            have hi : i < len := by have := (List.getElem?_eq_some_iff.1 hp).1; have := HN.out; omega
            rw [hxs i hi]
            exact HEL.out i hi p hp)
          have HONE := Lib.hid (show ∀ u ∈ (cur.toList.take len).drop (j + 1), u.oneCell' = true from fun u hu => by
            obtain ⟨i, hi⟩ := List.mem_iff_getElem?.1 (List.mem_of_mem_drop hu)
            have hil : i < len := by have := (List.getElem?_eq_some_iff.1 hi).1; omega
            obtain ⟨p, hp⟩ : ∃ p, ss[i]? = some p := ⟨ss[i]'(by have := HN.out; omega), List.getElem?_eq_getElem _⟩
            obtain ⟨x, hx, hh⟩ := HE2.out i p hp
            rw [hi] at hx
            cases hx
            obtain ⟨c, rfl, -⟩ := (show IfcTo _ wr p u from hh)
            rfl)
          have HLEN := Lib.hid hlen5
          have HNEWS := Lib.hid (show ∀ (W : World), W.heap[g0]? = some (.cells cur 108 (0, 0)) → ∀ i u, ((cur.toList.take len).drop (j + 1))[i]? = some u → W.cell? ((⟨g0, j + 1, none⟩ : Addr).add i) = some u from fun W hW i u hu => by
            rw [Addr.add_lit, Lib.cell_of_heap hW]
            rw [List.getElem?_drop] at hu
            have hil : j + 1 + i < len := by have := (List.getElem?_eq_some_iff.1 hu).1; omega
            rw [hxs _ hil] at hu
            exact hu)
          have HOWN := Lib.hid (show wr.ownsRow B 108 1 (.slice (some ⟨g0, 0, none⟩) j capL) j ((cur.toList.take len).take j) from
              ⟨by have := HCS.out; simp; omega, Or.inr ⟨g0, capL, cur, rfl, hBg.1, HROW.out, by omega, hcapm, HCS.out, by rw [List.take_take, Nat.mul_one, Nat.min_eq_left (by omega)]⟩⟩)
          have HFA := Lib.hid (show FirstOpt ss name j s from ⟨HS.out, HIS.out.2 HE.out, hD.out⟩)
          have HNE2 := Lib.hid (show some b ≠ (Value.slice (some ⟨g0, 0, none⟩) ss.length capL).ownBlock from HNE.out)
          have hj4 : (j : Int) ≤ (len : Int) := by omega
          have hj5 : (j : Int) ≤ (capL : Int) := by omega
          have hj6 : (len : Int) ≤ (capL : Int) := by omega
          have hj7 : (0 : Int) ≤ (j : Int) := by omega
          have hj8 : j ≤ capL := by omega
          have hj9 : j + 1 ≤ len := by omega
          have hj3 : (j : Int) + 1 ≤ (len : Int) := by omega
          have HBZ := Lib.hid (show b < wr.heap.size from (Array.getElem?_eq_some_iff.1 HHB.out).1)
          have hw1 : IntKind.i64.wrap ((j : Int) + 1) = (j : Int) + 1 := IntWalk.i64_in _ (by omega)
          have hw2 : (0 : Int) ≤ (j : Int) + 1 := by omega
          have hw3 : ((j : Int) + 1).toNat = j + 1 := by omega
          have HBG := Lib.hid hBg
          have HCM := Lib.hid hcapm
          have HJ := Lib.hid (show j < len ∧ len ≤ capL ∧ len ≤ 1000 from ⟨hjn, hcapl, hm⟩)
          clear hlen5 hxs hBg hcapm
          by_cases hlast : j + 1 = len
          · have HDR := Lib.hid (show (cur.toList.take len).eraseIdx j = (cur.toList.take len).take j by
              rw [List.eraseIdx_eq_take_drop_succ, List.drop_of_length_le (by have := HLEN.out; omega), List.append_nil])
            have HLAST := Lib.hid hlast
            clear hlast
            go_wp2_with fail
            go_region_law (first
              | (refine step_append_none rfl _ _ 105 rfl 108 i0 undStatement hi (some ⟨g0, 0, none⟩) j capL (by omega) rfl _ _ _ rfl (by have := HLAST.out; omega) ?_))
            all_goals go_wp2_with fail
            all_goals
              go_end0
              exact ⟨rfl, Or.inl ⟨j, s, by rw [HSS.out]; exact HFA.out, delo_end (T := 108) (len1 := j) HK3.out (by rw [HSS.out]; have := HN.out; omega) (by rw [HSS.out]; have := HN.out; have := HLAST.out; omega) HBB.out HHB.out HNE2.out H5.out H6.out (by rw [HSS.out]; exact HE2.out) (by rw [HDR.out]; exact HOWN.out.drew) (World.grownBy.refl _ _) HBG.out.2 (by first | rfl | (rw [‹capL = j + 1›]; rfl))⟩, by first | exact HB0.out.drew.setCell (p := ⟨b, 7, none⟩) HBB.out _ | exact (HB0.out.setCell (p := ⟨b, 7, none⟩) HBB.out _).drew⟩
          · have hj2 : ¬ j + 1 = capL := by omega
            have hj22 : ¬ capL = j + 1 := by omega
            have HF := Lib.hid (show ((cur.toList.take len).drop (j + 1)).length = (len - (j + 1)) * 1 ∧ 0 < len - (j + 1) ∧ j + (len - (j + 1)) ≤ maxLen ∧ (j + (len - (j + 1))) * 16 ≤ 140737488355328 ∧ B ≤ wr.heap.size from
              ⟨by have := HLEN.out; simp only [List.length_drop]; omega, by omega, by unfold maxLen; omega, by omega, by have := HBB.out; have := HBZ.out; omega⟩)
            clear hlast
            go_wp2_with fail
            go_region_law (first
              | (refine step_append_lies _ rfl _ _ 105 rfl B 108 i0 .nilIface 1 16 undStatement hi hz0 hz1 hz2 rfl (by decide) _ _ _ rfl HOWN.out.drew ⟨g0, j + 1, none⟩ (len - (j + 1)) (capL - (j + 1)) ((cur.toList.take len).drop (j + 1)) rfl HF.out.1 (HNEWS.out _ HROW.out) HONE.out HF.out.2.1 HF.out.2.2.1 HF.out.2.2.2.1 HF.out.2.2.2.2 _ rfl ?_; intro g' cap' w2 hown' hgrow hat hlt; have y5 := (hgrow.cell_far ⟨b, 7, none⟩ HBZ.out HNE2.out).trans c7; have y5f := (hgrow.frozen_far ⟨b, 7, none⟩ HBZ.out HNE2.out).trans c7w))
            all_goals
              have HOW2 := Lib.hid hown'
              have HGR := Lib.hid (show wr.grownBy w2 (Value.slice (some ⟨g0, 0, none⟩) ss.length capL).ownBlock from ⟨hgrow.os, hgrow.tape, hgrow.output, hgrow.size, hgrow.block⟩)
              have HG' := Lib.hid (show g' ≠ b from by
                rcases (show some g0 = some g' ∨ g' = wr.heap.size from hat) with h | h
                · intro e; exact HBG.out.2 ((Option.some.inj h).trans e)
                · have := HBZ.out; omega)
              clear hown' hgrow hat hlt
            all_goals go_wp2_with fail
            all_goals
              go_end0
              have HOX := HOW2.out
              rw [← List.eraseIdx_eq_take_drop_succ] at HOX
              exact ⟨rfl, Or.inl ⟨j, s, by rw [HSS.out]; exact HFA.out, delo_end (T := 108) (len1 := j + (len - (j + 1))) HK3.out (by rw [HSS.out]; have := HN.out; omega) (by rw [HSS.out]; have := HN.out; omega) HBB.out HHB.out HNE2.out H5.out H6.out (by rw [HSS.out]; exact HE2.out) HOX HGR.out HG'.out (by first | rfl | simp)⟩, by
                have hg := HB0.out.grown HGR.out HF.out.2.2.2.2 (fun c hc => by
                  have e : g0 = c := by simpa [Value.ownBlock] using hc
                  rw [← e]; exact HBG.out.1)
                first | exact hg.drew.setCell (p := ⟨b, 7, none⟩) HBB.out _ | exact (hg.setCell (p := ⟨b, 7, none⟩) HBB.out _).drew | exact hg.setCell (p := ⟨b, 7, none⟩) HBB.out _⟩
        · have hke : (x.text.toList == name.toList) = false := by simpa using hkey
          have HE := Lib.hid hkey
          clear hkey
          go_wp2_with fail
          go_roundg (len - (j + 1))
          case measure => omega
          case rel =>
            refine ⟨rfl, j + 1, by omega, rfl, by push_cast; rfl, Lib.hid (fun l r hl hr => ?_)⟩
            by_cases e : l = j
            · subst e
              rw [HS.out] at hr
              cases hr
              exact fun h => HE.out (by rw [HIS.out.1 h])
            · exact hD.out l r (by omega) hr
      · have q1 := optNo (pTy s.kind) (stmt_ty hks h12) (.pointer (some ⟨bs, 0, none⟩)) wr
        have HK := Lib.hid h12
        generalize pTy s.kind = T at q1 c0
        clear hs hh hRs hks hop h12
        go_wp2_with fail
        go_roundg (len - (j + 1))
        case measure => omega
        case rel =>
          refine ⟨rfl, j + 1, by omega, rfl, by push_cast; rfl, Lib.hid (fun l r hl hr => ?_)⟩
          by_cases e : l = j
          · subst e
            rw [HS.out] at hr
            cases hr
            exact fun h => HK.out h.1
          · exact hD.out l r (by omega) hr
    · have hjz : ¬ (j : Int) < (len : Int) := by omega
      obtain rfl : j = len := by omega
      go_wp2_with fail
      go_end0
      refine ⟨rfl, Or.inr ⟨?_, HSO.out.rep HK3.out⟩, HB0.out⟩
      rw [HSS.out]
      exact fun l r hr => hD.out l r (by have := (List.getElem?_eq_some_iff.1 hr).1; have := HN.out; omega) hr
end Go.Proofs.YtongafghllkomaaGreatDoor
