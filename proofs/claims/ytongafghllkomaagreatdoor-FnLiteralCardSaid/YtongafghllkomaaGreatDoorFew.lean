/-
  Fits at this seat's numbers: it answers, and where it says yes the tree is of at most 400 nodes and fits at 12 levels. No conditions beyond the tables of the decoder.
-/
import Derived.Test.YtongafghllkomaaGreatDoorFits
import Derived.Test.YtongafghllkomaaGreatDoorPlainA
import Derived.Test.YtongafghllkomaaGreatDoorPlainB
import Derived.Test.YtongafghllkomaaGreatDoorPlainC
namespace Go.Proofs.YtongafghllkomaaGreatDoor
open Go.RowKit
set_option linter.unusedVariables false

theorem plain_all : PlainC := by
  intro k t m u ao len cap kids w ht hm hT
  by_cases h2 : k = 2
  · subst h2; exact plain_2 t m u ao len cap kids w ht hm hT
  by_cases h3 : k = 3
  · subst h3; exact plain_3 t m u ao len cap kids w ht hm hT
  by_cases h7 : k = 7
  · subst h7; exact plain_7 t m u ao len cap kids w ht hm hT
  by_cases h21 : k = 21
  · subst h21; exact plain_21 t m u ao len cap kids w ht hm hT
  by_cases h22 : k = 22
  · subst h22; exact plain_22 t m u ao len cap kids w ht hm hT
  by_cases h23 : k = 23
  · subst h23; exact plain_23 t m u ao len cap kids w ht hm hT
  by_cases h31 : k = 31
  · subst h31; exact plain_31 t m u ao len cap kids w ht hm hT
  by_cases h33 : k = 33
  · subst h33; exact plain_33 t m u ao len cap kids w ht hm hT
  by_cases h34 : k = 34
  · subst h34; exact plain_34 t m u ao len cap kids w ht hm hT
  by_cases h35 : k = 35
  · subst h35; exact plain_35 t m u ao len cap kids w ht hm hT
  by_cases h36 : k = 36
  · subst h36; exact plain_36 t m u ao len cap kids w ht hm hT
  by_cases h37 : k = 37
  · subst h37; exact plain_37 t m u ao len cap kids w ht hm hT
  by_cases h38 : k = 38
  · subst h38; exact plain_38 t m u ao len cap kids w ht hm hT
  by_cases h40 : k = 40
  · subst h40; exact plain_40 t m u ao len cap kids w ht hm hT
  by_cases h41 : k = 41
  · subst h41; exact plain_41 t m u ao len cap kids w ht hm hT
  by_cases h42 : k = 42
  · subst h42; exact plain_42 t m u ao len cap kids w ht hm hT
  by_cases h52 : k = 52
  · subst h52; exact plain_52 t m u ao len cap kids w ht hm hT
  exact plain_other k (by omega) t m u ao len cap kids w ht hm hT

theorem gblk {w w1 : World} {lb b : Nat} (hg : w.grownBy w1 (some lb)) (h : b < w.heap.size) (hne : b ≠ lb) : (∀ o, w1.cell? ⟨b, o, none⟩ = w.cell? ⟨b, o, none⟩) ∧ (∀ o, w1.frozen? ⟨b, o, none⟩ = w.frozen? ⟨b, o, none⟩) := by
  have e := hg.block b h (by simpa using hne)
  refine ⟨fun o => ?_, fun o => ?_⟩
  · unfold World.cell?; rw [e]
  · unfold World.frozen?; rw [e]

/-- The world turns at one block alone. -/
theorem grown_set {w : World} {lb : Nat} (v : Value) (h : lb < w.heap.size) : w.grownBy (w.setCell ⟨lb, 0, none⟩ v) (some lb) :=
  ⟨rfl, rfl, rfl, by simp [World.setCell], fun k _ hk => Below.heap_setCell _ _ _ _ (fun e => hk (by simp [e]))⟩

theorem grown_tr {w w1 w2 : World} {r : Option Nat} (h : w.grownBy w1 r) (g : w1.grownBy w2 r) : w.grownBy w2 r :=
  ⟨g.os.trans h.os, g.tape.trans h.tape, g.output.trans h.output, Nat.le_trans h.size g.size, fun k hk hr => (g.block k (Nat.lt_of_lt_of_le hk h.size) hr).trans (h.block k hk hr)⟩

/-- Below the block nothing has turned. -/
theorem grown_below {w0 w w1 : World} {lb : Nat} (hb : Below w0.heap.size w0 w) (hlb : w0.heap.size ≤ lb) (hg : w.grownBy w1 (some lb)) : Below w0.heap.size w0 w1 :=
  hb.grown hg hb.size (fun j hj => by cases hj; exact hlb)

/-- What few has done. -/
def FewPost (D : Nat) (n : Nd) (lb : Nat) (L : Int) (w : World) (e : Ending) (w' : World) : Prop :=
  ∃ b : Bool, e = .returned (.bool b) ∧ w.grownBy w' (some lb) ∧ (b = true → ∃ L' : Int, w'.heap[lb]? = some (.cells #[.int .i64 L'] 3 (0, 0)) ∧ 0 ≤ L' ∧ L' = L - (Nd.countD D n : Nat))

/-- few, so many levels down: the tree lies below a block. -/
def FewC (D : Nat) : Prop := ∀ (n : Nd) (lb : Nat) (L : Int) (w0 w : World), LiesD D w0 n → w0.heap.size ≤ lb → Below w0.heap.size w0 w → 0 ≤ L → L ≤ 400 → w.heap[lb]? = some (.cells #[.int .i64 L] 3 (0, 0)) →
    Calls Tryz.prog 44 #[n.val, .pointer (some ⟨lb, 0, none⟩)] w (FewPost D n lb L w)

theorem few_zero : FewC 0 := fun n lb L w0 w hL _ _ _ _ _ => hL.elim

def sumTo (D : Nat) (kids : List Nd) (j : Nat) : Nat := ((kids.take j).map (Nd.countD D)).sum
theorem sumTo_succ {D : Nat} {kids : List Nd} {j : Nat} {x : Nd} (h : kids[j]? = some x) : sumTo D kids (j + 1) = sumTo D kids j + Nd.countD D x := by
  unfold sumTo
  rw [List.take_add_one, h]
  simp

set_option maxRecDepth 100000 in
set_option maxHeartbeats 1000000 in
theorem few_succ (D : Nat) (ih : FewC D) : FewC (D + 1) := by
  intro n lb L w0 w hL hlb hB0 hL0 hL4 hcell
  obtain ⟨k, t, m, u, ao, cap, kids⟩ := n
  have hM := hL.len_le
  obtain ⟨len, hlen⟩ : ∃ len, kids.length = len := ⟨_, rfl⟩
  show Calls _ _ #[.agg #[.int .i64 k, .string t, .string m, .int .u64 u, .slice ao kids.length cap], _] w _
  rw [hlen] at hM ⊢
  have HN := Lib.hid hlen
  have HL := Lib.hid hL
  have HB0 := Lib.hid hB0
  have hlt : lb < w.heap.size := (Array.getElem?_eq_some_iff.1 hcell).1
  have c0 : w.cell? ⟨lb, 0, none⟩ = some (.int .i64 L) := by rw [Lib.cell_of_heap hcell]; rfl
  have f0 : w.frozen? ⟨lb, 0, none⟩ = false := Lib.frozen_of_heap hcell 0
  have HC := Lib.hid hcell
  clear hlen hL hB0 hcell
  by_cases hL1 : L = 0
  · subst hL1
    go_enter Tryz.func44, Tryz.ntmps44
    go_wp2_with fail
    go_ret
    refine ⟨false, rfl, ?_, (by intro h; cases h)⟩
    exact grown_tr (grown_set _ hlt) (World.grownBy_alloc _ _ _)
  have hL2 : ¬ L - 1 < 0 := by omega
  go_enter Tryz.func44, Tryz.ntmps44
  go_wp2_with fail
  have hne : w.heap.size ≠ lb := by omega
  have H0 := Lib.hid (show (w.setCell ⟨lb, 0, none⟩ (.int .i64 (L - 1))).heap[lb]? = some (.cells #[.int .i64 (L - 1)] 3 (0, 0)) by simp [World.setCell, Array.getElem?_modify, HC.out])
  have G0 := fun ob => Lib.hid (grown_tr (grown_set (.int .i64 (L - 1)) hlt) (World.grownBy_alloc (w.setCell ⟨lb, 0, none⟩ (.int .i64 (L - 1))) ob (some lb)))
  have HS := Lib.hid (show (w.setCell ⟨lb, 0, none⟩ (.int .i64 (L - 1))).heap.size = w.heap.size by simp [World.setCell])
  have HBX := Lib.hid (show ∀ ob, ((w.setCell ⟨lb, 0, none⟩ (.int .i64 (L - 1))).alloc ob).heap[w.heap.size]? = some ob by
    intro ob
    have := heap_alloc_new (w.setCell ⟨lb, 0, none⟩ (.int .i64 (L - 1))) ob
    rwa [HS.out] at this)
  have hL5 : 0 ≤ L - 1 := by omega
  go_loopg [5] len (fun gk i wr => ∃ (j : Nat) (Lj : Int), j ≤ len ∧ gk = len - j ∧ i = .int .i64 (j : Int) ∧ Hid (wr.heap[lb]? = some (.cells #[.int .i64 Lj] 3 (0, 0)) ∧ 0 ≤ Lj ∧ Lj = L - 1 - (sumTo D kids j : Nat)) ∧ Hid (w.grownBy wr (some lb)) ∧ Hid (wr.heap[w.heap.size]? = some (.cells #[.int .i64 k, .string t, .string m, .int .u64 u, .slice ao len cap] 25)))
  case atStart =>
    refine ⟨0, L - 1, by omega, by omega, rfl, Lib.hid ⟨?_, hL5, by simp [sumTo]⟩, G0 _, Lib.hid (HBX.out _)⟩
    rw [heap_alloc_old _ _ (by rw [HS.out]; exact hlt)]
    exact H0.out
  case round =>
    obtain ⟨j, Lj, hj, rfl, rfl, hcl, hG, hbx⟩ := hrel
    clear H0 G0 HBX HS
    obtain ⟨hcl1, hcl2, hcl3⟩ := hcl.out
    have b0 : wr.cell? ⟨w.heap.size, 0, none⟩ = some (.int .i64 k) := by rw [Lib.cell_of_heap hbx.out]; rfl
    have b4 : wr.cell? ⟨w.heap.size, 4, none⟩ = some (.slice ao len cap) := by rw [Lib.cell_of_heap hbx.out]; rfl
    have HCL1 := Lib.hid hcl1
    have HCL3 := Lib.hid hcl3
    have hLj4 : Lj ≤ 400 := by omega
    clear hcl hcl1 hcl3
    by_cases hjn : j < len
    · have hjz : (j : Int) < (len : Int) := by omega
      obtain ⟨x, hx⟩ : ∃ x, kids[j]? = some x := ⟨kids[j]'(by have := HN.out; omega), List.getElem?_eq_getElem _⟩
      obtain ⟨b, o, hao, c0', c1, c2, c3, c4, -⟩ := kid_cells HL.out hx (grown_below HB0.out hlb hG.out)
      have hLx := (HL.out.2 j x hx).2
      obtain rfl : ao = some ⟨b, o, none⟩ := hao
      have HX := Lib.hid hx
      have HLX := Lib.hid hLx
      clear hx hLx
      go_wp2_with fail
      refine (ih x lb Lj w0 _ HLX.out hlb (grown_below HB0.out hlb hG.out) hcl2 hLj4 HCL1.out).mono ?_
      rintro e w4 ⟨bf, rfl, hg4, hp4⟩
      have HG4 := Lib.hid (grown_tr hG.out hg4)
      have HP4 := Lib.hid hp4
      have HBX4 := Lib.hid ((hg4.block w.heap.size (Array.getElem?_eq_some_iff.1 hbx.out).1 (by simpa using hne)).trans hbx.out)
      clear hg4 hp4
      cases bf
      · go_wp2_with fail
        go_ret
        exact ⟨false, rfl, HG4.out, (by intro h; cases h)⟩
      go_wp2_with fail
      go_roundg (len - (j + 1))
      case measure => omega
      case rel =>
        obtain ⟨L', h1, h2, h3⟩ := HP4.out (by first | rfl | trivial)
        refine ⟨j + 1, L', by omega, rfl, by push_cast; rfl, Lib.hid ⟨h1, h2, ?_⟩, HG4, HBX4⟩
        rw [sumTo_succ HX.out, h3, HCL3.out]
        omega
    · have hjz : ¬ (j : Int) < (len : Int) := by omega
      obtain rfl : j = len := by omega
      go_wp2_with fail
      go_ret
      refine ⟨true, rfl, hG.out, fun _ => ⟨Lj, HCL1.out, hcl2, ?_⟩⟩
      rw [HCL3.out]
      have e1 : sumTo D kids j = (kids.map (Nd.countD D)).sum := by unfold sumTo; rw [List.take_of_length_le (by have := HN.out; omega)]
      have e2 : Nd.countD (D + 1) (.mk k t m u ao cap kids) = 1 + (kids.map (Nd.countD D)).sum := rfl
      rw [e2, e1]
      omega

theorem few_all : ∀ D, FewC D := by
  intro D
  induction D with
  | zero => exact few_zero
  | succ D ih => exact few_succ D ih

/-- The tree fits, and is of at most 400 nodes. -/
def FitsP (D : Nat) (n : Nd) : Prop := FitP 12 n ∧ Nd.countD D n ≤ 400

set_option maxRecDepth 100000 in
theorem Fits_any (D : Nat) (n : Nd) (w : World) (hL : LiesD D w n) (hT : Lib.Utf8Tabs 1 2 w) :
    Calls Tryz.prog 16 #[n.val] w (SomeB (FitsP D n) w) := by
  obtain ⟨k, t, m, u, ao, cap, kids⟩ := n
  show Calls _ _ #[.agg #[.int .i64 k, .string t, .string m, .int .u64 u, .slice ao kids.length cap]] w _
  have HL := Lib.hid hL
  have HT := Lib.hid hT
  clear hL hT
  go_enter Tryz.func16, Tryz.ntmps16
  go_wp2_with fail
  have hB0 := fun o1 o2 => (((Below.refl w.heap.size w).alloc (Nat.le_refl _) o1).alloc (by simp) o2)
  refine (few_all D (.mk k t m u ao cap kids) (w.heap.size + 1) 400 w _ HL.out (by omega) (hB0 _ _) (by omega) (by omega) ?hc).mono ?_
  case hc =>
    have := heap_alloc_new (w.alloc (.cells #[.int .i64 k, .string t, .string m, .int .u64 u, .slice ao kids.length cap] 25)) (.cells #[.int .i64 400] 3)
    simpa using this
  rintro e w1 ⟨b, rfl, hg, hp⟩
  have HB1 := Lib.hid (grown_below (hB0 _ _) (by omega) hg)
  obtain ⟨k0, -⟩ := gblk hg (b := w.heap.size) (by simp; omega) (by omega)
  have HP := Lib.hid hp
  clear hg hp hB0
  cases b
  · go_wp2_with fail
    go_ret
    exact ⟨_, rfl, (by intro h; cases h), HB1.out⟩
  go_wp2_with fail
  refine (fits_all plain_all 12 (by omega) (.mk k t m u ao cap kids) D w1 (HL.out.below HB1.out) (tabs_below HT.out HB1.out)).mono ?_
  rintro e w2 ⟨b2, rfl, hb2, hb3⟩
  have HB3 := Lib.hid (HB1.out.trans (hb3.mono HB1.out.size))
  have H2 := Lib.hid hb2
  clear hb2 hb3
  go_wp2_with fail
  go_ret
  refine ⟨_, rfl, (fun h => ⟨H2.out h, ?_⟩), HB3.out⟩
  obtain ⟨L', h1, h2, h3⟩ := HP.out (by first | rfl | trivial)
  omega
end Go.Proofs.YtongafghllkomaaGreatDoor
