/-
  Same at this seat's numbers: two trees that are the same are told the same. No conditions.
-/
import Derived.Test.YtcbcdgifakcooaaGreatDoorTests
import Derived.Deep.RegionHeld3
namespace Go.Proofs.YtcbcdgifakcooaaGreatDoor
open Go.RowKit
set_option linter.unusedVariables false

def SameC (E : Nat) : Prop := ∀ (D D' : Nat) (a b : Nd) (w : World), SameD E a b → LiesD D w a → LiesD D' w b →
    Calls Tryz.prog 10 #[a.val, b.val] w fun e w' => e = .returned (.bool true) ∧ Below w.heap.size w w'

set_option maxRecDepth 100000 in
set_option maxHeartbeats 1000000 in
theorem same_all : ∀ E, SameC E := by
  intro E
  induction E with
  | zero => intro D D' a b w h; exact h.elim
  | succ E ih =>
    intro D D' a b w hS hL hL'
    obtain ⟨D, rfl⟩ : ∃ F, D = F + 1 := by cases D with | zero => exact hL.elim | succ F => exact ⟨F, rfl⟩
    obtain ⟨D', rfl⟩ : ∃ F, D' = F + 1 := by cases D' with | zero => exact hL'.elim | succ F => exact ⟨F, rfl⟩
    obtain ⟨k, t, m, u, ao, cap, kids⟩ := a
    obtain ⟨k', t', m', u', ao', cap', kids'⟩ := b
    obtain ⟨h1, h2, h3, h4, h5, h6⟩ := hS
    obtain rfl : k = k' := h1
    obtain rfl : t = t' := h2
    obtain rfl : m = m' := h3
    obtain rfl : u = u' := h4
    have h5 : kids.length = kids'.length := h5
    have hM := hL.len_le
    obtain ⟨len, hlen⟩ : ∃ len, kids.length = len := ⟨_, rfl⟩
    have hlen2 : kids'.length = len := by omega
    show Calls _ _ #[.agg #[.int .i64 k, .string t, .string m, .int .u64 u, .slice ao kids.length cap], .agg #[.int .i64 k, .string t, .string m, .int .u64 u, .slice ao' kids'.length cap']] w _
    rw [hlen, hlen2]
    rw [hlen] at hM
    have HN := Lib.hid hlen
    have HN2 := Lib.hid hlen2
    have HL := Lib.hid hL
    have HL2 := Lib.hid hL'
    have HS := Lib.hid (show ∀ (i : Nat) (x y : Nd), kids[i]? = some x → kids'[i]? = some y → SameD E x y from h6)
    have ht : (t.toList == t.toList) = true := by simp
    have hm : (m.toList == m.toList) = true := by simp
    clear h5 h6 hlen hlen2 hL hL'
    go_enter Tryz.func10, Tryz.ntmps10
    go_wp2_with fail
    go_loopg [44] len (fun gk i wr => ∃ (j : Nat), j ≤ len ∧ gk = len - j ∧ i = .int .i64 (j : Int) ∧ Hid (Below w.heap.size w wr) ∧ Hid (wr.heap[w.heap.size]? = some (.cells #[.int .i64 k, .string t, .string m, .int .u64 u, .slice ao len cap] 25 (0, 0))) ∧ Hid (wr.heap[w.heap.size + 1]? = some (.cells #[.int .i64 k, .string t, .string m, .int .u64 u, .slice ao' len cap'] 25 (0, 0))))
    case atStart =>
      refine ⟨0, by omega, by omega, rfl, Lib.hid (((Below.refl _ _).alloc (Nat.le_refl _) _).alloc (by simp) _), Lib.hid ?_, Lib.hid ?_⟩
      · rw [heap_alloc_old _ _ (by simp)]; exact heap_alloc_new _ _
      · have := heap_alloc_new (w.alloc (.cells #[.int .i64 k, .string t, .string m, .int .u64 u, .slice ao len cap] 25)) (.cells #[.int .i64 k, .string t, .string m, .int .u64 u, .slice ao' len cap'] 25)
        simpa using this
    case round =>
      obtain ⟨j, hj, rfl, rfl, hB, hb0, hb1⟩ := hrel
      have z4 : wr.cell? ⟨w.heap.size, 4, none⟩ = some (.slice ao len cap) := by rw [Lib.cell_of_heap hb0.out]; rfl
      have y4 : wr.cell? ⟨w.heap.size + 1, 4, none⟩ = some (.slice ao' len cap') := by rw [Lib.cell_of_heap hb1.out]; rfl
      by_cases hjn : j < len
      · have hjz : (j : Int) < (len : Int) := by omega
        obtain ⟨x, hx⟩ : ∃ x, kids[j]? = some x := ⟨kids[j]'(by have := HN.out; omega), List.getElem?_eq_getElem _⟩
        obtain ⟨y, hy⟩ : ∃ y, kids'[j]? = some y := ⟨kids'[j]'(by have := HN2.out; omega), List.getElem?_eq_getElem _⟩
        obtain ⟨b, o, hao, c0, c1, c2, c3, c4, hLx⟩ := kid_cells HL.out hx hB.out
        obtain ⟨b2, o2, hao2, d0, d1, d2, d3, d4, hLy⟩ := kid_cells HL2.out hy hB.out
        obtain rfl : ao = some ⟨b, o, none⟩ := hao
        obtain rfl : ao' = some ⟨b2, o2, none⟩ := hao2
        have HSX := Lib.hid (HS.out j x y hx hy)
        have HLX := Lib.hid hLx
        have HLY := Lib.hid hLy
        have l0 : w.heap.size < wr.heap.size := (Array.getElem?_eq_some_iff.1 hb0.out).1
        have l1 : w.heap.size + 1 < wr.heap.size := (Array.getElem?_eq_some_iff.1 hb1.out).1
        clear hx hy hLx hLy
        go_wp2_with fail
        go_region_held3 (fun w' => (w'.cell? ⟨w.heap.size, 4, none⟩ = some (.slice (some ⟨b, o, none⟩) len cap) ∧ w'.cell? ⟨w.heap.size + 1, 4, none⟩ = some (.slice (some ⟨b2, o2, none⟩) len cap') ∧ w'.cell? ⟨b, o + j * 5, none⟩ = some (.int .i64 x.kind) ∧ w'.cell? ⟨b, o + j * 5 + 1, none⟩ = some (.string x.text) ∧ w'.cell? ⟨b, o + j * 5 + 2, none⟩ = some (.string x.more) ∧ w'.cell? ⟨b, o + j * 5 + 3, none⟩ = some (.int .u64 x.num) ∧ w'.cell? ⟨b, o + j * 5 + 4, none⟩ = some (.slice x.ao x.kids.length x.cap) ∧ w'.cell? ⟨b2, o2 + j * 5, none⟩ = some (.int .i64 y.kind) ∧ w'.cell? ⟨b2, o2 + j * 5 + 1, none⟩ = some (.string y.text) ∧ w'.cell? ⟨b2, o2 + j * 5 + 2, none⟩ = some (.string y.more) ∧ w'.cell? ⟨b2, o2 + j * 5 + 3, none⟩ = some (.int .u64 y.num) ∧ w'.cell? ⟨b2, o2 + j * 5 + 4, none⟩ = some (.slice y.ao y.kids.length y.cap))) (go_keep) (first | (go_at_call 10; refine (ih D D' x y _ HSX.out (by first | exact HLX.out | exact HLX.out.below (Below.drew (Below.refl _ _))) (by first | exact HLY.out | exact HLY.out.below (Below.drew (Below.refl _ _)))).mono ?_; rintro e w1 ⟨rfl, hb⟩; obtain ⟨ka, -⟩ := bblk hb (b := w.heap.size) (by first | omega | (simp; omega)); obtain ⟨kb, -⟩ := bblk hb (b := w.heap.size + 1) (by first | omega | (simp; omega)); obtain ⟨kc, -⟩ := bblk hb (b := b) (by have := World.block_lt_of_cell? _ _ c0; first | omega | (simp; omega)); obtain ⟨kd, -⟩ := bblk hb (b := b2) (by have := World.block_lt_of_cell? _ _ d0; first | omega | (simp; omega))))
        have hb : Below wr.heap.size wr w1 := by first | exact hb | exact (Below.drew (Below.refl _ _)).trans (hb.mono (by simp))
        have HB1 := Lib.hid (hB.out.trans (hb.mono hB.out.size))
        have HX0 := Lib.hid ((hb.block _ l0).trans hb0.out)
        have HX1 := Lib.hid ((hb.block _ l1).trans hb1.out)
        clear hb
        go_wp2_with fail
        go_roundg (len - (j + 1))
        case measure => omega
        case rel => exact ⟨j + 1, by omega, rfl, by push_cast; rfl, HB1, HX0, HX1⟩
      · have hjz : ¬ (j : Int) < (len : Int) := by omega
        obtain rfl : j = len := by omega
        go_wp2_with fail
        go_ret
        exact ⟨rfl, hB.out⟩
end Go.Proofs.YtcbcdgifakcooaaGreatDoor
