/-
  Files of package token at this seat's numbers: NewFile, AddLine, Offset, and impl's fileOf and OffsetsOf over them.
-/
import Derived.Test.YteecbmhkfnlecaaRows
import Derived.WalkKit
import Derived.Lib.Hide
import Derived.Lib.Builder
import Derived.Deep.AppendLies
import Derived.Deep.RegionLaw
import Derived.Deep.RegionHeld3
import Derived.Deep.LoopGhost
import Derived.Defers
import Derived.Recover
import Derived.Deep.Onto
import Derived.BigQuiet
import Derived.Lib.QuietBelow
namespace Go.Proofs.Yteecbmhkfnlecaa.fnOffsetsOf
open Go.RowKit
set_option linter.unusedVariables false

def ints (xs : List Int) : List Value := xs.map (Value.int .i64)
theorem ints_append (xs ys : List Int) : ints (xs ++ ys) = ints xs ++ ints ys := by simp [ints]
theorem ints_snoc (xs : List Int) (y : Int) : ints xs ++ [Value.int .i64 y] = ints (xs ++ [y]) := by simp [ints]
@[simp] theorem ints_length (xs : List Int) : (ints xs).length = xs.length := by simp [ints]

/-- A file that the call has made: its block, its lines in a row of their own. -/
def FileAt (B fb g : Nat) (xs : List Int) (w : World) : Prop :=
  B ≤ fb ∧ g ≠ fb ∧ ∃ (nm : ByteArray) (cap : Nat) (sz : Int), w.heap[fb]? = some (.cells #[.string nm, .slice (some ⟨g, 0, none⟩) xs.length cap, .int .i64 sz] 80 (0, 0)) ∧ w.ownsRow B 3 1 (.slice (some ⟨g, 0, none⟩) xs.length cap) xs.length (ints xs)

theorem add0 (b j : Nat) : (⟨b, 0, none⟩ : Addr).add j = ⟨b, j, none⟩ := by unfold Addr.add; split <;> simp_all

theorem infoInt : (Try.prog.info? 3).map (fun i => (i.zero, i.size, i.bytes)) = some (some (.int .i64 0), 1, 8) := by kernel_rfl

theorem newFile_any (s : ByteArray) (sz : Int) (w : World) :
    Calls Try.prog 35 #[.string s, .int .i64 sz] w fun e w' => ∃ fb g, e = .returned (.pointer (some ⟨fb, 0, none⟩)) ∧ FileAt w.heap.size fb g [0] w' ∧ Below w.heap.size w w' := by
  go_enter Try.func35, Try.ntmps35
  go_wp2_with fail
  go_ret
  refine ⟨w.heap.size + 1, w.heap.size, rfl, ⟨by omega, by omega, s, 1, sz, ?_, ?_⟩, ((Below.refl _ _).alloc (Nat.le_refl _) _).alloc (by simp) _⟩
  · have h0 := (MapKept.heap_alloc (w.alloc (.cells #[.int .i64 0] 3)) (.cells #[.string s, .slice (some ⟨w.heap.size, 0, none⟩) 1 1, .int .i64 sz] 80)).1
    simpa using h0
  · have h1 : (w.alloc (.cells #[.int .i64 0] 3)).ownsRow w.heap.size 3 1 (.slice (some ⟨w.heap.size, 0, none⟩) 1 1) 1 (ints [0]) := ⟨rfl, .inr ⟨w.heap.size, 1, _, rfl, Nat.le_refl _, (MapKept.heap_alloc w _).1, Nat.le_refl _, by decide, rfl, rfl⟩⟩
    exact h1.alloc _

set_option maxHeartbeats 400000 in
set_option maxRecDepth 100000 in
theorem addLine_any (B fb g : Nat) (xs : List Int) (m : Nat) (z off : Int) (w : World) (hF : FileAt B fb g xs w) (hm : xs.length = m + 1) (hl : m ≤ 1000) (hz : xs[m]? = some z) (hlt : z < off) (hBw : B ≤ w.heap.size) :
    Calls Try.prog 36 #[.pointer (some ⟨fb, 0, none⟩), .int .i64 off] w fun e w' => ∃ g', e = .returned (.tuple #[]) ∧ FileAt B fb g' (xs ++ [off]) w' ∧ Below B w w' := by
  obtain ⟨hB, hne, nm, cap, sz, hb, hown⟩ := hF
  rw [hm] at hb hown
  obtain ⟨i0, hi, hz0, hz1, hz2⟩ := info_parts infoInt
  have c1 : w.cell? ⟨fb, 1, none⟩ = some (.slice (some ⟨g, 0, none⟩) (m + 1) cap) := by rw [Lib.cell_of_heap hb]; rfl
  have f1 : w.frozen? ⟨fb, 1, none⟩ = false := Lib.frozen_of_heap hb 1
  have c2 : w.cell? ⟨g, m, none⟩ = some (.int .i64 z) := by
    have := hown.cells (g := g) rfl m (.int .i64 z) (by simp [ints, hz])
    rwa [add0] at this
  have hcap : m + 1 ≤ cap := by
    rcases hown.2 with ⟨h, _⟩ | ⟨g', cap', cur, hv, _, _, h, _⟩
    · cases h
    · cases hv; exact h
  have hnl : ¬ off ≤ z := by omega
  have HM := Lib.hid hm
  clear hz hm hlt
  have HO := Lib.hid hown
  have HB := Lib.hid hb
  clear hown hb
  go_enter Try.func36, Try.ntmps36
  go_wp2_with fail
  go_loop [4] (fun t => t = .int .i64 ((m : Int) + 1)) (fun _ => 0)
  case atStart => rfl
  case round =>
    subst hrel
    have hfb : fb < w.heap.size := (Array.getElem?_eq_some_iff.1 HB.out).1
    have own1 : (w.setCell ⟨fb, 1, none⟩ (.slice (some ⟨g, 0, none⟩) (m + 1) cap)).ownsRow B 3 1 (.slice (some ⟨g, 0, none⟩) (m + 1) cap) (m + 1) (ints xs) :=
      HO.out.kept (row := some fb) ⟨rfl, rfl, rfl, by simp [World.setCell], fun k _ hk => Below.heap_setCell _ _ _ _ (fun e => hk (by simp [e]))⟩ (Or.inr (by simp [Value.ownBlock]; exact hne))
    have HO1 := Lib.hid (own1.alloc (.cells #[.int .i64 off] 3))
    clear own1
    have hb1 : (w.setCell ⟨fb, 1, none⟩ (.slice (some ⟨g, 0, none⟩) (m + 1) cap)).heap[fb]? = some (.cells #[.string nm, .slice (some ⟨g, 0, none⟩) (m + 1) cap, .int .i64 sz] 80 (0, 0)) := by
      simp [World.setCell, Array.getElem?_modify, HB.out]
    have HB1 := Lib.hid hb1
    clear hb1
    go_wp2_with (at_builtin; refine wpList_append_lies _ rfl _ _ 29 rfl B 3 i0 (.int .i64 0) 1 8 Try.underlying29 hi hz0 hz1 hz2 rfl (by decide) _ _ _ rfl HO1.out ⟨w.heap.size, 0, none⟩ 1 1 [.int .i64 off] rfl rfl ?c1 ?c2 (by decide) ?c3 ?c4 ?c5 _ rfl ?_)
    case c2 => rfl
    case c3 => unfold maxLen; omega
    case c4 => omega
    case c5 => (try simp); omega
    intro g' cap' w2 hown' hgrow hat hlt
    have hgl := World.ownsRow.lt HO.out g rfl
    have hB2 := HB1.out
    rw [← Below.heap_alloc _ (.cells #[.int .i64 off] 3) fb (by simp [World.setCell]; omega), ← hgrow.block fb (by simp [World.setCell]; omega) (by simp [Value.ownBlock]; omega)] at hB2
    have f2 : w2.frozen? ⟨fb, 1, none⟩ = false := Lib.frozen_of_heap hB2 1
    have c4 : w2.cell? ⟨fb, 1, none⟩ = some (.slice (some ⟨g, 0, none⟩) (m + 1) cap) := by rw [Lib.cell_of_heap hB2]; rfl
    have hgne : g' ≠ fb := by
      rcases hat with h | h
      · simp [Value.ownBlock] at h; omega
      · omega
    have HW := Lib.hid hown'
    have HB2 := Lib.hid hB2
    have HG := Lib.hid hgrow
    clear hown' hB2 hgrow hat
    go_wp2_with fail
    go_end0
    refine ⟨g', rfl, ⟨hB, hgne, nm, cap', sz, ?_, ?_⟩, ?_⟩
    · have h1 := HM.out
      simp [World.setCell, Array.getElem?_modify, HB2.out, h1]
    · have h1 := HM.out
      have := HW.out.kept (row := some fb) (w' := w2.setCell ⟨fb, 1, none⟩ (.slice (some ⟨g', 0, none⟩) (m + 1 + 1) cap')) ⟨rfl, rfl, rfl, by simp [World.setCell], fun k _ hk => Below.heap_setCell _ _ _ _ (fun e => hk (by simp [e]))⟩ (Or.inr (by simp [Value.ownBlock]; exact hgne))
      simpa [ints, h1] using this
    · refine ((((Below.refl B w).setCell (p := ⟨fb, 1, none⟩) hB _).alloc (by simpa [World.setCell] using hBw) _).grown HG.out (by simp [World.setCell]; omega) ?_).setCell (p := ⟨fb, 1, none⟩) hB _
      intro k hk
      simp [Value.ownBlock] at hk
      omega

/-- A slice of integers that a world holds: these numbers, wherever they lie. -/
def IntsIn (ao : Option Addr) (zs : List Int) (w : World) : Prop := ∀ k z, zs[k]? = some z → ∃ a, ao = some a ∧ w.cell? (a.add k) = some (.int .i64 z)

theorem IntsIn.below {ao : Option Addr} {zs : List Int} {w w' : World} (h : IntsIn ao zs w) (hb : Below w.heap.size w w') : IntsIn ao zs w' := by
  intro k z hk
  obtain ⟨a, ha, hc⟩ := h k z hk
  exact ⟨a, ha, (hb.cell (World.block_lt_of_cell? _ _ hc)).trans hc⟩

theorem FileAt.below {B fb g : Nat} {xs : List Int} {w w' : World} (h : FileAt B fb g xs w) (hb : Below w.heap.size w w') : FileAt B fb g xs w' := by
  obtain ⟨h1, h2, nm, cap, sz, h3, h4⟩ := h
  have hlt : fb < w.heap.size := (Array.getElem?_eq_some_iff.1 h3).1
  exact ⟨h1, h2, nm, cap, sz, (hb.block fb hlt).trans h3, h4.kept ⟨hb.os, hb.tape, hb.output, hb.size, fun i hi _ => hb.block i hi⟩ (row := none) (Or.inr (by simp [Value.ownBlock]))⟩

set_option maxHeartbeats 400000 in
set_option maxRecDepth 100000 in
theorem fileOf_any (ao : Option Addr) (zs : List Int) (n cap : Nat) (w : World) (hn : zs.length = n) (h50 : n ≤ 50) (HL : IntsIn ao zs w) (hrise : ∀ (k : Nat) (z y : Int), (0 :: zs)[k]? = some z → zs[k]? = some y → z < y) :
    Calls Try.prog 26 #[.slice ao n cap] w fun e w' => ∃ fb g, e = .returned (.pointer (some ⟨fb, 0, none⟩)) ∧ FileAt w.heap.size fb g (0 :: zs) w' ∧ Below w.heap.size w w' := by
  have HL := Lib.hid HL
  have HR := Lib.hid hrise
  have HN := Lib.hid hn
  clear hrise hn
  go_enter Try.func26, Try.ntmps26
  go_wp2_with fail
  refine (newFile_any _ _ _).mono ?_
  rintro e w1 ⟨fb, g, rfl, hF, hb⟩
  have HF := Lib.hid hF
  have HB := Lib.hid hb
  clear hF hb
  go_wp2_with fail
  go_loopg [9] n (fun gk i wr => ∃ k gg : Nat, k ≤ n ∧ gk = n - k ∧ i = .int .i64 (k : Int) ∧ Hid (FileAt w.heap.size fb gg (0 :: zs.take k) wr) ∧ Hid (Below w.heap.size w wr))
  case atStart => exact ⟨0, g, by omega, by omega, rfl, HF, HB⟩
  case round =>
    obtain ⟨k, gg, hk, rfl, rfl, HF1, HB1⟩ := hrel
    clear HF HB
    by_cases hkn : k < n
    · have hkz : (k : Int) < (n : Int) := by omega
      have hlen := HN.out
      obtain ⟨z, hz⟩ : ∃ z, zs[k]? = some z := ⟨zs[k]'(by omega), List.getElem?_eq_getElem _⟩
      obtain ⟨a, rfl, hc⟩ := HL.out k z hz
      have hcw := (HB1.out.cell (World.block_lt_of_cell? _ _ hc)).trans hc
      obtain ⟨y, hy⟩ : ∃ y, (0 :: zs.take k)[k]? = some y := ⟨(0 :: zs.take k)[k]'(by simp; omega), List.getElem?_eq_getElem _⟩
      have hyz : y < z := by
        refine HR.out k y z ?_ hz
        rw [← hy]
        cases k with
        | zero => rfl
        | succ k => simp
      go_wp2_with fail
      refine (addLine_any w.heap.size fb gg (0 :: zs.take k) k y z _ HF1.out (by simp; omega) (by omega) hy hyz HB1.out.size).mono ?_
      rintro e w2 ⟨g2, rfl, hF2, hb2⟩
      have hF3 : FileAt w.heap.size fb g2 (0 :: zs.take (k + 1)) w2 := by
        have : (0 :: zs.take (k + 1)) = (0 :: zs.take k) ++ [z] := by simp [List.take_add_one, hz]
        rw [this]; exact hF2
      have HF3 := Lib.hid hF3
      have HB3 := Lib.hid (HB1.out.trans hb2)
      clear hF2 hb2 hF3 HF1 HB1 hcw hc hy hyz
      go_wp2_with fail
      go_roundg (n - (k + 1))
      case measure => omega
      case rel => exact ⟨k + 1, g2, by omega, rfl, by push_cast; rfl, HF3, HB3⟩
    · have hkz : ¬ (k : Int) < (n : Int) := by omega
      obtain rfl : k = n := by omega
      go_wp2_with fail
      go_ret
      have hF := HF1.out
      rw [List.take_of_length_le (by have := HN.out; omega)] at hF
      exact ⟨fb, rfl, ⟨gg, hF⟩, HB1.out⟩

theorem place_any (l c : Int) (w : World) :
    Calls Try.prog 21 #[.agg #[.int .i64 l, .int .i64 c]] w fun e w' => e = .returned (.agg #[.int .i64 l, .int .i64 c]) ∧ Below w.heap.size w w' := by
  go_enter Try.func21, Try.ntmps21
  go_wp2_with fail
  refine bodyPost_ret (v := .agg #[.int .i64 l, .int .i64 c]) ?_ rfl ⟨rfl, ((Below.refl w.heap.size w).alloc (Nat.le_refl _) _).alloc (by simp) _⟩
  simp [results, Try.f21, go_sem]

set_option maxHeartbeats 400000 in
set_option maxRecDepth 100000 in
theorem offset_any (B fb g : Nat) (xs : List Int) (l : Nat) (z c : Int) (w : World) (hF : FileAt B fb g xs w) (hz : xs[l]? = some z) (hl : l ≤ 1000) (h1 : 0 ≤ z) (h2 : z ≤ 2000) (h3 : 1 ≤ c) (h4 : c ≤ 1000) :
    Calls Try.prog 27 #[.pointer (some ⟨fb, 0, none⟩), .agg #[.int .i64 ((l : Int) + 1), .int .i64 c]] w fun e w' => e = .returned (.int .i64 (z + c - 1)) ∧ Below w.heap.size w w' := by
  obtain ⟨hB, hne, nm, cap, sz, hb, hown⟩ := hF
  have hlen : l < xs.length := (List.getElem?_eq_some_iff.1 hz).1
  have c1 : w.cell? ⟨fb, 1, none⟩ = some (.slice (some ⟨g, 0, none⟩) xs.length cap) := by rw [Lib.cell_of_heap hb]; rfl
  have c2 : w.cell? ⟨g, l, none⟩ = some (.int .i64 z) := by
    have := hown.cells (g := g) rfl l (.int .i64 z) (by simp [ints, hz])
    rwa [add0] at this
  have d1 : ((l : Int) + 1 == 0) = false := by simp; omega
  have d2 : (c == 0) = false := by simp; omega
  have e1 : ∀ o, (w.alloc o).cell? ⟨fb, 1, none⟩ = some (.slice (some ⟨g, 0, none⟩) xs.length cap) := fun o => by
    rw [World.cell?_alloc_old _ _ _ (by have := World.block_lt_of_cell? _ _ c1; simp at this ⊢; omega)]; exact c1
  have e2 : ∀ o, (w.alloc o).cell? ⟨g, l, none⟩ = some (.int .i64 z) := fun o => by
    rw [World.cell?_alloc_old _ _ _ (by have := World.block_lt_of_cell? _ _ c2; simp at this ⊢; omega)]; exact c2
  clear hb hown c1 c2
  go_enter Try.func27, Try.ntmps27
  go_wp2_with fail
  go_quiet (fail)
  go_wp2_with fail
  go_ret
  exact ⟨rfl, ⟨rfl, rfl, rfl, by simp, fun k hk => Below.heap_alloc _ _ _ hk⟩⟩

theorem noList_idle (p q : Addr) (w : World) : CallsD Try.prog 25 #[.pointer (some p), .pointer (some q)] .returning w fun e u' w' => u' = .returning ∧ e = .returned (.tuple #[]) ∧ w' = w := by
  refine callsD_of_wpS Try.func25 rfl fun c₀ cs hu => ?_
  apply wpS_seq
  apply wpS_region
  simp [wpOpsS, go_sem, recoverD, hu, Try.ntmps25, Exit.thenS]
  refine wpS_cond (t := false) (by simp [Act.eval, Array.replicate]) ?_
  simp only [Bool.false_eq_true, if_false]
  refine wpS_of_wp (wp_skip ?_)
  cases c₀
  simp_all [bodyPostS, results, Try.results25]

theorem add_two (a : Addr) (k : Nat) : a.add (k * 2 + 1) = ⟨(a.add (k * 2)).block, (a.add (k * 2)).off + 1, none⟩ := by
  unfold Addr.add
  rw [if_neg (by omega)]
  by_cases h : k = 0
  · subst h; rfl
  · rw [if_neg (by omega)]; simp; omega

/-- Places that a world holds. -/
def PlacesIn (po : Option Addr) (ps : List (Nat × Int)) (w : World) : Prop :=
  ∀ (k l : Nat) (c : Int), ps[k]? = some (l, c) → ∃ a, po = some a ∧ w.cell? (a.add (k * 2)) = some (.int .i64 ((l : Int) + 1)) ∧ w.cell? (a.add (k * 2 + 1)) = some (.int .i64 c)

def offAt (zs : List Int) (q : Nat × Int) : Int := (0 :: zs).getD q.1 0 + q.2 - 1

/-- What a round of OffsetsOf finds. -/
structure OInv (w : World) (B2 fb g : Nat) (zs xs : List Int) (v : Value) (k : Nat) (wr : World) : Prop where
  file : FileAt (w.heap.size + 2) fb g (0 :: zs) wr
  lt : fb < B2 ∧ g < B2
  res : wr.heap[w.heap.size]? = some (.cells #[v] 29 (0, 0))
  ok : wr.heap[w.heap.size + 1]? = some (.cells #[.bool false] 4 (0, 0))
  own : wr.ownsRow B2 3 1 v k (ints xs)
  le : w.heap.size + 2 ≤ B2 ∧ B2 ≤ wr.heap.size
  below : Below w.heap.size w wr

theorem OInv.step {w : World} {B2 fb g : Nat} {zs xs : List Int} {v : Value} {k : Nat} {wr wa : World} (h : OInv w B2 fb g zs xs v k wr) (hb : Below wr.heap.size wr wa) : OInv w B2 fb g zs xs v k wa := by
  have h1 := h.le
  have h2 := hb.size
  exact ⟨h.file.below hb, h.lt, (hb.block _ (by omega)).trans h.res, (hb.block _ (by omega)).trans h.ok, h.own.kept ⟨hb.os, hb.tape, hb.output, hb.size, fun i hi _ => hb.block i hi⟩ (row := none) (Classical.em _), ⟨h1.1, by omega⟩, h.below.trans (hb.mono (by omega))⟩

theorem OInv.cells {w : World} {B2 fb g : Nat} {zs xs : List Int} {v : Value} {k : Nat} {wr : World} (h : OInv w B2 fb g zs xs v k wr) :
    wr.cell? ⟨w.heap.size, 0, none⟩ = some v ∧ wr.frozen? ⟨w.heap.size, 0, none⟩ = false ∧ wr.cell? ⟨w.heap.size + 1, 0, none⟩ = some (.bool false) ∧ wr.frozen? ⟨w.heap.size + 1, 0, none⟩ = false :=
  ⟨by rw [Lib.cell_of_heap h.res]; rfl, Lib.frozen_of_heap h.res 0, by rw [Lib.cell_of_heap h.ok]; rfl, Lib.frozen_of_heap h.ok 0⟩

theorem OInv.reads {w : World} {B2 fb g : Nat} {zs xs : List Int} {v : Value} {k : Nat} {wa : World} {n2 : Nat} {x y : Value} (h : OInv w B2 fb g zs xs v k wa)
    (c0 : wa.cell? ⟨n2, 0, none⟩ = some x) (c1 : wa.cell? ⟨n2, 1, none⟩ = some y) {w' : World} (hb : Below wa.heap.size wa w') :
    OInv w B2 fb g zs xs v k w' ∧ w'.cell? ⟨n2, 0, none⟩ = some x ∧ w'.cell? ⟨n2, 1, none⟩ = some y ∧ w'.cell? ⟨w.heap.size, 0, none⟩ = some v ∧ w'.frozen? ⟨w.heap.size, 0, none⟩ = false :=
  ⟨h.step hb, (hb.cell (World.block_lt_of_cell? _ _ c0)).trans c0, (hb.cell (World.block_lt_of_cell? _ _ c1)).trans c1, (h.step hb).cells.1, (h.step hb).cells.2.1⟩

theorem FileAt.grown {B fb g : Nat} {xs : List Int} {w w' : World} {row : Option Nat} (h : FileAt B fb g xs w) (hg : w.grownBy w' row) (h1 : some fb ≠ row) (h2 : some g ≠ row) : FileAt B fb g xs w' := by
  obtain ⟨a1, a2, nm, cap, sz, a3, a4⟩ := h
  have hlt : fb < w.heap.size := (Array.getElem?_eq_some_iff.1 a3).1
  exact ⟨a1, a2, nm, cap, sz, (hg.block fb hlt h1).trans a3, a4.kept hg (Or.inr h2)⟩

theorem setCell_grown (w : World) (b : Nat) (u : Value) : w.grownBy (w.setCell ⟨b, 0, none⟩ u) (some b) :=
  ⟨rfl, rfl, rfl, by simp [World.setCell], fun k _ hk => Below.heap_setCell _ _ _ _ (fun e => hk (by simp [e]))⟩

theorem OInv.grown {w : World} {B2 fb g : Nat} {zs xs xs' : List Int} {vo : Option Addr} {vc k k' : Nat} {v' : Value} {w3 w4 : World} {n2 : Nat} {x y : Value} {o : Obj}
    (h : OInv w B2 fb g zs xs (.slice vo k vc) k w3) (hvn : ∀ q, (Value.slice vo k vc).ownBlock = some q → B2 ≤ q ∧ q < n2) (hn2 : w.heap.size + 2 ≤ n2)
    (c0 : w3.cell? ⟨n2, 0, none⟩ = some x) (c1 : w3.cell? ⟨n2, 1, none⟩ = some y)
    (hgrow : (w3.alloc o).grownBy w4 (Value.slice vo k vc).ownBlock) (hown' : w4.ownsRow B2 3 1 v' k' (ints xs')) :
    (w4.cell? ⟨n2, 0, none⟩ = some x ∧ w4.cell? ⟨n2, 1, none⟩ = some y) ∧ (∀ u, (w4.setCell ⟨w.heap.size, 0, none⟩ u).cell? ⟨n2, 0, none⟩ = some x ∧ (w4.setCell ⟨w.heap.size, 0, none⟩ u).cell? ⟨n2, 1, none⟩ = some y) ∧
      w4.cell? ⟨w.heap.size, 0, none⟩ = some (.slice vo k vc) ∧ w4.frozen? ⟨w.heap.size, 0, none⟩ = false ∧ OInv w B2 fb g zs xs' v' k' (w4.setCell ⟨w.heap.size, 0, none⟩ v') := by
  have hle := h.le
  have hne : ∀ b, (b < B2 ∨ n2 ≤ b) → some b ≠ (Value.slice vo k vc).ownBlock := fun b hb e => by have := hvn b e.symm; omega
  have hn3 := World.block_lt_of_cell? _ _ c0
  simp at hn3
  have a0 : w4.cell? ⟨n2, 0, none⟩ = some x := by
    rw [hgrow.cell_far _ (by simp; omega) (hne _ (Or.inr (Nat.le_refl _))), World.cell?_alloc_old _ _ _ (by simp; omega)]; exact c0
  have a1 : w4.cell? ⟨n2, 1, none⟩ = some y := by
    rw [hgrow.cell_far _ (by simp; omega) (hne _ (Or.inr (Nat.le_refl _))), World.cell?_alloc_old _ _ _ (by simp; omega)]; exact c1
  have hal : ∀ b, b < w3.heap.size → (w3.alloc o).heap[b]? = w3.heap[b]? := fun b hb => Below.heap_alloc _ _ _ hb
  have r4 : ∀ b, b < B2 → w4.heap[b]? = w3.heap[b]? := fun b hb => (hgrow.block b (by simp; omega) (hne b (Or.inl hb))).trans (hal b (by omega))
  have rH := (r4 w.heap.size (by omega)).trans h.res
  have rK := (r4 (w.heap.size + 1) (by omega)).trans h.ok
  have s4 := hgrow.size
  simp at s4
  have hfile := h.file
  have hfb : fb < B2 := h.lt.1
  have hgb : g < B2 := h.lt.2
  have hfbge : w.heap.size + 2 ≤ fb := hfile.1
  have hgge : w.heap.size + 2 ≤ g := by
    obtain ⟨_, _, nm, cap, sz, _, ho⟩ := hfile
    exact (ho.lt g rfl).1
  refine ⟨⟨a0, a1⟩, fun u => ⟨?_, ?_⟩, by rw [Lib.cell_of_heap rH]; rfl, Lib.frozen_of_heap rH 0, ⟨?_, h.lt, ?_, ?_, ?_, ⟨hle.1, by simp [World.setCell]; omega⟩, ?_⟩⟩
  · rw [World.cell?_setCell_other _ _ _ _ (fun e => by have := congrArg Addr.block e; simp at this; omega)]; exact a0
  · rw [World.cell?_setCell_other _ _ _ _ (fun e => by have := congrArg Addr.block e; simp at this; omega)]; exact a1
  · refine FileAt.grown (FileAt.grown (hfile.below ((Below.refl w3.heap.size w3).alloc (Nat.le_refl _) o)) hgrow (hne _ (Or.inl hfb)) (hne _ (Or.inl hgb))) (setCell_grown _ _ _) (by simp; omega) (by simp; omega)
  · simp [World.setCell, Array.getElem?_modify, rH]
  · rw [Below.heap_setCell _ _ _ _ (by simp)]; exact rK
  · refine hown'.kept (setCell_grown _ _ _) ?_
    by_cases hv : v'.ownBlock = none
    · exact Or.inl hv
    · right
      intro e
      have := hown'.lt _ e
      omega
  · refine (((h.below.alloc (by omega) o).grown hgrow (by simp; omega) ?_).setCell (p := ⟨w.heap.size, 0, none⟩) (Nat.le_refl _) _)
    intro q hq
    have := hvn q hq
    omega

set_option maxHeartbeats 800000 in
set_option maxRecDepth 100000 in
theorem offsetsOf_any (ao po : Option Addr) (zs : List Int) (ps : List (Nat × Int)) (n cap m pcap : Nat) (w : World) (hn : zs.length = n) (hm : ps.length = m) (h50 : n ≤ 50) (HL : IntsIn ao zs w) (HP : PlacesIn po ps w)
    (hrise : ∀ (k : Nat) (z y : Int), (0 :: zs)[k]? = some z → zs[k]? = some y → z < y) (hz0 : ∀ z ∈ zs, 0 ≤ z ∧ z ≤ 2000) (hp : ∀ q ∈ ps, q.1 ≤ zs.length ∧ 1 ≤ q.2 ∧ q.2 ≤ 1000) (hm50 : m ≤ 50) :
    Calls Try.prog 13 #[.slice ao n cap, .slice po m pcap] w fun e w' => ∃ v, e = .returned (.tuple #[v, .bool true]) ∧ w'.ownsRow w.heap.size 3 1 v m (ints (ps.map (offAt zs))) ∧ Below w.heap.size w w' := by
  have HN := Lib.hid hn
  have HM := Lib.hid hm
  have HR := Lib.hid hrise
  have HZ := Lib.hid hz0
  have HQ := Lib.hid hp
  have HL0 := Lib.hid HL
  have HP0 := Lib.hid HP
  clear hn hm hrise hz0 hp HL HP
  go_enter_defers Try.func13, Try.ntmps13
  go_wp2_with fail
  refine (fileOf_any ao zs n cap _ HN.out h50 (HL0.out.below (((Below.refl _ _).alloc (Nat.le_refl _) _).alloc (by simp) _)) HR.out).mono ?_
  rintro e w1 ⟨fb, g, rfl, hF, hb⟩
  have hI : OInv w w1.heap.size fb g zs [] (.slice none 0 0) 0 w1 := by
    have hsz := hb.size
    simp at hsz
    have hF' : FileAt (w.heap.size + 2) fb g (0 :: zs) w1 := by simpa using hF
    have hg1 : g < w1.heap.size := by
      obtain ⟨_, _, nm, cap, sz, _, ho⟩ := hF'
      exact (ho.lt g rfl).2
    have hf1 : fb < w1.heap.size := by
      obtain ⟨_, _, nm, cap, sz, h3, ho⟩ := hF'
      exact (Array.getElem?_eq_some_iff.1 h3).1
    refine ⟨hF', ⟨hf1, hg1⟩, ?_, ?_, ⟨rfl, .inl ⟨rfl, rfl⟩⟩, ⟨hsz, Nat.le_refl _⟩, (((Below.refl w.heap.size w).alloc (Nat.le_refl _) _).alloc (by simp) _).trans (hb.mono (by simp; omega))⟩
    · rw [hb.block _ (by simp; omega), Below.heap_alloc _ _ _ (by simp)]
      exact (MapKept.heap_alloc w _).1
    · rw [hb.block _ (by simp)]
      have := (MapKept.heap_alloc (w.alloc (.cells #[.slice none 0 0] 29)) (.cells #[.bool false] 4)).1
      simpa using this
  have HI := Lib.hid hI
  clear hF hb hI
  go_wp2_with fail
  go_loopg [13] m (fun gk i wr => ∃ (k : Nat) (vo : Option Addr) (vc : Nat), k ≤ m ∧ gk = m - k ∧ i = .int .i64 (k : Int) ∧ Hid (OInv w w1.heap.size fb g zs ((ps.take k).map (offAt zs)) (.slice vo k vc) k wr))
  case atStart => exact ⟨0, none, 0, by omega, by omega, rfl, HI⟩
  case round =>
    obtain ⟨k, vo, vc, hk, rfl, rfl, HI1⟩ := hrel
    clear HI
    by_cases hkm : k < m
    · have hkz : (k : Int) < (m : Int) := by omega
      obtain ⟨l, c, hq⟩ : ∃ l c, ps[k]? = some (l, c) := ⟨(ps[k]'(by have := HM.out; omega)).1, (ps[k]'(by have := HM.out; omega)).2, List.getElem?_eq_getElem _⟩
      obtain ⟨a, rfl, hc1, hc2⟩ := HP0.out k l c hq
      have hc1 := (HI1.out.below.cell (World.block_lt_of_cell? _ _ hc1)).trans hc1
      have hc2 := (HI1.out.below.cell (World.block_lt_of_cell? _ _ hc2)).trans hc2
      rw [add_two] at hc2
      go_wp2_with fail
      have hst := HI1.out.step ((Below.refl wr.heap.size wr).alloc (Nat.le_refl _) (.cells #[.int .i64 ((l : Int) + 1), .int .i64 c] 24))
      have c0 : (wr.alloc (.cells #[.int .i64 ((l : Int) + 1), .int .i64 c] 24)).cell? ⟨wr.heap.size, 0, none⟩ = some (.int .i64 ((l : Int) + 1)) := by simp
      have c1 : (wr.alloc (.cells #[.int .i64 ((l : Int) + 1), .int .i64 c] 24)).cell? ⟨wr.heap.size, 1, none⟩ = some (.int .i64 c) := by simp
      have hn2 : w.heap.size + 2 ≤ wr.heap.size := by have := HI1.out.le; omega
      have hvn := Lib.hid (World.ownsRow.lt HI1.out.own)
      generalize (wr.alloc (.cells #[.int .i64 ((l : Int) + 1), .int .i64 c] 24)) = wa at hst c0 c1 ⊢
      generalize wr.heap.size = n2 at c0 c1 hn2 hvn ⊢
      have HA := Lib.hid hst
      have R := fun w' (hb : Below wa.heap.size wa.drew w') => HA.out.reads c0 c1 (w' := w') ((Below.drew (Below.refl wa.heap.size wa)).trans hb)
      obtain ⟨-, d0, d1, d2, d3⟩ := R _ (Below.refl wa.heap.size wa.drew)
      have HRd := Lib.hid R
      clear R hst
      have hqm := HQ.out (l, c) (List.mem_of_getElem? hq)
      obtain ⟨z, hz⟩ : ∃ z, (0 :: zs)[l]? = some z := ⟨(0 :: zs)[l]'(by simp; omega), List.getElem?_eq_getElem _⟩
      have hzb : 0 ≤ z ∧ z ≤ 2000 := by
        rcases List.mem_cons.1 (List.mem_of_getElem? hz) with h | h
        · omega
        · exact HZ.out z h
      have hlb : l ≤ 50 := by have := HN.out; simp at hqm; omega
      have hcb : 1 ≤ c ∧ c ≤ 1000 := hqm.2
      clear hqm
      obtain ⟨i0, hi, hiz, his, hib⟩ := info_parts infoInt
      have kb : (k + 1) * 8 ≤ 140737488355328 := by omega
      have km : k + 1 ≤ maxLen := by unfold maxLen; omega
      refine wp_region_noPanic ?_
      go_region_law (first
        | (rw [if_pos (by rfl)]; go_simp; go_at_call 21; refine (place_any _ _ _).mono ?_; rintro e w2 ⟨rfl, hb2⟩; obtain ⟨HA2, p0, p1, p2, p3⟩ := HRd.out w2 hb2; try go_wp2_with fail)
        | (rw [if_pos (by rfl)]; go_simp; go_at_call 27; refine (offset_any (w.heap.size + 2) fb g (0 :: zs) l z c _ HA2.file hz (by omega) hzb.1 hzb.2 hcb.1 hcb.2).mono ?_; rintro e w3 ⟨rfl, hb3⟩; obtain ⟨HA3, q0, q1, q2, q3⟩ := HRd.out w3 (hb2.trans (hb3.mono hb2.size)); have r01 := fun o => (HA3.reads q0 q1 ((Below.refl w3.heap.size w3).alloc (Nat.le_refl _) o)).2; have r2 : ∀ o, (w3.alloc o).cell? ⟨w.heap.size, 0, none⟩ = _ := fun o => (r01 o).2.2.1; have r3 : ∀ o, (w3.alloc o).frozen? ⟨w.heap.size, 0, none⟩ = _ := fun o => (r01 o).2.2.2; try go_wp2_with fail)
        | (refine step_append_lies _ rfl _ _ 29 rfl w1.heap.size 3 i0 (.int .i64 0) 1 8 Try.underlying29 hi hiz his hib rfl (by decide) (.slice vo k vc) k _ rfl (HA3.own.alloc _) ⟨w3.heap.size, 0, none⟩ 1 1 [.int .i64 (z + c - 1)] rfl rfl (cell_one_new _ _ _) (by intro u hu; simp at hu; subst hu; rfl) (by decide) km kb (by have := HA3.le; simp; omega) _ rfl ?_; intro g' cap' w4 hown' hgrow hat hlt; rw [ints_snoc] at hown'; obtain ⟨s01, t01, s2, s3, HA5⟩ := HA3.grown hvn.out hn2 q0 q1 hgrow hown'))
      all_goals
        refine NoPanic.normal ?_
        have HA6 := Lib.hid HA5
        clear HA5
        go_wp2_with fail
        go_roundg (m - (k + 1))
        case measure => omega
        case rel =>
          refine ⟨k + 1, some ⟨g', 0, none⟩, cap', by omega, rfl, by push_cast; rfl, ?_⟩
          rw [show (ps.take (k + 1)).map (offAt zs) = (ps.take k).map (offAt zs) ++ [z + c - 1] by simp [List.take_add_one, hq, offAt, List.getD, hz]]
          exact HA6
    · have hkz : ¬ (k : Int) < (m : Int) := by omega
      obtain rfl : k = m := by omega
      obtain ⟨f0, f1, f2, f3⟩ := HI1.out.cells
      go_wp2_with fail
      refine leaves_cons (f := 25) (args := #[.pointer (some ⟨w.heap.size, 0, none⟩), .pointer (some ⟨w.heap.size + 1, 0, none⟩)]) (by simp) (by simp [go_sem]) ?_
      refine (noList_idle _ _ _).mono ?_
      rintro e u' w'' ⟨rfl, rfl, rfl⟩
      simp [Leaves, settle, results, Try.results13, go_sem, f0, f2]
      have h := HI1.out
      have hxs : (ps.take k) = ps := List.take_of_length_le (by have := HM.out; omega)
      rw [hxs] at h
      refine ⟨?_, (h.below.setCell (p := ⟨w.heap.size, 0, none⟩) (Nat.le_refl _) _).setCell (p := ⟨w.heap.size + 1, 0, none⟩) (by simp) _⟩
      have hne : ∀ b, b < w1.heap.size → (Value.slice vo k vc).ownBlock = none ∨ (Value.slice vo k vc).ownBlock ≠ some b := fun b hb => by
        by_cases hv : (Value.slice vo k vc).ownBlock = none
        · exact Or.inl hv
        · exact Or.inr fun e => by have := h.own.lt _ e; omega
      exact ((h.own.kept (setCell_grown _ _ _) (hne _ (by have := h.le; omega))).kept (setCell_grown _ _ _) (hne _ (by have := h.le; omega))).mono (by have := h.le; omega)


end Go.Proofs.Yteecbmhkfnlecaa.fnOffsetsOf
