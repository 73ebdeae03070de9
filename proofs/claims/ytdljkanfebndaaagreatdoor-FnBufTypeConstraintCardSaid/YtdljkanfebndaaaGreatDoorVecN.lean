/-
  A slot with a list of nodes: what writes it. No conditions.
-/
import Derived.Test.YtdljkanfebndaaaGreatDoorVec
import Derived.Test.YtdljkanfebndaaaGreatDoorNodeW
namespace Go.Proofs.YtdljkanfebndaaaGreatDoor
open Go.RowKit
set_option linter.unusedVariables false
set_option linter.unusedSimpArgs false

theorem listAt_any (i : Int) (so : Option Addr) (len cap : Nat) (w : World) :
    Calls Tryz.prog 180 #[.int .i64 i, .slice so len cap] w fun e w' => ∃ cb, e = .returned (.agg #[.int .i64 i, .int .i64 4, .int .u64 0, .func (.func 206) #[] #[.pointer (some ⟨cb, 0, none⟩)]]) ∧ w.heap.size ≤ cb ∧ w'.cell? ⟨cb, 0, none⟩ = some (.slice so len cap) ∧ Below w.heap.size w w' := by
  go_enter Tryz.func180, Tryz.ntmps180
  go_wp2_with fail
  refine bodyPost_ret (v := .agg #[.int .i64 i, .int .i64 4, .int .u64 0, .func (.func 206) #[] #[.pointer (some ⟨w.heap.size, 0, none⟩)]]) (by simp [results, Tryz.f180, go_sem]) rfl ⟨w.heap.size, rfl, Nat.le_refl _, ?_, ?_⟩
  · exact (World.cell?_of_block (Below.heap_alloc _ _ _ (by simp))).trans (World.cell?_alloc_at _ _ _ _ rfl)
  · exact ((Below.refl _ _).alloc (Nat.le_refl _) _).alloc (by simp) _

set_option maxRecDepth 100000 in
theorem write_one (W0 : World) (mb : Nat) (bs : Bool) (xs : List Nd) (b o cap bd : Nat) (R : Nat → By → Nat → Prop) (hxs : ∀ i x, xs[i]? = some x → NdCells W0 b (o + i * 5) x) (hN : ∀ i x, xs[i]? = some x → NodeW W0 bs bd x (R i)) (hn : xs.length ≤ 1000) (cb mc : Nat) (w : World) (rb : Nat)
    (hb : Below W0.heap.size W0 w) (hm : W0.heap.size ≤ mb) (hr : W0.heap.size ≤ rb) (hc : w.cell? ⟨cb, 0, none⟩ = some (.slice (some ⟨b, o, none⟩) xs.length cap)) (hmc : w.cell? ⟨mc, 0, none⟩ = some (.pointer (some ⟨mb, 0, none⟩))) (h1 : cb ≠ mb) (h2 : cb ≠ rb) (h3 : mc ≠ mb) (h4 : mc ≠ rb) :
    WriteC W0.heap.size mb bs xs.length 208 #[.pointer (some ⟨mc, 0, none⟩), .pointer (some ⟨cb, 0, none⟩)] bd R w rb := by
  refine ⟨fun args w' => by kernel_rfl, fun i w1 rb1 cap1 O1 hi he hm1 hO => ?_⟩
  have hcl : cb < w.heap.size := World.block_lt_of_cell? w _ hc
  have hml : mc < w.heap.size := World.block_lt_of_cell? w _ hmc
  have hb1 : Below W0.heap.size W0 w1 := hb.trans (he.below hm hr hb.size)
  rw [← (he.blk hcl h1 h2).1] at hc
  rw [← (he.blk hml h3 h4).1] at hmc
  obtain ⟨x, hx⟩ : ∃ x, xs[i]? = some x := ⟨xs[i], List.getElem?_eq_getElem hi⟩
  have hxc := hxs i x hx
  have hxl : b < W0.heap.size := hxc.lt
  obtain ⟨c0, c1, c2, c3, c4⟩ := hxc.below hb1 hxl
  have hiI : (i : Int) < (xs.length : Int) := by omega
  have hnI : (xs.length : Int) ≤ 1000 := by omega
  show Calls _ _ #[.int .i64 (i : Nat), .pointer (some ⟨mc, 0, none⟩), .pointer (some ⟨cb, 0, none⟩)] _ _
  have HM := Lib.hid hm1
  have HB := Lib.hid hb1
  have HNW := Lib.hid (hN i x hx)
  clear hm1 hb1 hN hxs hx hxc
  go_enter Tryz.func208, Tryz.ntmps208
  go_upto_region 1 with fail
  have HBD := Lib.hid (HB.out.drew)
  have HMD := Lib.hid HM.out.drew
  go_region_law (first
    | (rw [if_pos (by rfl)]; go_simp; go_at_call 30; show Calls _ _ #[_, x.val] _ _; refine (HNW.out mb rb1 cap1 O1 _ HBD.out HMD.out hO).mono ?_; rintro e w2 ⟨X, rb', cap', q, rfl, hm', hx, hl, hq1, hq2, hR⟩; have HP := Lib.hid (show PostW W0.heap.size mb bs O1 bd (R i) w1 rb1 (.returned (.int .i64 (q : Nat))) w2 from ⟨X, rb', cap', q, rfl, hm', (Ext.of rb1 (Below.refl w1.heap.size w1).drew).trans hx, hl, hq1, hq2, hR⟩); clear hm' hx hl hq1 hq2 hR; dsimp only))
  all_goals
    go_wp2_with fail
    go_ret
    exact HP.out

set_option maxRecDepth 100000 in
theorem list_ref (W0 : World) (mb : Nat) (bs : Bool) (xs : List Nd) (b o cap bd bd1 : Nat) (R : Nat → By → Nat → Prop) (hxs : ∀ i x, xs[i]? = some x → NdCells W0 b (o + i * 5) x) (hN : ∀ i x, xs[i]? = some x → NodeW W0 bs bd x (R i)) (hn : xs.length ≤ 1000) (hbd : 16 + 4 * xs.length + xs.length * bd ≤ bd1) (cb : Nat) (w : World) (rb : Nat)
    (hb : Below W0.heap.size W0 w) (hm : W0.heap.size ≤ mb) (hr : W0.heap.size ≤ rb) (hc : w.cell? ⟨cb, 0, none⟩ = some (.slice (some ⟨b, o, none⟩) xs.length cap)) (h1 : cb ≠ mb) (h2 : cb ≠ rb) :
    RefC W0.heap.size mb bs 206 #[.pointer (some ⟨cb, 0, none⟩)] bd1 (VecAt xs.length R) w rb := by
  refine ⟨fun args w' => by kernel_rfl, fun w1 rb1 cap1 O1 he hm1 hO => ?_⟩
  have hcl : cb < w.heap.size := World.block_lt_of_cell? w _ hc
  have hb1 : Below W0.heap.size W0 w1 := hb.trans (he.below hm hr hb.size)
  rw [← (he.blk hcl h1 h2).1] at hc
  have hcl1 : cb < w1.heap.size := World.block_lt_of_cell? w1 _ hc
  have h2' : cb ≠ rb1 := by rcases he.row with e | e <;> omega
  show Calls _ _ #[.pointer (some ⟨mb, 0, none⟩), .pointer (some ⟨cb, 0, none⟩)] _ _
  have HM := Lib.hid hm1
  have HB := Lib.hid hb1
  have hnI : (xs.length : Int) ≤ 1000 := by omega
  clear hm1 hb1
  go_enter Tryz.func206, Tryz.ntmps206
  go_wp2_with fail
  have hmlt : mb < w1.heap.size := HM.out.mlt
  have hmr := HM.out.row
  have hb2 : Below W0.heap.size W0 (w1.alloc (.cells #[.pointer (some ⟨mb, 0, none⟩)] 51)) := HB.out.alloc HB.out.size _
  have hW := write_one W0 mb bs xs b o cap bd R hxs hN hn cb w1.heap.size _ rb1 hb2 hm hmr.1 ((World.cell?_of_block (Below.heap_alloc w1 _ cb hcl1)).trans hc) (World.cell?_alloc_at _ _ _ _ rfl) h1 h2' (by omega) (by omega)
  refine (tables_any W0.heap.size mb rb1 cap1 O1 bs xs.length _ _ bd bd1 R hn hbd hO _ (HM.out.alloc _) hW).mono ?_
  rintro e w3 ⟨X, rb', cap', q, rfl, hm', hx, hl, hq1, hq2, hR⟩
  have HP := Lib.hid (show PostW W0.heap.size mb bs O1 bd1 (VecAt xs.length R) w1 rb1 (.returned (.int .i64 (q : Nat))) w3 from ⟨X, rb', cap', q, rfl, hm', (Ext.of rb1 ((Below.refl w1.heap.size w1).alloc (Nat.le_refl _) _)).trans hx, hl, hq1, hq2, hR⟩)
  clear hm' hx hl hq1 hq2 hR
  go_wp2_with fail
  go_ret
  exact HP.out

end Go.Proofs.YtdljkanfebndaaaGreatDoor
