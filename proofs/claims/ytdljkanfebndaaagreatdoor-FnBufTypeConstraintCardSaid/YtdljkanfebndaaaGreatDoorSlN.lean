/-
  The slots of nodes with one node in them. No conditions.
-/
import Derived.Test.YtdljkanfebndaaaGreatDoorSlK
namespace Go.Proofs.YtdljkanfebndaaaGreatDoor
open Go.RowKit
set_option linter.unusedVariables false
set_option linter.unusedSimpArgs false

theorem lit_45 (t m : ByteArray) (u : Int) (b o cap : Nat) (x : Nd) (R : By → Nat → Prop) (bd : Nat) (w : World) (hx : NdCells w b o x) :
    Calls Tryz.prog 134 #[.agg #[.int .i64 45, .string t, .string m, .int .u64 u, .slice (some ⟨b, o, none⟩) 1 cap]] w fun e w' => ∃ (cb : Nat) (wa : World), LitPost w [⟨1, 4, 0, some (204, #[.pointer (some ⟨cb, 0, none⟩)]), R, bd⟩] wa e w' ∧ w.heap.size ≤ cb ∧ NdCells wa cb 0 x := by
  have hb : b < w.heap.size := hx.lt
  obtain ⟨c0, c1, c2, c3, c4⟩ := hx
  go_enter Tryz.func134, Tryz.ntmps134
  go_wp2_with fail
  show Calls _ _ #[_, x.val] _ _
  refine (nodeAt_any 1 x _).mono ?_
  rintro e w2 ⟨cb, rfl, hcb, hct, hb2⟩
  have hw : w.heap.size < (w.alloc (.cells #[.int .i64 45, .string t, .string m, .int .u64 u, .slice (some ⟨b, o, none⟩) 1 cap] 25)).heap.size := by simp
  have HB := Lib.hid (((Below.refl w.heap.size w).alloc (Nat.le_refl _) (.cells #[.int .i64 45, .string t, .string m, .int .u64 u, .slice (some ⟨b, o, none⟩) 1 cap] 25)).trans (hb2.mono (Nat.le_of_lt hw)))
  have HC := Lib.hid hct
  have HCB := Lib.hid (Nat.le_of_lt (Nat.lt_of_lt_of_le hw hcb))
  clear hcb hct hb2 hw
  go_wp2_with fail
  go_ret
  exact ⟨cb, w2, ⟨rfl, rfl, HB.out⟩, HCB.out, HC.out⟩

set_option maxRecDepth 100000 in
theorem slC_45 (W0 : World) (bs : Bool) (n : Nd) (hk : n.kind = 45) (x : Nd) (D : Nat) (R : By → Nat → Prop) (bd : Nat) (hkx : n.kids = [x]) (hL : LiesD D W0 n) (hN : NodeW W0 bs bd x R) : SlotsC W0 bs n (fun sl => ∃ c, sl = [⟨1, 4, 0, some (204, c), R, bd⟩]) := by
  intro mb rb cap O w hb hm
  have hval : n.val = .agg #[.int .i64 45, .string n.text, .string n.more, .int .u64 n.num, .slice n.ao n.kids.length n.cap] := by rw [← hk]; rfl
  rw [hval]
  have HM := Lib.hid hm
  have HB := Lib.hid hb
  clear hm hb hval
  have hty : isTypeB 45 = true := by decide
  have hln : n.kids.length = 1 := by rw [hkx]; rfl
  obtain ⟨b, o, hao, hx0⟩ : ∃ b o, n.ao = some ⟨b, o, none⟩ ∧ NdCells w b o x := by
    cases D with
    | zero => exact hL.elim
    | succ D =>
      obtain ⟨⟨b, o, ha, hc⟩, -⟩ := hL.2 0 x (by rw [hkx]; rfl)
      rw [Nat.zero_mul, Nat.add_zero] at hc
      exact ⟨b, o, ha, hc.below HB.out hc.lt⟩
  have hxl : b < w.heap.size := hx0.lt
  rw [hln, hao]
  go_enter Tryz.func75, Tryz.ntmps75
  go_wp2_with fail
  refine (isType_any 45 _).mono ?_
  rintro e w2 ⟨rfl, hb1⟩
  have hw : w.heap.size < (w.alloc (.cells #[.int .i64 45, .string n.text, .string n.more, .int .u64 n.num, .slice (some ⟨b, o, none⟩) 1 n.cap] 25)).heap.size := by simp
  have hcell : ∀ j, (w.alloc (.cells #[.int .i64 45, .string n.text, .string n.more, .int .u64 n.num, .slice (some ⟨b, o, none⟩) 1 n.cap] 25)).cell? ⟨w.heap.size, j, none⟩ = (#[.int .i64 45, .string n.text, .string n.more, .int .u64 n.num, .slice (some ⟨b, o, none⟩) 1 n.cap] : Array Value)[j]? := fun j => World.cell?_alloc_at _ _ _ _ rfl
  have n0 := (hb1.cell (p := ⟨w.heap.size, 0, none⟩) hw).trans (hcell 0)
  have n1 := (hb1.cell (p := ⟨w.heap.size, 1, none⟩) hw).trans (hcell 1)
  have n2 := (hb1.cell (p := ⟨w.heap.size, 2, none⟩) hw).trans (hcell 2)
  have n3 := (hb1.cell (p := ⟨w.heap.size, 3, none⟩) hw).trans (hcell 3)
  have n4 := (hb1.cell (p := ⟨w.heap.size, 4, none⟩) hw).trans (hcell 4)
  have hb2 : Below w.heap.size w w2 := ((Below.refl _ _).alloc (Nat.le_refl _) _).trans (hb1.mono (Nat.le_of_lt hw))
  have HB2 := Lib.hid hb2
  clear hb1 hcell hw hb2
  go_wp2_with fail
  refine (lit_45 _ _ _ _ _ _ x R bd _ (hx0.below HB2.out hxl)).mono ?_
  rintro e w3 ⟨cb, wa, ⟨rfl, hw3, hb3⟩, hcb, hct⟩
  clear n0 n1 n2 n3 n4
  have HW3 := Lib.hid hw3
  clear hw3
  go_wp2_with fail
  go_ret
  have hb2 := HB2.out
  refine litPost_slots HB2.out hb3 HW3.out ⟨_, rfl⟩ (by simp) (fun t ht F c h => ?_)
  · obtain rfl := List.mem_singleton.1 ht
    cases h
    have := hb2.size
    exact node_ref W0 mb bs x bd R _ wa rb hN (HB.out.trans ((HB2.out.trans (hb3.mono hb2.size)).mono HB.out.size)) HM.out.km HM.out.row.1 hct (by have := HM.out.mlt; omega) (by have := HM.out.row.2; omega)

theorem lit_4 (t m : ByteArray) (u : Int) (b o cap : Nat) (x : Nd) (R : By → Nat → Prop) (bd : Nat) (w : World) (hx : NdCells w b o x) :
    Calls Tryz.prog 137 #[.agg #[.int .i64 4, .string t, .string m, .int .u64 u, .slice (some ⟨b, o, none⟩) 1 cap]] w fun e w' => ∃ (cb : Nat) (wa : World), LitPost w [⟨1, 4, 0, some (204, #[.pointer (some ⟨cb, 0, none⟩)]), R, bd⟩] wa e w' ∧ w.heap.size ≤ cb ∧ NdCells wa cb 0 x := by
  have hb : b < w.heap.size := hx.lt
  obtain ⟨c0, c1, c2, c3, c4⟩ := hx
  go_enter Tryz.func137, Tryz.ntmps137
  go_wp2_with fail
  show Calls _ _ #[_, x.val] _ _
  refine (nodeAt_any 1 x _).mono ?_
  rintro e w2 ⟨cb, rfl, hcb, hct, hb2⟩
  have hw : w.heap.size < (w.alloc (.cells #[.int .i64 4, .string t, .string m, .int .u64 u, .slice (some ⟨b, o, none⟩) 1 cap] 25)).heap.size := by simp
  have HB := Lib.hid (((Below.refl w.heap.size w).alloc (Nat.le_refl _) (.cells #[.int .i64 4, .string t, .string m, .int .u64 u, .slice (some ⟨b, o, none⟩) 1 cap] 25)).trans (hb2.mono (Nat.le_of_lt hw)))
  have HC := Lib.hid hct
  have HCB := Lib.hid (Nat.le_of_lt (Nat.lt_of_lt_of_le hw hcb))
  clear hcb hct hb2 hw
  go_wp2_with fail
  go_ret
  exact ⟨cb, w2, ⟨rfl, rfl, HB.out⟩, HCB.out, HC.out⟩

set_option maxRecDepth 100000 in
theorem slC_4 (W0 : World) (bs : Bool) (n : Nd) (hk : n.kind = 4) (x : Nd) (D : Nat) (R : By → Nat → Prop) (bd : Nat) (hkx : n.kids = [x]) (hL : LiesD D W0 n) (hN : NodeW W0 bs bd x R) : SlotsC W0 bs n (fun sl => ∃ c, sl = [⟨1, 4, 0, some (204, c), R, bd⟩]) := by
  intro mb rb cap O w hb hm
  have hval : n.val = .agg #[.int .i64 4, .string n.text, .string n.more, .int .u64 n.num, .slice n.ao n.kids.length n.cap] := by rw [← hk]; rfl
  rw [hval]
  have HM := Lib.hid hm
  have HB := Lib.hid hb
  clear hm hb hval
  have hty : isTypeB 4 = false := by decide
  have hln : n.kids.length = 1 := by rw [hkx]; rfl
  obtain ⟨b, o, hao, hx0⟩ : ∃ b o, n.ao = some ⟨b, o, none⟩ ∧ NdCells w b o x := by
    cases D with
    | zero => exact hL.elim
    | succ D =>
      obtain ⟨⟨b, o, ha, hc⟩, -⟩ := hL.2 0 x (by rw [hkx]; rfl)
      rw [Nat.zero_mul, Nat.add_zero] at hc
      exact ⟨b, o, ha, hc.below HB.out hc.lt⟩
  have hxl : b < w.heap.size := hx0.lt
  rw [hln, hao]
  go_enter Tryz.func75, Tryz.ntmps75
  go_wp2_with fail
  refine (isType_any 4 _).mono ?_
  rintro e w2 ⟨rfl, hb1⟩
  have hw : w.heap.size < (w.alloc (.cells #[.int .i64 4, .string n.text, .string n.more, .int .u64 n.num, .slice (some ⟨b, o, none⟩) 1 n.cap] 25)).heap.size := by simp
  have hcell : ∀ j, (w.alloc (.cells #[.int .i64 4, .string n.text, .string n.more, .int .u64 n.num, .slice (some ⟨b, o, none⟩) 1 n.cap] 25)).cell? ⟨w.heap.size, j, none⟩ = (#[.int .i64 4, .string n.text, .string n.more, .int .u64 n.num, .slice (some ⟨b, o, none⟩) 1 n.cap] : Array Value)[j]? := fun j => World.cell?_alloc_at _ _ _ _ rfl
  have n0 := (hb1.cell (p := ⟨w.heap.size, 0, none⟩) hw).trans (hcell 0)
  have n1 := (hb1.cell (p := ⟨w.heap.size, 1, none⟩) hw).trans (hcell 1)
  have n2 := (hb1.cell (p := ⟨w.heap.size, 2, none⟩) hw).trans (hcell 2)
  have n3 := (hb1.cell (p := ⟨w.heap.size, 3, none⟩) hw).trans (hcell 3)
  have n4 := (hb1.cell (p := ⟨w.heap.size, 4, none⟩) hw).trans (hcell 4)
  have hb2 : Below w.heap.size w w2 := ((Below.refl _ _).alloc (Nat.le_refl _) _).trans (hb1.mono (Nat.le_of_lt hw))
  have HB2 := Lib.hid hb2
  clear hb1 hcell hw hb2
  go_wp2_with fail
  refine (lit_4 _ _ _ _ _ _ x R bd _ (hx0.below HB2.out hxl)).mono ?_
  rintro e w3 ⟨cb, wa, ⟨rfl, hw3, hb3⟩, hcb, hct⟩
  clear n0 n1 n2 n3 n4
  have HW3 := Lib.hid hw3
  clear hw3
  go_wp2_with fail
  go_ret
  have hb2 := HB2.out
  refine litPost_slots HB2.out hb3 HW3.out ⟨_, rfl⟩ (by simp) (fun t ht F c h => ?_)
  · obtain rfl := List.mem_singleton.1 ht
    cases h
    have := hb2.size
    exact node_ref W0 mb bs x bd R _ wa rb hN (HB.out.trans ((HB2.out.trans (hb3.mono hb2.size)).mono HB.out.size)) HM.out.km HM.out.row.1 hct (by have := HM.out.mlt; omega) (by have := HM.out.row.2; omega)

end Go.Proofs.YtdljkanfebndaaaGreatDoor
