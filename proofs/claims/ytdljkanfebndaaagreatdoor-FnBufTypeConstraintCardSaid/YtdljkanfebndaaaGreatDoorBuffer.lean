/-
  spec.Buffer: a tree's flatbuffer. The tree's table takes at most 2^29 bytes.
-/
import Derived.Test.YtdljkanfebndaaaGreatDoorNodeW
namespace Go.Proofs.YtdljkanfebndaaaGreatDoor
open Go.RowKit
set_option linter.unusedVariables false
set_option linter.unusedSimpArgs false

theorem make_four (W : World) : Sem.run Tryz.prog (Instr.makeSlice 30 (.int .i64 4) (.int .i64 4)) W = .ok (.slice (some ⟨W.heap.size, 0, none⟩) 4 4) (W.alloc (.cells #[.int .u8 0, .int .u8 0, .int .u8 0, .int .u8 0] 5)) := by
  obtain ⟨i, hi, h1, h2, h3⟩ := info_parts' infoByte'
  have hr := run_make (P := Tryz.prog) W 30 5 i (.int .u8 0) Tryz.underlying30 hi h1 .i64 .i64 4 4 (by omega) (by omega) (by rw [h3]; omega) (by omega)
  have e : madeCells (Value.int .u8 0).cells (Int.toNat 4 * 1) = #[.int .u8 0, .int .u8 0, .int .u8 0, .int .u8 0] := by kernel_rfl
  rw [hr, h2, e]
  rfl

theorem mk_start (W : World) (K : Nat) (hK : K ≤ W.heap.size) (T : TypeId) (bs : Bool) : Mk K ((W.alloc (.cells #[.int .u8 0, .int .u8 0, .int .u8 0, .int .u8 0] 5)).alloc (.cells #[.slice (some ⟨W.heap.size, 0, none⟩) 4 4, .bool bs] T)) (W.heap.size + 1) W.heap.size 4 [0, 0, 0, 0] bs := by
  have hsz : (W.alloc (.cells #[.int .u8 0, .int .u8 0, .int .u8 0, .int .u8 0] 5)).heap.size = W.heap.size + 1 := by simp
  have hc : ∀ j, ((W.alloc (.cells #[.int .u8 0, .int .u8 0, .int .u8 0, .int .u8 0] 5)).alloc (.cells #[.slice (some ⟨W.heap.size, 0, none⟩) 4 4, .bool bs] T)).cell? ⟨W.heap.size + 1, j, none⟩ = (#[.slice (some ⟨W.heap.size, 0, none⟩) 4 4, .bool bs] : Array Value)[j]? := fun j => World.cell?_alloc_at _ _ _ _ hsz.symm
  refine ⟨hc 0, hc 1, fun o => World.frozen?_alloc_at _ _ _ _ hsz.symm, by omega, by omega, rfl, .inr ⟨W.heap.size, 4, #[.int .u8 0, .int .u8 0, .int .u8 0, .int .u8 0], rfl, hK, ?_, by decide, by decide, rfl, rfl⟩⟩
  rw [Below.heap_alloc _ _ _ (by rw [hsz]; omega)]
  exact heap_alloc_new W _

set_option maxHeartbeats 1000000 in
set_option maxRecDepth 100000 in
theorem buffer_any (bs : Bool) (bd : Nat) (n : Nd) (R : By → Nat → Prop) (hbd : bd ≤ 1072000000) (w : World) (hN : NodeW w bs bd n R) :
    Calls Tryz.prog 14 #[n.val, .bool bs] w fun e w' => ∃ (B : By) (rb cap p : Nat), e = .returned (.slice (some ⟨rb, 0, none⟩) B.length cap) ∧ w'.ownsRow w.heap.size 5 1 (.slice (some ⟨rb, 0, none⟩) B.length cap) B.length (bytesV B) ∧ Below w.heap.size w w' ∧ 4 ≤ B.length ∧ B.length ≤ 1073000000 ∧ leAt B 0 4 = p ∧ p < B.length ∧ R B p := by
  have HNW := Lib.hid hN
  clear hN
  have hmk := make_four
  have hval : n.val = .agg #[.int .i64 n.kind, .string n.text, .string n.more, .int .u64 n.num, .slice n.ao n.kids.length n.cap] := rfl
  rw [hval]
  go_enter Tryz.func14, Tryz.ntmps14
  go_upto_region 2 with fail
  have hM0 := mk_start (w.alloc (.cells #[.int .i64 n.kind, .string n.text, .string n.more, .int .u64 n.num, .slice n.ao n.kids.length n.cap] 25)) w.heap.size (by simp) 53 bs
  have hB0 : Below w.heap.size w (((w.alloc (.cells #[.int .i64 n.kind, .string n.text, .string n.more, .int .u64 n.num, .slice n.ao n.kids.length n.cap] 25)).alloc (.cells #[.int .u8 0, .int .u8 0, .int .u8 0, .int .u8 0] 5)).alloc (.cells #[.slice (some ⟨(w.alloc (.cells #[.int .i64 n.kind, .string n.text, .string n.more, .int .u64 n.num, .slice n.ao n.kids.length n.cap] 25)).heap.size, 0, none⟩) 4 4, .bool bs] 53)) :=
    (((Below.refl _ _).alloc (Nat.le_refl _) _).alloc (by simp) _).alloc (by simp; omega) _
  have hcell : ∀ j, (((w.alloc (.cells #[.int .i64 n.kind, .string n.text, .string n.more, .int .u64 n.num, .slice n.ao n.kids.length n.cap] 25)).alloc (.cells #[.int .u8 0, .int .u8 0, .int .u8 0, .int .u8 0] 5)).alloc (.cells #[.slice (some ⟨(w.alloc (.cells #[.int .i64 n.kind, .string n.text, .string n.more, .int .u64 n.num, .slice n.ao n.kids.length n.cap] 25)).heap.size, 0, none⟩) 4 4, .bool bs] 53)).cell? ⟨w.heap.size, j, none⟩ = (#[.int .i64 n.kind, .string n.text, .string n.more, .int .u64 n.num, .slice n.ao n.kids.length n.cap] : Array Value)[j]? := fun j => ((World.cell?_of_block (Below.heap_alloc _ _ _ (by simp; omega))).trans (World.cell?_of_block (Below.heap_alloc _ _ _ (by simp)))).trans (World.cell?_alloc_at _ _ _ _ rfl)
  have hsz : (w.alloc (.cells #[.int .i64 n.kind, .string n.text, .string n.more, .int .u64 n.num, .slice n.ao n.kids.length n.cap] 25)).heap.size = w.heap.size + 1 := by simp
  rw [hsz] at hM0 hB0 hcell
  generalize ((w.alloc (.cells #[.int .i64 n.kind, .string n.text, .string n.more, .int .u64 n.num, .slice n.ao n.kids.length n.cap] 25)).alloc (.cells #[.int .u8 0, .int .u8 0, .int .u8 0, .int .u8 0] 5)).alloc (.cells #[.slice (some ⟨w.heap.size + 1, 0, none⟩) 4 4, .bool bs] 53) = V at *
  obtain ⟨mb, hmb⟩ : ∃ mb, mb = w.heap.size + 1 + 1 := ⟨_, rfl⟩
  obtain ⟨rb, hrb⟩ : ∃ rb, rb = w.heap.size + 1 := ⟨_, rfl⟩
  rw [← hrb] at hM0 hmb ⊢
  rw [← hmb] at hM0 ⊢
  have HM0 := Lib.hid hM0
  have HB0 := Lib.hid hB0
  have n0 := hcell 0
  have n1 := hcell 1
  have n2 := hcell 2
  have n3 := hcell 3
  have n4 := hcell 4
  clear hM0 hB0 hcell hmk hmb hrb hsz
  go_wp2_with fail
  refine (HNW.out mb rb 4 [0, 0, 0, 0] V HB0.out HM0.out (by simp; omega)).mono ?_
  rintro e w1 ⟨X, rb1, cap1, q, rfl, hm1, hx1, hl, hq1, hq2, hR⟩
  have hX : (([0, 0, 0, 0] : By) ++ X).length = 4 + X.length := by simp; omega
  obtain ⟨OA, hOA⟩ : ∃ OA, OA = ([0, 0, 0, 0] : By) ++ X := ⟨_, rfl⟩
  rw [← hOA] at hm1 hX hR
  have hq1 : 4 ≤ q := hq1
  have hq2 : q < 4 + X.length := hq2
  have HM1 := Lib.hid hm1
  have HX1 := Lib.hid hx1
  have HR := Lib.hid hR
  have hc1 := hm1.c0
  have hf1 := hm1.fz 0
  have hla : (OA.length : Int) ≤ 1072000004 := by omega
  have hwr : IntKind.u64.wrap (q : Int) = (q : Int) := by rw [IntKind.wrap_u64]; omega
  have HQ1 := Lib.hid hq1
  have HQ2 := Lib.hid hq2
  have HXL := Lib.hid hX
  have HLL := Lib.hid hl
  clear hm1 hx1 hR hOA n0 n1 n2 n3 n4 hX hq1 hq2 hl
  go_upto_region 3 with fail
  have HMD := Lib.hid HM1.out.drew
  go_region_law (first
    | (rw [if_pos (by rfl)]; go_simp; go_at_call 31; refine (little_int q 4 _ _ (by decide) (by have := HQ2.out; have := HXL.out; omega) (by rfl) (by rfl) _).mono ?_; rintro e w3 ⟨vo, vc, rfl, HL3, HBB⟩; have HM3 := Lib.hid (HMD.out.below HBB); have HE3 := Lib.hid HBB; have HW3 := Lib.hid HL3; have hc3 := HM3.out.c0; clear HL3; dsimp only)
    | (refine step_copy_mk rfl _ _ 30 30 rfl Tryz.underlying30 infoByteS HM3.out (Lib.leBytes 4 q) 4 0 OA.length cap1 _ _ rfl rfl (Lib.leBytes_length _ _) (by decide) HW3.out (by have := HXL.out; omega) (by have := HXL.out; omega) ?_; intro w4 hmc hec hsc; have HMC4 := Lib.hid hmc; have HEC4 := Lib.hid hec; clear hmc hec))
  all_goals
    have hfit : 0 + (Lib.leBytes 4 q).length ≤ OA.length := by rw [Lib.leBytes_length]; have := HXL.out; omega
    have hpl := put_length hfit
    obtain ⟨OB, hOB⟩ : ∃ OB, OB = put OA 0 (Lib.leBytes 4 q) := ⟨_, rfl⟩
    rw [← hOB] at hpl
    have HMB : Hid (Mk w.heap.size w4 mb rb1 cap1 OB bs) := by rw [hOB]; exact HMC4
    have HXB := Lib.hid (((HX1.out.trans (Ext.of rb1 ((Below.refl _ _).drew.trans HE3.out))).trans HEC4.out))
    have hat : leAt OB 0 4 = q := by
      rw [hOB]
      have e := leAt_put_same hfit
      rw [Lib.leBytes_length] at e
      rw [e, Lib.leNat_leBytes _ _ (by have := HQ2.out; have := HXL.out; omega)]
    have hag : Agree 4 OA OB := by rw [hOB]; exact Agree.put hfit (by rw [Lib.leBytes_length]; omega)
    have HAT := Lib.hid hat
    have HAG := Lib.hid hag
    have HPL := Lib.hid hpl
    clear hOB hat hag hpl hfit HMC4
    go_wp2_with fail
    refine (pad_int w.heap.size mb rb1 cap1 8 0 _ _ OB bs (.inl rfl) (by decide) (by have := HPL.out; omega) rfl rfl w4 HMB.out).mono ?_
    rintro e w5 ⟨rfl, z, rb5, cap5, hz, hz8, hm5, he5⟩
    have HM5 := Lib.hid hm5
    have HE5 := Lib.hid (HXB.out.trans he5)
    have hc5 := hm5.c0
    have hl5 : (OB ++ List.replicate z (0 : UInt8)).length = OB.length + z := by simp
    obtain ⟨B, hB⟩ : ∃ B, B = OB ++ List.replicate z (0 : UInt8) := ⟨_, rfl⟩
    rw [← hB] at HM5 hc5 hl5
    have HBB2 := Lib.hid hB
    have HL5 := Lib.hid hl5
    clear hm5 he5 hB hl5
    go_wp2_with fail
    go_ret
    have e1 := HPL.out
    have e2 := HXL.out
    have e3 := HL5.out
    have e4 := HLL.out
    have hmk := HM0.out.mlt
    refine ⟨B, rb5, cap5, q, rfl, HM5.out.own, HB0.out.trans (HE5.out.below HM0.out.km HM0.out.row.1 HB0.out.size), by omega, by omega, ?_, by have := HQ2.out; omega, HR.out B ?_⟩
    · rw [HBB2.out, leAt_agree (Agree.append 0 OB _) (Nat.le_refl _) (by omega)]
      exact HAT.out
    · refine Agree.trans HAG.out ?_ (by omega)
      rw [HBB2.out]
      exact Agree.append 4 OB _

end Go.Proofs.YtdljkanfebndaaaGreatDoor
