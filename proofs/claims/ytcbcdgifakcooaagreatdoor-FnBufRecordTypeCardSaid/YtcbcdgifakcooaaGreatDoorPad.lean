/-
  The maker pads its bytes with zeros. The bytes are at most 2^30.
-/
import Derived.Test.YtcbcdgifakcooaaGreatDoorApp
namespace Go.Proofs.YtcbcdgifakcooaaGreatDoor
open Go.RowKit
set_option linter.unusedVariables false
set_option linter.unusedSimpArgs false

theorem pad_go {l ah z al : Nat} (hal : al = 8 ∨ al = 4) (hz : z ≤ (al - (l + ah) % al) % al) (h : (l + z + ah) % al ≠ 0) : z + 1 ≤ (al - (l + ah) % al) % al := by
  rcases hal with rfl | rfl <;> omega

theorem tmod_nat (a b : Nat) : Int.tmod (a : Int) (b : Int) = ((a % b : Nat) : Int) := by
  rw [Int.tmod_eq_emod_of_nonneg (by omega)]
  rfl

set_option maxRecDepth 100000 in
theorem pad_any (K mb rb cap al ah : Nat) (O : By) (bs : Bool) (hal : al = 8 ∨ al = 4) (hah : ah < 65536) (hO : O.length ≤ 1073741824) (w : World) (hm : Mk K w mb rb cap O bs) :
    Calls Tryz.prog 22 #[.pointer (some ⟨mb, 0, none⟩), .int .i64 (al : Nat), .int .i64 (ah : Nat)] w fun e w' => e = .returned (.tuple #[]) ∧ ∃ z rb' cap', z < 8 ∧ (O.length + z + ah) % al = 0 ∧ Mk K w' mb rb' cap' (O ++ List.replicate z 0) bs ∧ Ext mb w rb w' rb' := by
  have hal8 : al ≤ 8 := by omega
  have hal0 : ((al : Int) == 0) = false := by rcases hal with rfl | rfl <;> rfl
  have hal1 : ¬ ((al : Int) = 0) := by rcases hal with rfl | rfl <;> omega
  have hZ : (al - (O.length + ah) % al) % al < 8 := by rcases hal with rfl | rfl <;> omega
  have HM := Lib.hid hm
  have HZ := Lib.hid hZ
  have HAL := Lib.hid hal
  have hmlt : mb < w.heap.size := hm.mlt
  clear hm hZ hal
  go_enter Tryz.func22, Tryz.ntmps22
  go_wp2_with fail
  go_loopg [] 9 (fun gk wr => ∃ (z rb1 cap1 : Nat) (O1 : By), Hid (z ≤ (al - (O.length + ah) % al) % al) ∧ gk = 9 - z ∧ O1.length = O.length + z ∧ Hid (O1 = O ++ List.replicate z 0) ∧ Hid (Mk K wr mb rb1 cap1 O1 bs) ∧ Hid (Ext mb w rb wr rb1))
  case atStart => exact ⟨0, rb, cap, O, Lib.hid (Nat.zero_le _), rfl, rfl, Lib.hid (by simp), HM, Lib.hid (Ext.refl mb w rb)⟩
  case round =>
    obtain ⟨z, rb1, cap1, O1, HZZ, hgk, hl1, HO, HM1, HE⟩ := hrel
    have HL := Lib.hid hl1
    have HK := Lib.hid hgk
    clear hl1 hgk
    have h0 := HM1.out.c0
    have hf := HM1.out.fz 0
    have hO1 : (O1.length : Int) ≤ 1073741832 := by have := HL.out; have := HZZ.out; have := HZ.out; omega
    have hO0 : (0 : Int) ≤ (O1.length : Int) := by omega
    by_cases hstop : (O1.length + ah) % al = 0
    · have hs : ((((O1.length : Int) + (ah : Int)) % (al : Int)) != 0) = false := by
        rw [← Int.natCast_add, ← Int.natCast_emod, hstop]; rfl
      go_wp2_with fail
      go_end0
      refine ⟨rfl, z, rb1, cap1, by have := HZZ.out; have := HZ.out; omega, by have := HL.out; rw [← this]; exact hstop, HM1.out.cast HO.out, HE.out⟩
    · have hs : ((((O1.length : Int) + (ah : Int)) % (al : Int)) != 0) = true := by
        rw [← Int.natCast_add, ← Int.natCast_emod, bne_iff_ne]; omega
      have hb : O1.length + 1 ≤ 140737488355328 := by omega
      have HMA := Lib.hid (HM1.out.alloc (.cells #[.int .u8 0] 5))
      have HEA := Lib.hid (HE.out.alloc (.cells #[.int .u8 0] 5))
      go_wp2_with (at_builtin; refine wpList_append_mk rfl _ _ 30 rfl Tryz.underlying30 infoByte' HMA.out [0] 1 ⟨wr.heap.size, 0, none⟩ 1 rfl rfl rfl (by decide) (one_src wr 0 _ _ rfl) hb ?_; intro g cap' w4 HO4 HG4 HR4 hlt4; have hc4 := HMA.out.grown_cell HG4.out)
      have hfin := HMA.out.appended (X := [0]) (n := 1) rfl HG4.out HR4.out HO4.out
      clear hc4
      go_roundg (9 - (z + 1))
      case measure => have := HK.out; have := HZZ.out; have := HZ.out; omega
      case rel =>
        refine ⟨z + 1, g, cap', O1 ++ [0], Lib.hid ?_, rfl, ?_, Lib.hid ?_, Lib.hid hfin.1, Lib.hid (HEA.out.trans hfin.2)⟩
        · exact pad_go HAL.out HZZ.out (by rw [← HL.out]; exact hstop)
        · rw [List.length_append, HL.out]; rfl
        · rw [HO.out, List.append_assoc, ← List.replicate_succ']

theorem pad_int (K mb rb cap al ah : Nat) (ai hi : Int) (O : By) (bs : Bool) (hal : al = 8 ∨ al = 4) (hah : ah < 65536) (hO : O.length ≤ 1073741824) (ha : ai = (al : Int)) (hh : hi = (ah : Int)) (w : World) (hm : Mk K w mb rb cap O bs) :
    Calls Tryz.prog 22 #[.pointer (some ⟨mb, 0, none⟩), .int .i64 ai, .int .i64 hi] w fun e w' => e = .returned (.tuple #[]) ∧ ∃ z rb' cap', z < 8 ∧ (O.length + z + ah) % al = 0 ∧ Mk K w' mb rb' cap' (O ++ List.replicate z 0) bs ∧ Ext mb w rb w' rb' := by
  subst ha
  subst hh
  exact pad_any K mb rb cap al ah O bs hal hah hO w hm

end Go.Proofs.YtcbcdgifakcooaaGreatDoor
