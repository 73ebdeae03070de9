/-
  The maker writes a text. The bytes are at most 2^29, the text at most 2^16 bytes.
-/
import Derived.Test.YtcbcdgifakcooaaGreatDoorPad
import Derived.Test.YtcbcdgifakcooaaGreatDoorLay
import Derived.Deep.RegionLaw
import Derived.Deep.RegionHeld3
import Derived.Deep.CutRange
namespace Go.Proofs.YtcbcdgifakcooaaGreatDoor
open Go.RowKit
set_option linter.unusedVariables false
set_option linter.unusedSimpArgs false

/-- What a writing function does: it writes X behind all, hands back a place in it, and whatever reads as that does from O's end on reads at that place as R says. -/
def PostW (K mb : Nat) (bs : Bool) (O : By) (bd : Nat) (R : By → Nat → Prop) (w : World) (rb : Nat) (e : Ending) (w' : World) : Prop :=
  ∃ (X : By) (rb' cap' q : Nat), e = .returned (.int .i64 (q : Nat)) ∧ Mk K w' mb rb' cap' (O ++ X) bs ∧ Ext mb w rb w' rb' ∧ X.length ≤ bd ∧ O.length ≤ q ∧ q < O.length + X.length ∧ ∀ B, Agree O.length (O ++ X) B → R B q

/-- A text stands at a place. -/
structure TextAt (s : ByteArray) (B : By) (p : Nat) : Prop where
  n : leAt B p 4 = s.size
  l : p + 4 + s.size < B.length
  b : ∀ j (hj : j < s.size), B[p + 4 + j]? = some (s[j]'hj)

theorem two_row {w5 w6 : World} {rb g6 g7 n c : Nat} {o : Obj} (h : w5.grownBy w6 (some rb)) (hr : rb = g6 ∨ w5.heap.size ≤ g6) (h7 : (Value.slice (some ⟨g6, 0, none⟩) n c).ownBlock = some g7 ∨ g7 = (w6.alloc o).heap.size) : rb = g7 ∨ w5.heap.size ≤ g7 := by
  rcases h7 with e | e
  · obtain rfl : g6 = g7 := Option.some.inj e
    exact hr
  · refine .inr ?_
    have := h.size
    rw [e]
    simp
    omega

theorem text_at {O : By} {z : Nat} {s : ByteArray} (hs : s.size < 65536) {B : By} (h : Agree O.length (O ++ (List.replicate z 0 ++ Lib.leBytes 4 s.size ++ s.data.toList ++ [0])) B) : TextAt s B (O.length + z) := by
  have hsl : s.data.toList.length = s.size := by rw [Array.length_toList]; rfl
  have hl : (O ++ (List.replicate z 0 ++ Lib.leBytes 4 s.size ++ s.data.toList ++ [0])).length = O.length + z + 4 + s.size + 1 := by
    simp only [List.length_append, List.length_replicate, Lib.leBytes_length, hsl, List.length_cons, List.length_nil]
    omega
  have hbl := h.len (by omega)
  refine ⟨?_, by omega, fun j hj => ?_⟩
  · rw [leAt_agree h (by omega) (by omega)]
    refine leAt_mid (A := O ++ List.replicate z 0) (X := s.data.toList ++ [0]) (by omega) ?_ (by rw [List.length_append, List.length_replicate])
    simp only [List.append_assoc]
  · rw [h _ (by omega) (by omega)]
    have e : O ++ (List.replicate z 0 ++ Lib.leBytes 4 s.size ++ s.data.toList ++ [0]) = (O ++ List.replicate z 0 ++ Lib.leBytes 4 s.size) ++ (s.data.toList ++ [0]) := by simp only [List.append_assoc]
    have el : (O ++ List.replicate z 0 ++ Lib.leBytes 4 s.size).length = O.length + z + 4 := by simp only [List.length_append, List.length_replicate, Lib.leBytes_length]
    rw [e, List.getElem?_append_right (by omega), el, show O.length + z + 4 + j - (O.length + z + 4) = j from by omega, List.getElem?_append_left (by omega)]
    rw [List.getElem?_eq_getElem (by omega)]
    rfl

set_option maxHeartbeats 1000000 in
set_option maxRecDepth 100000 in
theorem text_any (K mb rb cap : Nat) (O : By) (bs : Bool) (s : ByteArray) (hs : s.size < 65536) (hO : O.length ≤ 1073000000) (w : World) (hm : Mk K w mb rb cap O bs) :
    Calls Tryz.prog 205 #[.pointer (some ⟨mb, 0, none⟩), .string s] w (PostW K mb bs O (s.size + 16) (fun B p => TextAt s B p) w rb) := by
  have hmlt : mb < w.heap.size := hm.mlt
  go_enter Tryz.func205, Tryz.ntmps205
  have HM := Lib.hid hm
  clear hm
  obtain ⟨i0, hi, hiz, his, hib⟩ := info_parts' infoByte'
  go_wp2_with fail
  refine (pad_any K mb rb cap 4 0 O bs (.inr rfl) (by decide) (by omega) w HM.out).mono ?_
  rintro e w1 ⟨rfl, z, rb1, cap1, hz, hz4, hm1, he1⟩
  have HM1 := Lib.hid hm1
  have HE1 := Lib.hid he1
  have hc1 := hm1.c0
  have hf1 := hm1.fz 0
  have hlen : (O ++ List.replicate z (0 : UInt8)).length = O.length + z := by simp
  obtain ⟨O1, hO1⟩ : ∃ O1, O1 = O ++ List.replicate z (0 : UInt8) := ⟨_, rfl⟩
  rw [← hO1] at HM1 hlen hc1
  have HO1 := Lib.hid hO1
  have HL1 := Lib.hid hlen
  clear hO1 hlen hm1 he1
  have hb1 : (O1.length : Int) ≤ 1073000008 := by have := HL1.out; omega
  have hb0 : (0 : Int) ≤ (O1.length : Int) := by omega
  have hs1 : (s.size : Int) < 65536 := by omega
  have hs0 : (0 : Int) ≤ (s.size : Int) := by omega
  have hwr : IntKind.u64.wrap (s.size : Int) = (s.size : Int) := by rw [IntKind.wrap_u64]; omega
  go_upto_region 3 with fail
  have HMD := Lib.hid HM1.out.drew
  go_region_law (first
    | (rw [if_pos (by rfl)]; go_simp; go_at_call 21; refine (little_any s.size 4 (by decide) (by omega) _).mono ?_; rintro e w2 ⟨vo, vc, rfl, HL2, HB2⟩; obtain ⟨g2, rfl, hg2, hB2, hsrc2⟩ := own_src (X := Lib.leBytes 4 s.size) HL2 (by decide); have HM2 := Lib.hid (HMD.out.below HB2); have HE2 := Lib.hid HB2; have hc2 := HM2.out.c0; have HS2 := Lib.hid hsrc2; clear hsrc2 HL2; try go_wp2_with fail)
    | (refine step_append_mk rfl _ _ 30 rfl Tryz.underlying30 infoByte' HM2.out (Lib.leBytes 4 s.size) 4 _ _ rfl rfl (Lib.leBytes_length _ _) (by decide) HS2.out (by omega) ?_; intro g cap' w4 HO4 HG4 HR4 hlt4; have hc4 := HM2.out.grown_cell HG4.out; have hfin := Lib.hid (HM2.out.appended (X := Lib.leBytes 4 s.size) (n := 4) (Lib.leBytes_length _ _) HG4.out HR4.out HO4.out)))
  all_goals
    obtain ⟨hm5, he5⟩ := hfin.out
    generalize w4.setCell _ _ = w5 at *
    clear hc4 hlt4 HO4 HG4 HR4 hfin hc2 hc1 hf1 HS2
    have HE5 := Lib.hid ((HE1.out.trans (.of rb1 ((Below.refl w1.heap.size w1).drew.trans HE2.out))).trans he5)
    obtain ⟨O2, hO2⟩ : ∃ O2, O2 = O1 ++ Lib.leBytes 4 s.size := ⟨_, rfl⟩
    have hl2 : O2.length = O1.length + 4 := by rw [hO2, List.length_append, Lib.leBytes_length]
    rw [← hO2] at hm5
    have HO2 := Lib.hid hO2
    have HL2 := Lib.hid hl2
    have hb2 : (O2.length : Int) ≤ 1073000012 := by omega
    have HM5 := Lib.hid hm5
    have hc5 := hm5.c0
    have hf5 := hm5.fz 0
    clear hO2 hl2 hm5 he5
    go_wp2_with (first
      | (at_builtin; refine wpList_append_text rfl _ _ 30 9 rfl Tryz.underlying30 Tryz.underlying9 infoByte' HM5.out s rfl rfl (by omega) ?_; intro g6 cap6 w6 HO6 HG6 HR6 hlt6)
      | (at_builtin; refine wpList_append_lies _ rfl _ _ 30 rfl K 5 i0 (.int .u8 0) 1 1 Tryz.underlying30 hi hiz his hib rfl (by decide) (.slice (some ⟨g6, 0, none⟩) (O2.length + s.size) cap6) (O2.length + s.size) _ rfl (HO6.out.alloc _) ⟨w6.heap.size, 0, none⟩ 1 1 [.int .u8 0] rfl rfl (one_src w6 0 _ _ rfl) (bytesV_one [0]) (by decide) (by unfold maxLen; omega) (by omega) (by have := HM5.out.row; have := HG6.out.size; simp; omega) _ rfl ?_; intro g7 cap7 w7 HO7 HG7 HR7 hlt7; have HGG := Lib.hid (grown_two HG6.out HR6.out _ HG7); have hc7 := HM5.out.grown_cell HGG.out; have HR := Lib.hid (two_row HG6.out HR6.out HR7); have hfin := HM5.out.appended (X := s.data.toList ++ [0]) (n := s.size + 1) (by rw [List.length_append, Array.length_toList]; rfl) HGG.out HR.out (by rw [bytesV_append, ← List.append_assoc]; exact HO7); have HFIN := Lib.hid hfin; clear hfin))
    go_ret
    have hsl : s.data.toList.length = s.size := by rw [Array.length_toList]; rfl
    refine ⟨List.replicate z 0 ++ Lib.leBytes 4 s.size ++ s.data.toList ++ [0], g7, cap7, O1.length, rfl, HFIN.out.1.cast ?_, HE5.out.trans HFIN.out.2, ?_, ?_, ?_, ?_⟩
    · rw [HO2.out, HO1.out]
      simp only [List.append_assoc]
    · simp only [List.length_append, List.length_replicate, Lib.leBytes_length, hsl, List.length_cons, List.length_nil]
      omega
    · have := HL1.out; omega
    · have := HL1.out
      simp only [List.length_append, List.length_replicate, Lib.leBytes_length, hsl, List.length_cons, List.length_nil]
      omega
    · intro B hB
      rw [HL1.out]
      exact text_at hs hB

end Go.Proofs.YtcbcdgifakcooaaGreatDoor
