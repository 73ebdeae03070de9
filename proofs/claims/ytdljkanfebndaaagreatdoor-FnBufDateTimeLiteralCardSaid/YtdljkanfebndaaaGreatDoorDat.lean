/-
  Moments: read from a flatbuffer; their slots. No conditions.
-/
import Derived.Test.YtdljkanfebndaaaGreatDoorLitBuf
import Derived.Test.YtdljkanfebndaaaGreatDoorSlK
import Derived.Test.YtdljkanfebndaaaGreatDoorRep
namespace Go.Proofs.YtdljkanfebndaaaGreatDoor
open Go.RowKit
set_option linter.unusedVariables false
set_option linter.unusedSimpArgs false

theorem unix_any (s n : Int) (hs : -9223372036854775808 ≤ s ∧ s ≤ 9223372036854775807) (hn : 0 ≤ n ∧ n < 1000000000) (w : World) : Calls Tryz.prog 97 #[.int .i64 s, .int .i64 n] w fun e w' => e = .returned (.agg #[.int .i64 s, .int .i64 n, .int .i64 0]) ∧ Below w.heap.size w w' := by
  have q1 : Int.tdiv n 1000000000 = 0 := by rw [Int.tdiv_eq_ediv_of_nonneg hn.1]; omega
  have q2 : n / 1000000000 = 0 := by omega
  have q3 : Int.tmod n 1000000000 = n := by rw [Int.tmod_eq_emod_of_nonneg hn.1]; omega
  have q4 : n % 1000000000 = n := by omega
  have q5 : ¬ n < 0 := by omega
  have h0 := hn.1
  have h1 := hn.2
  have hw := IntWalk.i64_in s hs
  go_enter Tryz.func97, Tryz.ntmps97
  go_wp2_with fail
  exact bodyPost_ret (v := .agg #[.int .i64 s, .int .i64 n, .int .i64 0]) (by simp [results, Tryz.f97, go_sem]) rfl ⟨rfl, (Below.refl _ _).alloc (Nat.le_refl _) _⟩

theorem timeIn_any (s n z d : Int) (w : World) : Calls Tryz.prog 100 #[.agg #[.int .i64 s, .int .i64 n, .int .i64 z], .int .i64 d] w fun e w' => e = .returned (.agg #[.int .i64 s, .int .i64 n, .int .i64 d]) ∧ Below w.heap.size w w' := by
  go_enter Tryz.func100, Tryz.ntmps100
  go_wp2_with fail
  refine bodyPost_ret (v := .agg #[.int .i64 s, .int .i64 n, .int .i64 d]) (by simp [results, Tryz.f100, go_sem]) rfl ⟨rfl, ?_⟩
  exact ((Below.refl _ _).alloc (Nat.le_refl _) _).alloc (by simp) _

theorem floorDiv_any (a : Int) (ha : -9223372036854775808 ≤ a ∧ a ≤ 9223372036854775807) (w : World) : Calls Tryz.prog 183 #[.int .i64 a, .int .i64 1000000000] w fun e w' => e = .returned (.int .i64 (a / 1000000000)) ∧ w' = w := by
  by_cases h0 : 0 ≤ a
  · have q1 : Int.tdiv a 1000000000 = a / 1000000000 := Int.tdiv_eq_ediv_of_nonneg h0
    have q2 : Int.tmod a 1000000000 = a % 1000000000 := Int.tmod_eq_emod_of_nonneg h0
    have q3 : ¬ a % 1000000000 < 0 := by omega
    have q4 : (0 : Int) ≤ a % 1000000000 := by omega
    go_enter Tryz.func183, Tryz.ntmps183
    go_wp2_with fail
    go_ret
    exact ⟨rfl, rfl⟩
  · obtain ⟨c, rfl⟩ : ∃ c, a = -c := ⟨-a, by omega⟩
    have hc : 0 ≤ c := by omega
    obtain ⟨q, hq⟩ : ∃ q, Int.tdiv (-c) 1000000000 = q := ⟨_, rfl⟩
    obtain ⟨r, hr⟩ : ∃ r, Int.tmod (-c) 1000000000 = r := ⟨_, rfl⟩
    have hqv : q = -(c / 1000000000) := by rw [← hq, Int.neg_tdiv, Int.tdiv_eq_ediv_of_nonneg hc]
    have hrv : r = -(c % 1000000000) := by rw [← hr, Int.neg_tmod, Int.tmod_eq_emod_of_nonneg hc]
    by_cases hm : c % 1000000000 = 0
    · have q3 : ¬ r < 0 := by omega
      have hfin : q = (-c) / 1000000000 := by omega
      have hqa : -9223372036854775808 ≤ q := by omega
      have hqb : q ≤ 9223372036854775807 := by omega
      have HF := Lib.hid hfin
      clear hfin hqv hrv hm
      go_enter Tryz.func183, Tryz.ntmps183
      go_wp2_with fail
      go_ret
      exact ⟨by rw [← HF.out]; rfl, rfl⟩
    · have q3 : r < 0 := by omega
      have hfin : q - 1 = (-c) / 1000000000 := by omega
      have hq5 : -9223372036854775807 ≤ q ∧ q ≤ 9223372036854775807 := by omega
      have hw := IntWalk.i64_in (q - 1) (by omega)
      have HF := Lib.hid hfin
      have hqa := hq5.1
      have hqb := hq5.2
      clear hfin hqv hrv hm hq5
      go_enter Tryz.func183, Tryz.ntmps183
      go_wp2_with fail
      go_ret
      exact ⟨by rw [← HF.out]; rfl, rfl⟩

set_option maxRecDepth 100000 in
theorem dateBuf_any (tb rb cap p : Nat) (B : By) (ps : List Nat) (hb : BaseOf B p ps) (w : World) (h : TabIn w tb 0 rb cap B p) (ht : TabAt B p ps) (y : Nat) (hy : ps.getD 1 0 = y) (hy0 : y ≠ 0) (yl : y < 65536) (yq : y + p + 8 ≤ B.length) (z : Nat) (hy2 : ps.getD 2 0 = z) (hy20 : z ≠ 0) (y2l : z < 65536) (y2q : z + p + 4 ≤ B.length) (hps3 : ps.getD 3 0 = 0) (s n : Int) (hs : IntKind.i64.wrap ((leAt B (y + p) 8 : Nat) : Int) = s) (hsr : -9223372036854775808 ≤ s ∧ s ≤ 9223372036854775807) (hn : ((leAt B (z + p) 4 : Nat) : Int) = n) (hnr : 0 ≤ n ∧ n < 1000000000) :
    Calls Tryz.prog 43 #[.agg #[.pointer none, .slice none 0 0, .slice none 0 0, .int .i64 0, .int .i64 0, .int .i64 0], .pointer (some ⟨tb, 0, none⟩)] w fun e w' => ∃ k, e = .returned (.pointer (some ⟨k, 0, none⟩)) ∧ w.heap.size ≤ k ∧ w'.heap[k]? = some (.cells #[.pointer none, .slice none 0 0, .slice none 0 0, .int .i64 s, .int .i64 n, .int .i64 0] 93 (0, 0)) ∧ Below w.heap.size w w' := by
  go_enter Tryz.func43, Tryz.ntmps43
  go_upto_region 1 with fail
  have htb : tb < w.heap.size := World.block_lt_of_cell? w _ h.hs
  have hrb : rb < w.heap.size := h.hi.lt (by have := h.hq; omega)
  have HBA := Lib.hid (Below.alloc (Below.refl w.heap.size w) (Nat.le_refl _) (.cells #[.pointer none, .slice none 0 0, .slice none 0 0, .int .i64 0, .int .i64 0, .int .i64 0] 93))
  have hsz : w.heap.size < (w.alloc (.cells #[.pointer none, .slice none 0 0, .slice none 0 0, .int .i64 0, .int .i64 0, .int .i64 0] 93)).heap.size := by simp
  have hcell : (w.alloc (.cells #[.pointer none, .slice none 0 0, .slice none 0 0, .int .i64 0, .int .i64 0, .int .i64 0] 93)).heap[w.heap.size]? = some (.cells #[.pointer none, .slice none 0 0, .slice none 0 0, .int .i64 0, .int .i64 0, .int .i64 0] 93 (0, 0)) := by
    show (w.heap.push _)[w.heap.size]? = _
    simp
  obtain ⟨k, hk⟩ : ∃ k, k = w.heap.size := ⟨_, rfl⟩
  rw [← hk] at hsz hcell ⊢
  have HK := Lib.hid hk
  clear hk
  generalize w.alloc (.cells #[.pointer none, .slice none 0 0, .slice none 0 0, .int .i64 0, .int .i64 0, .int .i64 0] 93) = U at *
  have hn : U.cell? ⟨k, 0, none⟩ = some (.pointer none) := cell_of_heap hcell 0
  have hf : U.frozen? ⟨k, 0, none⟩ = false := frozen_of_heap hcell 0
  have HC := Lib.hid hcell
  have HT := Lib.hid (h.below HBA.out htb hrb)
  have htU : tb < U.heap.size := Nat.lt_of_lt_of_le htb HBA.out.size
  have hrU : rb < U.heap.size := Nat.lt_of_lt_of_le hrb HBA.out.size
  clear hcell h
  go_wp2_with fail
  cases hb with
  | none hx =>
    refine (DateTimeLiteral_BaseNode_none tb rb cap p B ps hx U HT.out ht).mono ?_
    rintro e w1 ⟨rfl, m, rfl⟩
    go_wp2_with fail
    refine (base_none k 0 _).mono ?_
    rintro e w2 ⟨rfl, rfl⟩
    have HCV : Hid ((U.drewN m).heap[k]? = some (.cells #[.pointer none, .slice none 0 0, .slice none 0 0, .int .i64 0, .int .i64 0, .int .i64 0] 93 (0, 0))) := HC
    have HTV := Lib.hid (HT.out.drew m)
    have HBV := Lib.hid (below_drewN' (Below.refl U.heap.size U) m)
    clear hn hf
    generalize U.drewN m = V at *
    go_wp2_with fail
    refine (DateTimeLiteral_Secs tb rb cap p B ps y hy hy0 _ HTV.out ht yl yq).mono ?_
    rintro e w3 ⟨rfl, m3, rfl⟩
    rw [hs]
    go_wp2_with fail
    refine (DateTimeLiteral_Nsecs tb rb cap p B ps z hy2 hy20 _ (HTV.out.drew m3) ht y2l y2q).mono ?_
    rintro e w4 ⟨rfl, m4, rfl⟩
    rw [hn]
    have hwn : IntKind.i64.wrap n = n := by rw [IntKind.wrap_i64]; omega
    have HB4 := Lib.hid (below_drewN' HBV.out (m3 + m4))
    go_wp2_with fail
    refine (unix_any s n hsr hnr _).mono ?_
    rintro e w5 ⟨rfl, hb5⟩
    have HB5 := Lib.hid (HB4.out.trans (hb5.mono HB4.out.size))
    have HT5 := Lib.hid (HT.out.below HB5.out htU hrU)
    clear hb5
    go_wp2_with fail
    refine (DateTimeLiteral_Offset_none tb rb cap p B ps hps3 w5 HT5.out ht).mono ?_
    rintro e w6 ⟨rfl, m6, rfl⟩
    go_wp2_with fail
    refine (timeIn_any s n 0 0 _).mono ?_
    rintro e w7 ⟨rfl, hb7⟩
    have HB7 := Lib.hid ((below_drewN' HB5.out m6).trans (hb7.mono (below_drewN' HB5.out m6).size))
    have HCW := Lib.hid ((HB7.out.block k hsz).trans HC.out)
    have n3 := cell_of_heap HCW.out 3
    have n4 := cell_of_heap HCW.out 4
    have n5 := cell_of_heap HCW.out 5
    have f3 := frozen_of_heap HCW.out 3
    have f4 := frozen_of_heap HCW.out 4
    have f5 := frozen_of_heap HCW.out 5
    clear hb7
    go_wp2_with fail
    go_ret
    refine ⟨k, rfl, Nat.le_of_eq HK.out.symm, ?_, ?_⟩
    · exact set_heap (set_heap (set_heap HCW.out 3 _) 4 _) 5 _
    · exact (((HBA.out.trans (HB7.out.mono HBA.out.size)).setCell (p := ⟨k, 3, none⟩) (Nat.le_of_eq HK.out.symm) _).setCell (p := ⟨k, 4, none⟩) (Nat.le_of_eq HK.out.symm) _).setCell (p := ⟨k, 5, none⟩) (Nat.le_of_eq HK.out.symm) _
  | some x d d' hx h0 hl hq hd hz hb =>
    refine (DateTimeLiteral_BaseNode tb rb cap p B ps x hx h0 U HT.out ht hl hq d hd hz).mono ?_
    rintro e w1 ⟨k1, rfl, hk1, hT1, hb1⟩
    have HT1 := Lib.hid hT1
    have HB1 := Lib.hid hb1
    have hn1 : w1.cell? ⟨k, 0, none⟩ = some (.pointer none) := (hb1.cell (p := ⟨k, 0, none⟩) hsz).trans hn
    have hf1 : w1.frozen? ⟨k, 0, none⟩ = false := (hb1.frozen (p := ⟨k, 0, none⟩) hsz).trans hf
    clear hT1 hb1 hn hf
    go_wp2_with fail
    refine (base_some k 0 k1 rb cap (x + p + d) d' B hb w1 HT1.out hn1 hf1).mono ?_
    rintro e w2 ⟨rfl, hb2⟩
    have HBV := Lib.hid (HB1.out.trans (hb2.mono HB1.out.size))
    clear hb2 hn1 hf1
    have HCV := Lib.hid ((HBV.out.block k hsz).trans HC.out)
    have HTV := Lib.hid (HT.out.below HBV.out htU hrU)
    go_wp2_with fail
    refine (DateTimeLiteral_Secs tb rb cap p B ps y hy hy0 _ HTV.out ht yl yq).mono ?_
    rintro e w3 ⟨rfl, m3, rfl⟩
    rw [hs]
    go_wp2_with fail
    refine (DateTimeLiteral_Nsecs tb rb cap p B ps z hy2 hy20 _ (HTV.out.drew m3) ht y2l y2q).mono ?_
    rintro e w4 ⟨rfl, m4, rfl⟩
    rw [hn]
    have hwn : IntKind.i64.wrap n = n := by rw [IntKind.wrap_i64]; omega
    have HB4 := Lib.hid (below_drewN' HBV.out (m3 + m4))
    go_wp2_with fail
    refine (unix_any s n hsr hnr _).mono ?_
    rintro e w5 ⟨rfl, hb5⟩
    have HB5 := Lib.hid (HB4.out.trans (hb5.mono HB4.out.size))
    have HT5 := Lib.hid (HT.out.below HB5.out htU hrU)
    clear hb5
    go_wp2_with fail
    refine (DateTimeLiteral_Offset_none tb rb cap p B ps hps3 w5 HT5.out ht).mono ?_
    rintro e w6 ⟨rfl, m6, rfl⟩
    go_wp2_with fail
    refine (timeIn_any s n 0 0 _).mono ?_
    rintro e w7 ⟨rfl, hb7⟩
    have HB7 := Lib.hid ((below_drewN' HB5.out m6).trans (hb7.mono (below_drewN' HB5.out m6).size))
    have HCW := Lib.hid ((HB7.out.block k hsz).trans HC.out)
    have n3 := cell_of_heap HCW.out 3
    have n4 := cell_of_heap HCW.out 4
    have n5 := cell_of_heap HCW.out 5
    have f3 := frozen_of_heap HCW.out 3
    have f4 := frozen_of_heap HCW.out 4
    have f5 := frozen_of_heap HCW.out 5
    clear hb7
    go_wp2_with fail
    go_ret
    refine ⟨k, rfl, Nat.le_of_eq HK.out.symm, ?_, ?_⟩
    · exact set_heap (set_heap (set_heap HCW.out 3 _) 4 _) 5 _
    · exact (((HBA.out.trans (HB7.out.mono HBA.out.size)).setCell (p := ⟨k, 3, none⟩) (Nat.le_of_eq HK.out.symm) _).setCell (p := ⟨k, 4, none⟩) (Nat.le_of_eq HK.out.symm) _).setCell (p := ⟨k, 5, none⟩) (Nat.le_of_eq HK.out.symm) _

set_option maxRecDepth 100000 in
theorem lit_41 (t m : ByteArray) (u : Int) (ao : Option Addr) (len cap : Nat) (a s n P : Int) (U N : Nat) (w : World) (ha : IntKind.i64.wrap u = a) (har : -9223372036854775808 ≤ a ∧ a ≤ 9223372036854775807) (hs : a / 1000000000 = s) (hP : IntKind.i64.wrap (s * 1000000000) = P) (hn : IntKind.i64.wrap (a - P) = n) (hU : IntKind.u64.wrap s = (U : Int)) (hN : IntKind.u64.wrap n = (N : Int)) :
    Calls Tryz.prog 135 #[.agg #[.int .i64 41, .string t, .string m, .int .u64 u, .slice ao len cap]] w fun e w' => ∃ wa, LitPost w [⟨1, 8, U, none, fun _ _ => True, 0⟩, ⟨2, 4, N, none, fun _ _ => True, 0⟩] wa e w' := by
  have ha2 : wrap64 u = a := by rw [← IntWalk.i64_left]; exact ha
  have hP2 : wrap64 (s * 1000000000) = P := by rw [← IntWalk.i64_left]; exact hP
  have hn2 : wrap64 (a - P) = n := by rw [← IntWalk.i64_left]; exact hn
  have HS := Lib.hid hs
  clear hs
  go_enter Tryz.func135, Tryz.ntmps135
  go_wp2_with fail
  refine (floorDiv_any a har _).mono ?_
  rintro e w2 ⟨rfl, rfl⟩
  rw [HS.out]
  go_wp2_with fail
  refine (number_any 1 8 (U : Nat) _).mono ?_
  rintro e w2 ⟨rfl, hb2⟩
  have HB := Lib.hid (((Below.refl w.heap.size w).alloc (Nat.le_refl _) (.cells #[.int .i64 41, .string t, .string m, .int .u64 u, .slice ao len cap] 25)).trans (hb2.mono (by simp)))
  clear hb2
  go_wp2_with fail
  refine (floorDiv_any a har _).mono ?_
  rintro e w3 ⟨rfl, rfl⟩
  rw [HS.out]
  go_wp2_with fail
  refine (number_any 2 4 (N : Nat) _).mono ?_
  rintro e w4 ⟨rfl, hb4⟩
  have HB4 := Lib.hid (HB.out.trans (hb4.mono HB.out.size))
  clear hb4
  go_wp2_with fail
  go_ret
  exact ⟨w4, rfl, rfl, HB4.out⟩

set_option maxRecDepth 100000 in
theorem slC_41 (W0 : World) (bs : Bool) (n : Nd) (hk : n.kind = 41) (a s m P : Int) (U N : Nat) (ha : IntKind.i64.wrap n.num = a) (har : -9223372036854775808 ≤ a ∧ a ≤ 9223372036854775807) (hs : a / 1000000000 = s) (hPP : IntKind.i64.wrap (s * 1000000000) = P) (hnn : IntKind.i64.wrap (a - P) = m) (hU : IntKind.u64.wrap s = (U : Int)) (hN : IntKind.u64.wrap m = (N : Int)) : SlotsC W0 bs n (fun sl => sl = [⟨1, 8, U, none, fun _ _ => True, 0⟩, ⟨2, 4, N, none, fun _ _ => True, 0⟩]) := by
  intro mb rb cap O w hb hm
  have hval : n.val = .agg #[.int .i64 41, .string n.text, .string n.more, .int .u64 n.num, .slice n.ao n.kids.length n.cap] := by rw [← hk]; rfl
  rw [hval]
  have HM := Lib.hid hm
  have HB := Lib.hid hb
  clear hm hb hval
  have hty : isTypeB 41 = false := by decide
  go_enter Tryz.func75, Tryz.ntmps75
  go_wp2_with fail
  refine (isType_any 41 _).mono ?_
  rintro e w2 ⟨rfl, hb1⟩
  have hw : w.heap.size < (w.alloc (.cells #[.int .i64 41, .string n.text, .string n.more, .int .u64 n.num, .slice n.ao n.kids.length n.cap] 25)).heap.size := by simp
  have hcell : ∀ j, (w.alloc (.cells #[.int .i64 41, .string n.text, .string n.more, .int .u64 n.num, .slice n.ao n.kids.length n.cap] 25)).cell? ⟨w.heap.size, j, none⟩ = (#[.int .i64 41, .string n.text, .string n.more, .int .u64 n.num, .slice n.ao n.kids.length n.cap] : Array Value)[j]? := fun j => World.cell?_alloc_at _ _ _ _ rfl
  have n0 := (hb1.cell (p := ⟨w.heap.size, 0, none⟩) hw).trans (hcell 0)
  have n1 := (hb1.cell (p := ⟨w.heap.size, 1, none⟩) hw).trans (hcell 1)
  have n2 := (hb1.cell (p := ⟨w.heap.size, 2, none⟩) hw).trans (hcell 2)
  have n3 := (hb1.cell (p := ⟨w.heap.size, 3, none⟩) hw).trans (hcell 3)
  have n4 := (hb1.cell (p := ⟨w.heap.size, 4, none⟩) hw).trans (hcell 4)
  have hb2 : Below w.heap.size w w2 := ((Below.refl _ _).alloc (Nat.le_refl _) _).trans (hb1.mono (Nat.le_of_lt hw))
  have HB2 := Lib.hid hb2
  clear hb1 hcell hw hb2
  go_wp2_with fail
  refine (lit_41 _ _ _ _ _ _ a s m P U N _ ha har hs hPP hnn hU hN).mono ?_
  rintro e w3 ⟨wa, ⟨rfl, hw3, hb3⟩⟩
  clear n0 n1 n2 n3 n4
  have HW3 := Lib.hid hw3
  clear hw3
  go_wp2_with fail
  go_ret
  have hb2 := HB2.out
  refine litPost_slots HB2.out hb3 HW3.out rfl (by simp) (fun t ht F c h => ?_)
  · simp only [List.mem_cons, List.not_mem_nil, or_false] at ht
    rcases ht with rfl | rfl <;> cases h

end Go.Proofs.YtdljkanfebndaaaGreatDoor
