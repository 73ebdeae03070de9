/-
  Regular expressions, read from a flatbuffer. No conditions.
-/
import Derived.Test.YtdljkanfebndaaaGreatDoorLitBuf
namespace Go.Proofs.YtdljkanfebndaaaGreatDoor
open Go.RowKit
set_option linter.unusedVariables false
set_option linter.unusedSimpArgs false

theorem newRegexp_any (s : ByteArray) (w : World) : Calls Tryz.prog 80 #[.string s] w fun e w' => ∃ k, e = .returned (.pointer (some ⟨k, 0, none⟩)) ∧ w.heap.size ≤ k ∧ w'.heap[k]? = some (.cells #[.string s] 307 (0, 0)) ∧ Below w.heap.size w w' := by
  go_enter Tryz.func80, Tryz.ntmps80
  go_wp2_with fail
  go_ret
  exact ⟨_, rfl, Nat.le_refl _, heap_alloc_new w _, (Below.refl _ _).alloc (Nat.le_refl _) _⟩

set_option maxRecDepth 100000 in
theorem regBuf_any (tb rb cap p : Nat) (B : By) (ps : List Nat) (hb : BaseOf B p ps) (w : World) (h : TabIn w tb 0 rb cap B p) (ht : TabAt B p ps) (y : Nat) (hy : ps.getD 1 0 = y) (hy0 : y ≠ 0) (yl : y < 65536) (yq : y + p + 4 ≤ B.length) (yd : Nat) (hyd : leAt B (y + p) 4 = yd) (s : ByteArray) (hyz : y + p + yd + 4 + s.size < B.length) (hyn : leAt B (y + p + yd) 4 = s.size) (hys : ∀ j (hj : j < s.size), B[y + p + yd + 4 + j]? = some (s[j]'hj)) :
    Calls Tryz.prog 33 #[.agg #[.pointer none, .slice none 0 0, .slice none 0 0, .pointer none], .pointer (some ⟨tb, 0, none⟩)] w fun e w' => ∃ k k4, e = .returned (.pointer (some ⟨k, 0, none⟩)) ∧ w.heap.size ≤ k ∧ w.heap.size ≤ k4 ∧ k4 ≠ k ∧ w'.heap[k4]? = some (.cells #[.string s] 307 (0, 0)) ∧ w'.heap[k]? = some (.cells #[.pointer none, .slice none 0 0, .slice none 0 0, .pointer (some ⟨k4, 0, none⟩)] 60 (0, 0)) ∧ Below w.heap.size w w' := by
  go_enter Tryz.func33, Tryz.ntmps33
  go_upto_region 1 with fail
  have htb : tb < w.heap.size := World.block_lt_of_cell? w _ h.hs
  have hrb : rb < w.heap.size := h.hi.lt (by have := h.hq; omega)
  have HBA := Lib.hid (Below.alloc (Below.refl w.heap.size w) (Nat.le_refl _) (.cells #[.pointer none, .slice none 0 0, .slice none 0 0, .pointer none] 60))
  have hsz : w.heap.size < (w.alloc (.cells #[.pointer none, .slice none 0 0, .slice none 0 0, .pointer none] 60)).heap.size := by simp
  have hcell : (w.alloc (.cells #[.pointer none, .slice none 0 0, .slice none 0 0, .pointer none] 60)).heap[w.heap.size]? = some (.cells #[.pointer none, .slice none 0 0, .slice none 0 0, .pointer none] 60 (0, 0)) := by
    show (w.heap.push _)[w.heap.size]? = _
    simp
  obtain ⟨k, hk⟩ : ∃ k, k = w.heap.size := ⟨_, rfl⟩
  rw [← hk] at hsz hcell ⊢
  have HK := Lib.hid hk
  clear hk
  generalize w.alloc (.cells #[.pointer none, .slice none 0 0, .slice none 0 0, .pointer none] 60) = U at *
  have hn : U.cell? ⟨k, 0, none⟩ = some (.pointer none) := cell_of_heap hcell 0
  have hf : U.frozen? ⟨k, 0, none⟩ = false := frozen_of_heap hcell 0
  have HC := Lib.hid hcell
  have HT := Lib.hid (h.below HBA.out htb hrb)
  have htU : tb < U.heap.size := Nat.lt_of_lt_of_le htb HBA.out.size
  have hrU : rb < U.heap.size := Nat.lt_of_lt_of_le hrb HBA.out.size
  clear hcell h
  go_wp2_with fail
  cases hb with
  | none hx =>
    refine (RegexpLiteral_BaseNode_none tb rb cap p B ps hx U HT.out ht).mono ?_
    rintro e w1 ⟨rfl, m, rfl⟩
    go_wp2_with fail
    refine (base_none k 0 _).mono ?_
    rintro e w2 ⟨rfl, rfl⟩
    have HCV : Hid ((U.drewN m).heap[k]? = some (.cells #[.pointer none, .slice none 0 0, .slice none 0 0, .pointer none] 60 (0, 0))) := HC
    have HTV := Lib.hid (HT.out.drew m)
    have HBV := Lib.hid (below_drewN' (Below.refl U.heap.size U) m)
    clear hn hf
    generalize U.drewN m = V at *
    go_wp2_with fail
    refine (RegexpLiteral_Value tb rb cap p B ps y hy hy0 _ HTV.out ht yl yq yd s.size hyd hyz hyn).mono ?_
    rintro e w3 ⟨rfl, m3, rfl⟩
    have hcv : ∀ X : World, BufIn X rb B → Sem.run Tryz.prog (convert 30 9 (.slice (some ⟨rb, y + p + yd + 4, none⟩) s.size (cap - (y + p + yd + 4)))) X = .ok (.string s) X := fun X hX => Lib.run_convert_whole X 30 5 9 Tryz.underlying30 Tryz.underlying5 Tryz.underlying9 rb _ s (fun j hj => hX _ _ (hys j hj)) _
    have hcv := fun n => hcv _ (HTV.out.drew n).hi
    go_wp2_with fail
    refine (newRegexp_any s _).mono ?_
    rintro e w4 ⟨k4, rfl, hk4, hc4, hb4⟩
    have HC4 := Lib.hid hc4
    have HB4 := Lib.hid ((below_drewN' HBV.out m3).trans (hb4.mono (below_drewN' HBV.out m3).size))
    have hkU : U.heap.size ≤ k4 := Nat.le_trans (below_drewN' HBV.out m3).size hk4
    have HCW := Lib.hid ((HB4.out.block k hsz).trans HC.out)
    have n3 := cell_of_heap HCW.out 3
    have f3 := frozen_of_heap HCW.out 3
    clear hc4 hb4 hcv
    go_wp2_with fail
    go_ret
    refine ⟨k, k4, rfl, Nat.le_of_eq HK.out.symm, Nat.le_trans HBA.out.size hkU, by omega, ?_, ?_, ?_⟩
    · exact (Below.heap_setCell _ _ _ _ (show k4 ≠ k by omega)).trans HC4.out
    · exact set_heap HCW.out 3 _
    · exact (HBA.out.trans (HB4.out.mono HBA.out.size)).setCell (p := ⟨k, 3, none⟩) (Nat.le_of_eq HK.out.symm) _
  | some x d d' hx h0 hl hq hd hz hb =>
    refine (RegexpLiteral_BaseNode tb rb cap p B ps x hx h0 U HT.out ht hl hq d hd hz).mono ?_
    rintro e w1 ⟨k1, rfl, hk1, hT1, hb1⟩
    have HT1 := Lib.hid hT1
    have HB1 := Lib.hid hb1
    have hn1 : w1.cell? ⟨k, 0, none⟩ = some (.pointer none) := (hb1.cell (p := ⟨k, 0, none⟩) hsz).trans hn
    have hf1 : w1.frozen? ⟨k, 0, none⟩ = false := (hb1.frozen (p := ⟨k, 0, none⟩) hsz).trans hf
    clear hT1 hb1 hn hf
    go_wp2_with fail
    refine (base_some k 0 k1 rb cap (x + p + d) d' B hb w1 HT1.out hn1 hf1).mono ?_
    rintro e w2 ⟨rfl, hb2⟩
    have HBV := Lib.hid (HB1.out.trans (hb2.mono HB1.out.size))
    clear hb2 hn1 hf1
    have HCV := Lib.hid ((HBV.out.block k hsz).trans HC.out)
    have HTV := Lib.hid (HT.out.below HBV.out htU hrU)
    go_wp2_with fail
    refine (RegexpLiteral_Value tb rb cap p B ps y hy hy0 _ HTV.out ht yl yq yd s.size hyd hyz hyn).mono ?_
    rintro e w3 ⟨rfl, m3, rfl⟩
    have hcv : ∀ X : World, BufIn X rb B → Sem.run Tryz.prog (convert 30 9 (.slice (some ⟨rb, y + p + yd + 4, none⟩) s.size (cap - (y + p + yd + 4)))) X = .ok (.string s) X := fun X hX => Lib.run_convert_whole X 30 5 9 Tryz.underlying30 Tryz.underlying5 Tryz.underlying9 rb _ s (fun j hj => hX _ _ (hys j hj)) _
    have hcv := fun n => hcv _ (HTV.out.drew n).hi
    go_wp2_with fail
    refine (newRegexp_any s _).mono ?_
    rintro e w4 ⟨k4, rfl, hk4, hc4, hb4⟩
    have HC4 := Lib.hid hc4
    have HB4 := Lib.hid ((below_drewN' HBV.out m3).trans (hb4.mono (below_drewN' HBV.out m3).size))
    have hkU : U.heap.size ≤ k4 := Nat.le_trans (below_drewN' HBV.out m3).size hk4
    have HCW := Lib.hid ((HB4.out.block k hsz).trans HC.out)
    have n3 := cell_of_heap HCW.out 3
    have f3 := frozen_of_heap HCW.out 3
    clear hc4 hb4 hcv
    go_wp2_with fail
    go_ret
    refine ⟨k, k4, rfl, Nat.le_of_eq HK.out.symm, Nat.le_trans HBA.out.size hkU, by omega, ?_, ?_, ?_⟩
    · exact (Below.heap_setCell _ _ _ _ (show k4 ≠ k by omega)).trans HC4.out
    · exact set_heap HCW.out 3 _
    · exact (HBA.out.trans (HB4.out.mono HBA.out.size)).setCell (p := ⟨k, 3, none⟩) (Nat.le_of_eq HK.out.symm) _

end Go.Proofs.YtdljkanfebndaaaGreatDoor
