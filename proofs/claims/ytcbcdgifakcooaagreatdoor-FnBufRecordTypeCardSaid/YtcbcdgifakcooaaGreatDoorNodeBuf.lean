/-
  What a node's table tells of its base; identifiers, read from a flatbuffer. No conditions.
-/
import Derived.Test.YtcbcdgifakcooaaGreatDoorBase
import Derived.Lib.SlBytesRow
namespace Go.Proofs.YtcbcdgifakcooaaGreatDoor
open Go.RowKit
set_option linter.unusedVariables false
set_option linter.unusedSimpArgs false

/-- A node's table has none of what all nodes have, or one with a location whose places are none. -/
inductive BaseOf (B : By) (p : Nat) (ps : List Nat) : Prop
  | none (h : ps.getD 0 0 = 0)
  | some (x d d' : Nat) (hx : ps.getD 0 0 = x) (h0 : x ≠ 0) (hl : x < 65536) (hq : x + p + 4 ≤ B.length) (hd : leAt B (x + p) 4 = d) (hz : x + p + d < B.length) (hb : BaseAt B (x + p + d) d')


theorem set_heap {w : World} {k : Nat} {c : Array Value} {t : TypeId} {fr : Nat × Nat} (h : w.heap[k]? = some (.cells c t fr)) (j : Nat) (v : Value) : (w.setCell ⟨k, j, none⟩ v).heap[k]? = some (.cells (c.setIfInBounds j v) t fr) := by
  simp only [World.setCell, Array.getElem?_modify]
  rw [h]
  simp

theorem cell_of_heap {w : World} {k : Nat} {c : Array Value} {t : TypeId} {fr : Nat × Nat} (h : w.heap[k]? = some (.cells c t fr)) (j : Nat) : w.cell? ⟨k, j, none⟩ = c[j]? := by
  unfold World.cell?
  rw [h]
  simp
theorem frozen_of_heap {w : World} {k : Nat} {c : Array Value} {t : TypeId} (h : w.heap[k]? = some (.cells c t (0, 0))) (j : Nat) : w.frozen? ⟨k, j, none⟩ = false := by
  unfold World.frozen?
  rw [h]
  simp

set_option maxRecDepth 100000 in
theorem identBuf_any (tb rb cap p : Nat) (B : By) (ps : List Nat) (hb : BaseOf B p ps) (w : World) (h : TabIn w tb 0 rb cap B p) (ht : TabAt B p ps) (y : Nat) (hy : ps.getD 1 0 = y) (hy0 : y ≠ 0) (yl : y < 65536) (yq : y + p + 4 ≤ B.length) (yd : Nat) (hyd : leAt B (y + p) 4 = yd) (s : ByteArray) (hyz : y + p + yd + 4 + s.size < B.length) (hyn : leAt B (y + p + yd) 4 = s.size) (hys : ∀ j (hj : j < s.size), B[y + p + yd + 4 + j]? = some (s[j]'hj)) :
    Calls Tryz.prog 72 #[.agg #[.pointer none, .slice none 0 0, .slice none 0 0, .string ⟨#[]⟩], .pointer (some ⟨tb, 0, none⟩)] w fun e w' => ∃ k, e = .returned (.pointer (some ⟨k, 0, none⟩)) ∧ w.heap.size ≤ k ∧ w'.heap[k]? = some (.cells #[.pointer none, .slice none 0 0, .slice none 0 0, .string s] 99 (0, 0)) ∧ Below w.heap.size w w' := by
  go_enter Tryz.func72, Tryz.ntmps72
  go_upto_region 1 with fail
  have htb : tb < w.heap.size := World.block_lt_of_cell? w _ h.hs
  have hrb : rb < w.heap.size := h.hi.lt (by have := h.hq; omega)
  have HBA := Lib.hid (Below.alloc (Below.refl w.heap.size w) (Nat.le_refl _) (.cells #[.pointer none, .slice none 0 0, .slice none 0 0, .string ⟨#[]⟩] 99))
  have hsz : w.heap.size < (w.alloc (.cells #[.pointer none, .slice none 0 0, .slice none 0 0, .string ⟨#[]⟩] 99)).heap.size := by simp
  have hcell : (w.alloc (.cells #[.pointer none, .slice none 0 0, .slice none 0 0, .string ⟨#[]⟩] 99)).heap[w.heap.size]? = some (.cells #[.pointer none, .slice none 0 0, .slice none 0 0, .string ⟨#[]⟩] 99 (0, 0)) := by
    show (w.heap.push _)[w.heap.size]? = _
    simp
  obtain ⟨k, hk⟩ : ∃ k, k = w.heap.size := ⟨_, rfl⟩
  rw [← hk] at hsz hcell ⊢
  have HK := Lib.hid hk
  clear hk
  generalize w.alloc (.cells #[.pointer none, .slice none 0 0, .slice none 0 0, .string ⟨#[]⟩] 99) = U at *
  have hn : U.cell? ⟨k, 0, none⟩ = some (.pointer none) := cell_of_heap hcell 0
  have hf : U.frozen? ⟨k, 0, none⟩ = false := frozen_of_heap hcell 0
  have HC := Lib.hid hcell
  have HT := Lib.hid (h.below HBA.out htb hrb)
  have htU : tb < U.heap.size := Nat.lt_of_lt_of_le htb HBA.out.size
  have hrU : rb < U.heap.size := Nat.lt_of_lt_of_le hrb HBA.out.size
  clear hcell h
  go_wp2_with fail
  cases hb with
  | none hx =>
    refine (Identifier_BaseNode_none tb rb cap p B ps hx U HT.out ht).mono ?_
    rintro e w1 ⟨rfl, m, rfl⟩
    go_wp2_with fail
    refine (base_none k 0 _).mono ?_
    rintro e w2 ⟨rfl, rfl⟩
    have HCV : Hid ((U.drewN m).heap[k]? = some (.cells #[.pointer none, .slice none 0 0, .slice none 0 0, .string ⟨#[]⟩] 99 (0, 0))) := HC
    have HTV := Lib.hid (HT.out.drew m)
    have HBV := Lib.hid (below_drewN' (Below.refl U.heap.size U) m)
    clear hn hf
    generalize U.drewN m = V at *
    go_wp2_with fail
    refine (Identifier_Name tb rb cap p B ps y hy hy0 _ HTV.out ht yl yq yd s.size hyd hyz hyn).mono ?_
    rintro e w3 ⟨rfl, m3, rfl⟩
    have hcv : ∀ X : World, BufIn X rb B → Sem.run Tryz.prog (convert 30 9 (.slice (some ⟨rb, y + p + yd + 4, none⟩) s.size (cap - (y + p + yd + 4)))) X = .ok (.string s) X := fun X hX => Lib.run_convert_whole X 30 5 9 Tryz.underlying30 Tryz.underlying5 Tryz.underlying9 rb _ s (fun j hj => hX _ _ (hys j hj)) _
    have hcv := fun n => hcv _ (HTV.out.drew n).hi
    have n3 := cell_of_heap HCV.out 3
    have f3 := frozen_of_heap HCV.out 3
    go_wp2_with fail
    go_ret
    refine ⟨k, rfl, Nat.le_of_eq HK.out.symm, ?_, ?_⟩
    · first | exact set_heap HCV.out 3 _ | (rw [IntWalk.i64_left]; exact set_heap HCV.out 3 _)
    · exact (HBA.out.trans ((below_drewN' HBV.out m3).mono HBA.out.size)).setCell (p := ⟨k, 3, none⟩) (Nat.le_of_eq HK.out.symm) _
  | some x d d' hx h0 hl hq hd hz hb =>
    refine (Identifier_BaseNode tb rb cap p B ps x hx h0 U HT.out ht hl hq d hd hz).mono ?_
    rintro e w1 ⟨k1, rfl, hk1, hT1, hb1⟩
    have HT1 := Lib.hid hT1
    have HB1 := Lib.hid hb1
    have hn1 : w1.cell? ⟨k, 0, none⟩ = some (.pointer none) := (hb1.cell (p := ⟨k, 0, none⟩) hsz).trans hn
    have hf1 : w1.frozen? ⟨k, 0, none⟩ = false := (hb1.frozen (p := ⟨k, 0, none⟩) hsz).trans hf
    clear hT1 hb1 hn hf
    go_wp2_with fail
    refine (base_some k 0 k1 rb cap (x + p + d) d' B hb w1 HT1.out hn1 hf1).mono ?_
    rintro e w2 ⟨rfl, hb2⟩
    have HBV := Lib.hid (HB1.out.trans (hb2.mono HB1.out.size))
    clear hb2 hn1 hf1
    have HCV := Lib.hid ((HBV.out.block k hsz).trans HC.out)
    have HTV := Lib.hid (HT.out.below HBV.out htU hrU)
    go_wp2_with fail
    refine (Identifier_Name tb rb cap p B ps y hy hy0 _ HTV.out ht yl yq yd s.size hyd hyz hyn).mono ?_
    rintro e w3 ⟨rfl, m3, rfl⟩
    have hcv : ∀ X : World, BufIn X rb B → Sem.run Tryz.prog (convert 30 9 (.slice (some ⟨rb, y + p + yd + 4, none⟩) s.size (cap - (y + p + yd + 4)))) X = .ok (.string s) X := fun X hX => Lib.run_convert_whole X 30 5 9 Tryz.underlying30 Tryz.underlying5 Tryz.underlying9 rb _ s (fun j hj => hX _ _ (hys j hj)) _
    have hcv := fun n => hcv _ (HTV.out.drew n).hi
    have n3 := cell_of_heap HCV.out 3
    have f3 := frozen_of_heap HCV.out 3
    go_wp2_with fail
    go_ret
    refine ⟨k, rfl, Nat.le_of_eq HK.out.symm, ?_, ?_⟩
    · first | exact set_heap HCV.out 3 _ | (rw [IntWalk.i64_left]; exact set_heap HCV.out 3 _)
    · exact (HBA.out.trans ((below_drewN' HBV.out m3).mono HBA.out.size)).setCell (p := ⟨k, 3, none⟩) (Nat.le_of_eq HK.out.symm) _


/-- An identifier's table: its base, and its text. -/
inductive IdentAt (B : By) (p : Nat) (s : ByteArray) : Prop
  | mk (ps : List Nat) (y yd : Nat) (hb : BaseOf B p ps) (ht : TabAt B p ps) (hy : ps.getD 1 0 = y) (hy0 : y ≠ 0) (yl : y < 65536) (yq : y + p + 4 ≤ B.length) (hyd : leAt B (y + p) 4 = yd) (hyz : y + p + yd + 4 + s.size < B.length) (hyn : leAt B (y + p + yd) 4 = s.size) (hys : ∀ j (hj : j < s.size), B[y + p + yd + 4 + j]? = some (s[j]'hj))

theorem ident_at (tb rb cap p : Nat) (B : By) (s : ByteArray) (hI : IdentAt B p s) (w : World) (h : TabIn w tb 0 rb cap B p) :
    Calls Tryz.prog 72 #[.agg #[.pointer none, .slice none 0 0, .slice none 0 0, .string ⟨#[]⟩], .pointer (some ⟨tb, 0, none⟩)] w fun e w' => ∃ k, e = .returned (.pointer (some ⟨k, 0, none⟩)) ∧ w.heap.size ≤ k ∧ w'.heap[k]? = some (.cells #[.pointer none, .slice none 0 0, .slice none 0 0, .string s] 99 (0, 0)) ∧ Below w.heap.size w w' := by
  obtain ⟨ps, y, yd, hb, ht, hy, hy0, yl, yq, hyd, hyz, hyn, hys⟩ := hI
  exact identBuf_any tb rb cap p B ps hb w h ht y hy hy0 yl yq yd hyd s hyz hyn hys

end Go.Proofs.YtcbcdgifakcooaaGreatDoor
