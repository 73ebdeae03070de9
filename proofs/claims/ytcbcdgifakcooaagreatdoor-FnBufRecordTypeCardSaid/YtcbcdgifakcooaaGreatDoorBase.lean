/-
  What all nodes have, read from a flatbuffer: nothing, or a location whose places are none. No conditions.
-/
import Derived.Test.YtcbcdgifakcooaaGreatDoorPos
namespace Go.Proofs.YtcbcdgifakcooaaGreatDoor
open Go.RowKit
set_option linter.unusedVariables false
set_option linter.unusedSimpArgs false

set_option maxRecDepth 100000 in
theorem posValid_any (w : World) :
    Calls Tryz.prog 156 #[.agg #[.int .i64 0, .int .i64 0]] w fun e w' => e = .returned (.bool false) ∧ Below w.heap.size w w' := by
  go_enter Tryz.func156, Tryz.ntmps156
  go_wp2_with fail
  go_ret
  exact ⟨rfl, Below.alloc (Below.refl _ _) (Nat.le_refl _) _⟩

set_option maxRecDepth 100000 in
theorem locValid_any (w : World) :
    Calls Tryz.prog 92 #[.agg loc0] w fun e w' => e = .returned (.bool false) ∧ Below w.heap.size w w' := by
  unfold loc0
  go_enter Tryz.func92, Tryz.ntmps92
  have hb0 := Lib.hid (Below.alloc (Below.refl w.heap.size w) (Nat.le_refl _) (.cells loc0 321))
  unfold loc0 at hb0
  go_wp2_with fail
  refine (posValid_any _).mono ?_
  rintro e w1 ⟨rfl, hb⟩
  have hb1 := Lib.hid (hb0.out.trans (hb.mono hb0.out.size))
  clear hb0 hb
  go_wp2_with fail
  go_ret
  exact ⟨rfl, hb1.out⟩

theorem setCell_back {w : World} {b o : Nat} {u v : Value} (h : w.cell? ⟨b, o, none⟩ = some v) : (w.setCell ⟨b, o, none⟩ u).setCell ⟨b, o, none⟩ v = w := by
  have e : ((w.setCell ⟨b, o, none⟩ u).setCell ⟨b, o, none⟩ v).heap = w.heap := by
    apply Array.ext_getElem?
    intro i
    simp only [World.setCell, Array.getElem?_modify]
    split
    · rename_i hi
      have hi' : i = b := by first | exact hi.symm | exact hi
      subst hi'
      unfold World.cell? at h
      split at h
      · rename_i c t fr hh
        simp only at hh
        rw [hh]
        simp only [Option.map_some, Option.isSome_none, Bool.false_eq_true, if_false]
        congr 1
        congr 1
        apply Array.ext_getElem?
        intro j
        rw [Array.getElem?_setIfInBounds, Array.getElem?_setIfInBounds]
        simp only [Option.isSome_none, Bool.false_eq_true, if_false] at h
        split
        · rename_i hj
          subst hj
          split
          · exact h.symm
          · rename_i hb
            simp at hb
            rw [Array.getElem?_eq_none (by omega)] at h
            cases h
        · rfl
      · cases h
    · rfl
  exact congrArg (fun h => ({ w with heap := h } : World)) e

/-- A cell is changed, and what stood there is laid back. -/
theorem below_back {K : Nat} {w V V' : World} {b o : Nat} {u v : Value} (h : Below K w V) (ha : w.cell? ⟨b, o, none⟩ = some v) (hk : b < K) (h' : Below K (V.setCell ⟨b, o, none⟩ u) V') : Below K w (V'.setCell ⟨b, o, none⟩ v) := by
  refine ⟨h'.os.trans h.os, h'.tape.trans h.tape, h'.output.trans h.output, ?_, fun k hkk => ?_⟩
  · have h1 := h.size
    have h2 := h'.size
    simp only [World.setCell, Array.size_modify] at h2 ⊢
    omega
  · have e1 := (h'.block k hkk)
    have e2 := (h.block k hkk)
    have e3 : ((w.setCell ⟨b, o, none⟩ u).setCell ⟨b, o, none⟩ v).heap[k]? = w.heap[k]? := by rw [setCell_back ha]
    rw [← e3]
    simp only [World.setCell, Array.getElem?_modify] at e1 ⊢
    rw [e1, e2]

set_option maxRecDepth 100000 in
theorem base_none (db o : Nat) (w : World) :
    Calls Tryz.prog 51 #[.pointer (some ⟨db, o, none⟩), .pointer none] w fun e w' => e = .returned (.tuple #[]) ∧ w' = w := by
  go_enter Tryz.func51, Tryz.ntmps51
  go_wp2_with fail
  refine bodyPost_ret (v := .tuple #[]) ?_ rfl ⟨rfl, rfl⟩
  simp [results, Tryz.f51, go_sem]

/-- What all nodes have: a location whose places are none. -/
structure BaseAt (B : By) (p d : Nat) : Prop where
  t : TabAt B p [4]
  q : 4 + p + 4 ≤ B.length
  e : leAt B (4 + p) 4 = d
  z : 4 + p + d < B.length
  l : LocAt B (4 + p + d)

set_option maxRecDepth 100000 in
theorem base_some (db o tb rb cap p d : Nat) (B : By) (hb : BaseAt B p d) (w : World) (h : TabIn w tb 0 rb cap B p) (hn : w.cell? ⟨db, o, none⟩ = some (.pointer none)) (hf : w.frozen? ⟨db, o, none⟩ = false) :
    Calls Tryz.prog 51 #[.pointer (some ⟨db, o, none⟩), .pointer (some ⟨tb, 0, none⟩)] w fun e w' => e = .returned (.tuple #[]) ∧ Below w.heap.size w w' := by
  have htb : tb < w.heap.size := World.block_lt_of_cell? w _ h.hs
  have hrb : rb < w.heap.size := h.hi.lt (by have := h.hq; omega)
  have hdb : db < w.heap.size := World.block_lt_of_cell? w _ hn
  have H := Lib.hid h
  clear h
  go_enter Tryz.func51, Tryz.ntmps51
  go_wp2_with fail
  refine (BaseNode_Loc tb rb cap p B [4] 4 rfl (by decide) w H.out hb.t (by decide) hb.q d hb.e hb.z).mono ?_
  rintro e w1 ⟨k1, rfl, hk1, hT1, hb1⟩
  have HT1 := Lib.hid hT1
  have HB1 := Lib.hid hb1
  clear hT1 hb1
  go_wp2_with fail
  refine (locBuf_any k1 rb cap (4 + p + d) B hb.l w1 HT1.out).mono ?_
  rintro e w2 ⟨k2, rfl, hk2, hL2, hb2⟩
  have HB2 := Lib.hid (HB1.out.trans (hb2.mono HB1.out.size))
  have hk2w : db ≠ k2 := by have := HB1.out.size; omega
  have hn2 : w2.cell? ⟨db, o, none⟩ = some (.pointer none) := (HB2.out.cell (p := ⟨db, o, none⟩) hdb).trans hn
  have hf2 : w2.frozen? ⟨db, o, none⟩ = false := (HB2.out.frozen (p := ⟨db, o, none⟩) hdb).trans hf
  have hn3 : (w2.setCell ⟨db, o, none⟩ (.pointer (some ⟨k2, 0, none⟩))).cell? ⟨db, o, none⟩ = some (.pointer (some ⟨k2, 0, none⟩)) := World.cell?_setCell_same _ _ _ hn2
  have HC : ∀ j, (w2.setCell ⟨db, o, none⟩ (.pointer (some ⟨k2, 0, none⟩))).cell? ⟨k2, j, none⟩ = w2.cell? ⟨k2, j, none⟩ := fun j => World.cell?_of_block (Below.heap_setCell _ _ _ _ (Ne.symm hk2w))
  have c0 := (HC 0).trans hL2.c0
  have c1 := (HC 1).trans hL2.c1
  have c2 := (HC 2).trans hL2.c2
  have c3 := (HC 3).trans hL2.c3
  have c4 := (HC 4).trans hL2.c4
  have c5 := (HC 5).trans hL2.c5
  have hn0 := hn
  clear HC hL2 hb2 hn
  have HN := Lib.hid hn0
  clear hn0
  go_upto_region 2 with fail
  have n3 : (w2.setCell ⟨db, o, none⟩ (.pointer (some ⟨k2, 0, none⟩))).cell? ⟨db, o, none⟩ = some (.pointer (some ⟨k2, 0, none⟩)) := hn3
  clear hn3 hn2
  obtain ⟨S, hS⟩ : ∃ S, S = w2.setCell ⟨db, o, none⟩ (.pointer (some ⟨k2, 0, none⟩)) := ⟨_, rfl⟩
  rw [← hS] at n3 c0 c1 c2 c3 c4 c5 ⊢
  have HS := Lib.hid hS
  clear hS
  have hzS : w.heap.size ≤ S.heap.size := by
    have := HB2.out.size
    rw [HS.out]
    simpa [World.setCell] using this
  have hfS : S.frozen? ⟨db, o, none⟩ = false := by
    rw [HS.out, World.frozen?_setCell]
    exact hf2
  clear hf2
  go_wp2_with fail
  refine (locValid_any S).mono ?_
  rintro e w3 ⟨rfl, hb3⟩
  have n4 : w3.cell? ⟨db, o, none⟩ = some (.pointer (some ⟨k2, 0, none⟩)) := (hb3.cell (p := ⟨db, o, none⟩) (Nat.lt_of_lt_of_le hdb hzS)).trans n3
  have f4 : w3.frozen? ⟨db, o, none⟩ = false := (hb3.frozen (p := ⟨db, o, none⟩) (Nat.lt_of_lt_of_le hdb hzS)).trans hfS
  have HB4 : Hid (Below w.heap.size w (w3.setCell ⟨db, o, none⟩ (.pointer none))) := Lib.hid (below_back HB2.out HN.out hdb (by rw [← HS.out]; exact hb3.mono hzS))
  clear hb3 n3 c0 c1 c2 c3 c4 c5 hfS
  go_upto_region 4 with fail
  generalize w3.setCell ⟨db, o, none⟩ (.pointer none) = Z at *
  have HT := Lib.hid (H.out.below HB4.out htb hrb)
  go_wp2_with fail
  refine (BaseNode_ErrorsLength_none tb rb cap p B [4] rfl Z HT.out hb.t).mono ?_
  rintro e w5 ⟨rfl, m5, rfl⟩
  go_wp2_with fail
  refine (BaseNode_CommentsLength_none tb rb cap p B [4] rfl _ (HT.out.drew m5) hb.t).mono ?_
  rintro e w6 ⟨rfl, m6, rfl⟩
  go_wp2_with fail
  go_end0
  exact ⟨rfl, below_drewN' HB4.out _⟩

end Go.Proofs.YtcbcdgifakcooaaGreatDoor
