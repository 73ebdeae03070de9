/-
  A pipe literal, read from a flatbuffer. No conditions.
-/
import Derived.Test.YtdljkanfebndaaaGreatDoorBase
namespace Go.Proofs.YtdljkanfebndaaaGreatDoor
open Go.RowKit
set_option linter.unusedVariables false
set_option linter.unusedSimpArgs false

/-- A node's table has none of what all nodes have, or one with a location whose places are none. -/
inductive BaseOf (B : By) (p : Nat) (ps : List Nat) : Prop
  | none (h : ps.getD 0 0 = 0)
  | some (x d d' : Nat) (hx : ps.getD 0 0 = x) (h0 : x ≠ 0) (hl : x < 65536) (hq : x + p + 4 ≤ B.length) (hd : leAt B (x + p) 4 = d) (hz : x + p + d < B.length) (hb : BaseAt B (x + p + d) d')

set_option maxRecDepth 100000 in
theorem pipeBuf_any (tb rb cap p : Nat) (B : By) (ps : List Nat) (hb : BaseOf B p ps) (w : World) (h : TabIn w tb 0 rb cap B p) (ht : TabAt B p ps) :
    Calls Tryz.prog 28 #[.agg #[.pointer none, .slice none 0 0, .slice none 0 0], .pointer (some ⟨tb, 0, none⟩)] w fun e w' => ∃ k, e = .returned (.pointer (some ⟨k, 0, none⟩)) ∧ w.heap.size ≤ k ∧ w'.heap[k]? = some (.cells #[.pointer none, .slice none 0 0, .slice none 0 0] 45 (0, 0)) ∧ Below w.heap.size w w' := by
  go_enter Tryz.func28, Tryz.ntmps28
  go_upto_region 1 with fail
  have htb : tb < w.heap.size := World.block_lt_of_cell? w _ h.hs
  have hrb : rb < w.heap.size := h.hi.lt (by have := h.hq; omega)
  have HBA := Lib.hid (Below.alloc (Below.refl w.heap.size w) (Nat.le_refl _) (.cells #[.pointer none, .slice none 0 0, .slice none 0 0] 45))
  have hsz : w.heap.size < (w.alloc (.cells #[.pointer none, .slice none 0 0, .slice none 0 0] 45)).heap.size := by simp
  have hcell : (w.alloc (.cells #[.pointer none, .slice none 0 0, .slice none 0 0] 45)).heap[w.heap.size]? = some (.cells #[.pointer none, .slice none 0 0, .slice none 0 0] 45 (0, 0)) := by
    show (w.heap.push _)[w.heap.size]? = _
    simp
  have hn : (w.alloc (.cells #[.pointer none, .slice none 0 0, .slice none 0 0] 45)).cell? ⟨w.heap.size, 0, none⟩ = some (.pointer none) := World.cell?_alloc_at _ _ _ _ rfl
  have hf : (w.alloc (.cells #[.pointer none, .slice none 0 0, .slice none 0 0] 45)).frozen? ⟨w.heap.size, 0, none⟩ = false := World.frozen?_alloc_at _ _ _ _ rfl
  obtain ⟨k, hk⟩ : ∃ k, k = w.heap.size := ⟨_, rfl⟩
  rw [← hk] at hsz hcell hn hf ⊢
  have HK := Lib.hid hk
  clear hk
  generalize w.alloc (.cells #[.pointer none, .slice none 0 0, .slice none 0 0] 45) = U at *
  have HC := Lib.hid hcell
  have HT := Lib.hid (h.below HBA.out htb hrb)
  clear hcell h
  go_wp2_with fail
  cases hb with
  | none hx =>
    refine (PipeLiteral_BaseNode_none tb rb cap p B ps hx U HT.out ht).mono ?_
    rintro e w1 ⟨rfl, m, rfl⟩
    go_wp2_with fail
    refine (base_none k 0 _).mono ?_
    rintro e w2 ⟨rfl, rfl⟩
    go_wp2_with fail
    go_ret
    refine ⟨k, rfl, Nat.le_of_eq HK.out.symm, HC.out, ?_⟩
    rw [HK.out] at *
    exact below_drewN' HBA.out m
  | some x d d' hx h0 hl hq hd hz hb =>
    refine (PipeLiteral_BaseNode tb rb cap p B ps x hx h0 U HT.out ht hl hq d hd hz).mono ?_
    rintro e w1 ⟨k1, rfl, hk1, hT1, hb1⟩
    have HT1 := Lib.hid hT1
    have HB1 := Lib.hid hb1
    have hn1 : w1.cell? ⟨k, 0, none⟩ = some (.pointer none) := (hb1.cell (p := ⟨k, 0, none⟩) hsz).trans hn
    have hf1 : w1.frozen? ⟨k, 0, none⟩ = false := (hb1.frozen (p := ⟨k, 0, none⟩) hsz).trans hf
    clear hT1 hb1 hn hf
    go_wp2_with fail
    refine (base_some k 0 k1 rb cap (x + p + d) d' B hb w1 HT1.out hn1 hf1).mono ?_
    rintro e w2 ⟨rfl, hb2⟩
    have HB2 := Lib.hid (HB1.out.trans (hb2.mono HB1.out.size))
    clear hb2 hn1 hf1
    go_wp2_with fail
    go_ret
    refine ⟨k, rfl, Nat.le_of_eq HK.out.symm, (HB2.out.block k hsz).trans HC.out, HBA.out.trans (HB2.out.mono HBA.out.size)⟩

end Go.Proofs.YtdljkanfebndaaaGreatDoor
