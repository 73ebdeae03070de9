/-
  TypeConstraint.Kinds: the j-th reference of a table's vector is read into a table. No conditions.
-/
import Derived.Test.YtdljkanfebndaaaGreatDoorAcc
namespace Go.Proofs.YtdljkanfebndaaaGreatDoor
open Go.RowKit
set_option linter.unusedVariables false
set_option linter.unusedSimpArgs false

set_option maxRecDepth 100000 in
theorem TypeConstraint_Kinds (tb rb cap p : Nat) (B : By) (ps : List Nat) (x : Nat) (hx : ps.getD 2 0 = x) (h0 : x ≠ 0) (w : World) (h : TabIn w tb 0 rb cap B p) (ht : TabAt B p ps) (hl : x < 65536) (hq : x + p + 4 ≤ B.length) (d : Nat) (hd : leAt B (x + p) 4 = d) (hz : x + p + d + 4 ≤ B.length)
    (j : Nat) (hj : x + p + d + 4 + 4 * j + 4 ≤ B.length) (d2 : Nat) (hd2 : leAt B (x + p + d + 4 + 4 * j) 4 = d2) (hz2 : x + p + d + 4 + 4 * j + d2 < B.length)
    (k : Nat) (u0 u1 : Value) (k0 : w.cell? ⟨k, 0, none⟩ = some u0) (k1 : w.cell? ⟨k, 1, none⟩ = some u1) (f0 : w.frozen? ⟨k, 0, none⟩ = false) (f1 : w.frozen? ⟨k, 1, none⟩ = false) (hrk : rb ≠ k) (htk : tb < k) :
    Calls Tryz.prog 106 #[.pointer (some ⟨tb, 0, none⟩), .pointer (some ⟨k, 0, none⟩), .int .i64 (j : Nat)] w fun e w' => e = .returned (.bool true) ∧ TabIn w' k 0 rb cap B (x + p + d + 4 + 4 * j + d2) ∧ Below k w w' := by
  have hs := h.hs
  have hp : w.cell? ⟨tb, 1, none⟩ = some (.int .u32 (p : Nat)) := h.hp
  have h01 : ((x : Int) == 0) = false := by simpa using h0
  have h02 : ((x : Int) != 0) = true := by simpa using h0
  have hxl : (x : Int) < 65536 := by omega
  have hpl : (p : Int) < 2147483648 := by have := h.hq; have := h.hl; omega
  have hjl : (j : Int) < 2147483648 := by have := h.hl; omega
  have hjw : IntKind.u32.wrap (j : Int) = (j : Int) := by rw [IntKind.wrap_u32]; omega
  have hjw4 : IntKind.u32.wrap ((j : Int) * 4) = (j : Int) * 4 := by rw [IntKind.wrap_u32]; have := h.hl; omega
  have hvl : (x : Int) + (p : Int) + (d : Int) + 4 + (j : Int) * 4 < 4294967296 := by have := h.hl; omega
  have hrb := h.hi.lt (by have := h.hq; omega)
  go_enter Tryz.func106, Tryz.ntmps106
  go_wp2_with fail
  refine (offset_any tb 0 rb cap p 2 8 (by decide) B ps x hx (by decide) w h ht).mono ?_
  rintro e w1 ⟨rfl, m, rfl⟩
  have HT := Lib.hid (h.drew m)
  have hsW : (w.drewN m).cell? ⟨tb, 0, none⟩ = some (.slice (some ⟨rb, 0, none⟩) (B.length : Nat) cap) := hs
  have hpW : (w.drewN m).cell? ⟨tb, 1, none⟩ = some (.int .u32 (p : Nat)) := hp
  have HBK := Lib.hid (below_drewN' (Below.refl k w) m)
  have hk0 : (w.drewN m).cell? ⟨k, 0, none⟩ = some u0 := k0
  have hk1 : (w.drewN m).cell? ⟨k, 1, none⟩ = some u1 := k1
  have hf0 : (w.drewN m).frozen? ⟨k, 0, none⟩ = false := f0
  have hf1 : (w.drewN m).frozen? ⟨k, 1, none⟩ = false := f1
  clear hx h0 hs hp k0 k1 f0 f1 h
  obtain ⟨W, hW⟩ : ∃ W, W = w.drewN m := ⟨_, rfl⟩
  rw [← hW] at hsW hpW HT HBK hk0 hk1 hf0 hf1 ⊢
  clear hW
  go_wp2_with fail
  refine (vector_any tb 0 rb cap p x B W HT.out hq d hd hz).mono ?_
  rintro e w2 ⟨rfl, hww⟩
  obtain rfl : W = w2 := hww.symm
  go_wp2_with fail
  rw [show (x : Int) + (p : Int) + (d : Int) + 4 + (j : Int) * 4 = ((x + p + d + 4 + 4 * j : Nat) : Int) from by omega]
  refine (indirect_any tb 0 rb cap p (x + p + d + 4 + 4 * j) B _ HT.out hj d2 hd2 hz2).mono ?_
  rintro e w3 ⟨rfl, hww⟩
  obtain rfl : W = w3 := hww.symm
  go_wp2_with fail
  have hrl := HT.out.hi
  refine (init_Identifier k rb cap (x + p + d + 4 + 4 * j + d2) B _ _ W hk0 hk1 hf0 hf1 HT.out.hi hrk HT.out.hc HT.out.hl hz2).mono ?_
  rintro e w4 ⟨rfl, hT4, hb4⟩
  have HT4 := Lib.hid hT4
  have HB4 := Lib.hid hb4
  clear hk0 hk1 hf0 hf1 hsW hpW hT4 hb4
  go_wp2_with fail
  go_ret
  exact ⟨rfl, HT4.out, HBK.out.trans HB4.out⟩

end Go.Proofs.YtdljkanfebndaaaGreatDoor
