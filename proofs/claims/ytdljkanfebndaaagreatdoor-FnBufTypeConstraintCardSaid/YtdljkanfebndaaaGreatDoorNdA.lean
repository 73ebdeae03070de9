/-
  node kind by kind, part A: it hands back the tree that lies there, given its own contract a level down. No conditions.
-/
import Derived.Test.YtdljkanfebndaaaGreatDoorTests
import Derived.Deep.RegionHeld3
import Derived.Deep.RegionWith
namespace Go.Proofs.YtdljkanfebndaaaGreatDoor
open Go.RowKit
set_option linter.unusedVariables false
set_option linter.unusedSimpArgs false

set_option maxRecDepth 100000 in
set_option maxHeartbeats 2000000 in
theorem nd_7 (d : Nat) (hN : NodeC d) (e : Nat) (A : Nat → Prop) (n : Nd) (b : Nat) (w : World) (hG : PreD (e + 1) n) (hW : WfN n) (hR : RepD A (d + 1) w n b) (hk : n.kind = 7) :
    Calls Tryz.prog 27 #[.iface (pTy n.kind) (.pointer (some ⟨b, 0, none⟩))] w (NodePost n w) := by
  obtain ⟨k, t, m, u, ao, cap, kids⟩ := n
  obtain rfl : k = 7 := hk
  have hn0 : (Nd.mk 7 t m u ao cap kids).kind ≠ 0 := by show (7 : Int) ≠ 0; decide
  have hn1 : (Nd.mk 7 t m u ao cap kids).kind ≠ 1 := by show (7 : Int) ≠ 1; decide
  have hPl := (hG.fit hn0).2.2.1
  have HWF := Lib.hid hW.wf
  obtain rfl : u = 0 := hPl.2.1 (show hasNum 7 = false by decide)
  obtain rfl : m = ⟨#[]⟩ := hPl.2.2.1 (show (7 : Int) ≠ 2 by decide) (show (7 : Int) ≠ 3 by decide)
  have hln : kids.length = 0 := by
    have h1 := ((hG.fit hn0).2.2.2.1 hn1)
    have e1 : (fixedL 7).length = 0 := by decide
    have e2 : restL 7 = 28 := by decide
    simp only [Nd.kind, Nd.kids] at h1
    rw [e1, e2] at h1
    omega
  obtain rfl : kids = [] := List.eq_nil_of_length_eq_zero hln
  obtain ⟨hA, cs, hb, hs⟩ := hR
  rw [slots_7 _ rfl] at hs
  match cs, hs with
  | [v0, v1, v2, v3], ⟨e0, e1, e2, e3, _⟩ =>
    have c3 : w.cell? ⟨b, 3, none⟩ = some (.string t) := by rw [Lib.cell_of_heap hb]; exact congrArg some e3
    have hblt : b < w.heap.size := (Array.getElem?_eq_some_iff.1 hb).1
    rw [show pTy (Nd.kind (.mk 7 _ _ _ ao cap [])) = 136 from ptrTy_7]
    clear hn0 hn1 hPl hln hG hW hA hb
    have q2 := no_2 136 (by decide)
    have q3 := no_3 136 (by decide)
    have q4 := no_4 136 (by decide)
    have q5 := no_5 136 (by decide)
    have q6 := no_6 136 (by decide)
    have q7 := yes_7
    go_enter Tryz.func27, Tryz.ntmps27
    go_wp2_with fail
    exact bodyPost_ret (v := .agg #[.int .i64 7, .string t, .string ⟨#[]⟩, .int .u64 0, .slice none 0 0]) (by simp [results, Tryz.f27, go_sem]) rfl (back_leaf HWF.out ((Below.refl _ _).alloc (Nat.le_refl _) _))

set_option maxRecDepth 100000 in
set_option maxHeartbeats 2000000 in
theorem nd_31 (d : Nat) (hN : NodeC d) (e : Nat) (A : Nat → Prop) (n : Nd) (b : Nat) (w : World) (hG : PreD (e + 1) n) (hW : WfN n) (hR : RepD A (d + 1) w n b) (hk : n.kind = 31) :
    Calls Tryz.prog 27 #[.iface (pTy n.kind) (.pointer (some ⟨b, 0, none⟩))] w (NodePost n w) := by
  obtain ⟨k, t, m, u, ao, cap, kids⟩ := n
  obtain rfl : k = 31 := hk
  have hn0 : (Nd.mk 31 t m u ao cap kids).kind ≠ 0 := by show (31 : Int) ≠ 0; decide
  have hn1 : (Nd.mk 31 t m u ao cap kids).kind ≠ 1 := by show (31 : Int) ≠ 1; decide
  have hPl := (hG.fit hn0).2.2.1
  have HWF := Lib.hid hW.wf
  obtain rfl : u = 0 := hPl.2.1 (show hasNum 31 = false by decide)
  obtain rfl : m = ⟨#[]⟩ := hPl.2.2.1 (show (31 : Int) ≠ 2 by decide) (show (31 : Int) ≠ 3 by decide)
  have hln : kids.length = 0 := by
    have h1 := ((hG.fit hn0).2.2.2.1 hn1)
    have e1 : (fixedL 31).length = 0 := by decide
    have e2 : restL 31 = 28 := by decide
    simp only [Nd.kind, Nd.kids] at h1
    rw [e1, e2] at h1
    omega
  obtain rfl : kids = [] := List.eq_nil_of_length_eq_zero hln
  obtain ⟨hA, cs, hb, hs⟩ := hR
  rw [slots_31 _ rfl] at hs
  match cs, hs with
  | [v0, v1, v2, v3], ⟨e0, e1, e2, e3, _⟩ =>
    have c3 : w.cell? ⟨b, 3, none⟩ = some (.string t) := by rw [Lib.cell_of_heap hb]; exact congrArg some e3
    have hblt : b < w.heap.size := (Array.getElem?_eq_some_iff.1 hb).1
    rw [show pTy (Nd.kind (.mk 31 _ _ _ ao cap [])) = 240 from ptrTy_31]
    clear hn0 hn1 hPl hln hG hW hA hb
    have q2 := no_2 240 (by decide)
    have q3 := no_3 240 (by decide)
    have q4 := no_4 240 (by decide)
    have q5 := no_5 240 (by decide)
    have q6 := no_6 240 (by decide)
    have q7 := no_7 240 (by decide)
    have q8 := no_8 240 (by decide)
    have q9 := no_9 240 (by decide)
    have q10 := no_10 240 (by decide)
    have q11 := no_11 240 (by decide)
    have q12 := no_12 240 (by decide)
    have q13 := no_13 240 (by decide)
    have q14 := no_14 240 (by decide)
    have q15 := no_15 240 (by decide)
    have q16 := no_16 240 (by decide)
    have q17 := no_17 240 (by decide)
    have q18 := no_18 240 (by decide)
    have q19 := no_19 240 (by decide)
    have q20 := no_20 240 (by decide)
    have q21 := no_21 240 (by decide)
    have q22 := no_22 240 (by decide)
    have q23 := no_23 240 (by decide)
    have q24 := no_24 240 (by decide)
    have q25 := no_25 240 (by decide)
    have q26 := no_26 240 (by decide)
    have q27 := no_27 240 (by decide)
    have q28 := no_28 240 (by decide)
    have q29 := no_29 240 (by decide)
    have q30 := no_30 240 (by decide)
    have q31 := yes_31
    go_enter Tryz.func27, Tryz.ntmps27
    go_wp2_with fail
    exact bodyPost_ret (v := .agg #[.int .i64 31, .string t, .string ⟨#[]⟩, .int .u64 0, .slice none 0 0]) (by simp [results, Tryz.f27, go_sem]) rfl (back_leaf HWF.out ((Below.refl _ _).alloc (Nat.le_refl _) _))

set_option maxRecDepth 100000 in
set_option maxHeartbeats 2000000 in
theorem nd_33 (d : Nat) (hN : NodeC d) (e : Nat) (A : Nat → Prop) (n : Nd) (b : Nat) (w : World) (hG : PreD (e + 1) n) (hW : WfN n) (hR : RepD A (d + 1) w n b) (hk : n.kind = 33) :
    Calls Tryz.prog 27 #[.iface (pTy n.kind) (.pointer (some ⟨b, 0, none⟩))] w (NodePost n w) := by
  obtain ⟨k, t, m, u, ao, cap, kids⟩ := n
  obtain rfl : k = 33 := hk
  have hn0 : (Nd.mk 33 t m u ao cap kids).kind ≠ 0 := by show (33 : Int) ≠ 0; decide
  have hn1 : (Nd.mk 33 t m u ao cap kids).kind ≠ 1 := by show (33 : Int) ≠ 1; decide
  have hPl := (hG.fit hn0).2.2.1
  have HWF := Lib.hid hW.wf
  obtain rfl : u = 0 := hPl.2.1 (show hasNum 33 = false by decide)
  obtain rfl : m = ⟨#[]⟩ := hPl.2.2.1 (show (33 : Int) ≠ 2 by decide) (show (33 : Int) ≠ 3 by decide)
  have hln : kids.length = 0 := by
    have h1 := ((hG.fit hn0).2.2.2.1 hn1)
    have e1 : (fixedL 33).length = 0 := by decide
    have e2 : restL 33 = 28 := by decide
    simp only [Nd.kind, Nd.kids] at h1
    rw [e1, e2] at h1
    omega
  obtain rfl : kids = [] := List.eq_nil_of_length_eq_zero hln
  obtain ⟨hA, cs, hb, hs⟩ := hR
  rw [slots_33 _ rfl] at hs
  match cs, hs with
  | [v0, v1, v2, v3], ⟨e0, e1, e2, e3, _⟩ =>
    have c3 : w.cell? ⟨b, 3, none⟩ = some (.string t) := by rw [Lib.cell_of_heap hb]; exact congrArg some e3
    have hblt : b < w.heap.size := (Array.getElem?_eq_some_iff.1 hb).1
    rw [show pTy (Nd.kind (.mk 33 _ _ _ ao cap [])) = 77 from ptrTy_33]
    clear hn0 hn1 hPl hln hG hW hA hb
    have q2 := no_2 77 (by decide)
    have q3 := no_3 77 (by decide)
    have q4 := no_4 77 (by decide)
    have q5 := no_5 77 (by decide)
    have q6 := no_6 77 (by decide)
    have q7 := no_7 77 (by decide)
    have q8 := no_8 77 (by decide)
    have q9 := no_9 77 (by decide)
    have q10 := no_10 77 (by decide)
    have q11 := no_11 77 (by decide)
    have q12 := no_12 77 (by decide)
    have q13 := no_13 77 (by decide)
    have q14 := no_14 77 (by decide)
    have q15 := no_15 77 (by decide)
    have q16 := no_16 77 (by decide)
    have q17 := no_17 77 (by decide)
    have q18 := no_18 77 (by decide)
    have q19 := no_19 77 (by decide)
    have q20 := no_20 77 (by decide)
    have q21 := no_21 77 (by decide)
    have q22 := no_22 77 (by decide)
    have q23 := no_23 77 (by decide)
    have q24 := no_24 77 (by decide)
    have q25 := no_25 77 (by decide)
    have q26 := no_26 77 (by decide)
    have q27 := no_27 77 (by decide)
    have q28 := no_28 77 (by decide)
    have q29 := no_29 77 (by decide)
    have q30 := no_30 77 (by decide)
    have q31 := no_31 77 (by decide)
    have q32 := no_32 77 (by decide)
    have q33 := yes_33
    go_enter Tryz.func27, Tryz.ntmps27
    go_wp2_with fail
    exact bodyPost_ret (v := .agg #[.int .i64 33, .string t, .string ⟨#[]⟩, .int .u64 0, .slice none 0 0]) (by simp [results, Tryz.f27, go_sem]) rfl (back_leaf HWF.out ((Below.refl _ _).alloc (Nat.le_refl _) _))

set_option maxRecDepth 100000 in
set_option maxHeartbeats 2000000 in
theorem nd_34 (d : Nat) (hN : NodeC d) (e : Nat) (A : Nat → Prop) (n : Nd) (b : Nat) (w : World) (hG : PreD (e + 1) n) (hW : WfN n) (hR : RepD A (d + 1) w n b) (hk : n.kind = 34) :
    Calls Tryz.prog 27 #[.iface (pTy n.kind) (.pointer (some ⟨b, 0, none⟩))] w (NodePost n w) := by
  obtain ⟨k, t, m, u, ao, cap, kids⟩ := n
  obtain rfl : k = 34 := hk
  have hn0 : (Nd.mk 34 t m u ao cap kids).kind ≠ 0 := by show (34 : Int) ≠ 0; decide
  have hn1 : (Nd.mk 34 t m u ao cap kids).kind ≠ 1 := by show (34 : Int) ≠ 1; decide
  have hPl := (hG.fit hn0).2.2.1
  have HWF := Lib.hid hW.wf
  obtain rfl : u = 0 := hPl.2.1 (show hasNum 34 = false by decide)
  obtain rfl : m = ⟨#[]⟩ := hPl.2.2.1 (show (34 : Int) ≠ 2 by decide) (show (34 : Int) ≠ 3 by decide)
  have hln : kids.length = 0 := by
    have h1 := ((hG.fit hn0).2.2.2.1 hn1)
    have e1 : (fixedL 34).length = 0 := by decide
    have e2 : restL 34 = 28 := by decide
    simp only [Nd.kind, Nd.kids] at h1
    rw [e1, e2] at h1
    omega
  obtain rfl : kids = [] := List.eq_nil_of_length_eq_zero hln
  obtain ⟨hA, cs, hb, hs⟩ := hR
  rw [slots_34 _ rfl] at hs
  match cs, hs with
  | [v0, v1, v2, v3], ⟨e0, e1, e2, e3, _⟩ =>
    have c3 : w.cell? ⟨b, 3, none⟩ = some (.string t) := by rw [Lib.cell_of_heap hb]; exact congrArg some e3
    have hblt : b < w.heap.size := (Array.getElem?_eq_some_iff.1 hb).1
    rw [show pTy (Nd.kind (.mk 34 _ _ _ ao cap [])) = 127 from ptrTy_34]
    clear hn0 hn1 hPl hln hG hW hA hb
    have q2 := no_2 127 (by decide)
    have q3 := no_3 127 (by decide)
    have q4 := no_4 127 (by decide)
    have q5 := no_5 127 (by decide)
    have q6 := no_6 127 (by decide)
    have q7 := no_7 127 (by decide)
    have q8 := no_8 127 (by decide)
    have q9 := no_9 127 (by decide)
    have q10 := no_10 127 (by decide)
    have q11 := no_11 127 (by decide)
    have q12 := no_12 127 (by decide)
    have q13 := no_13 127 (by decide)
    have q14 := no_14 127 (by decide)
    have q15 := no_15 127 (by decide)
    have q16 := no_16 127 (by decide)
    have q17 := no_17 127 (by decide)
    have q18 := no_18 127 (by decide)
    have q19 := no_19 127 (by decide)
    have q20 := no_20 127 (by decide)
    have q21 := no_21 127 (by decide)
    have q22 := no_22 127 (by decide)
    have q23 := no_23 127 (by decide)
    have q24 := no_24 127 (by decide)
    have q25 := no_25 127 (by decide)
    have q26 := no_26 127 (by decide)
    have q27 := no_27 127 (by decide)
    have q28 := no_28 127 (by decide)
    have q29 := no_29 127 (by decide)
    have q30 := no_30 127 (by decide)
    have q31 := no_31 127 (by decide)
    have q32 := no_32 127 (by decide)
    have q33 := no_33 127 (by decide)
    have q34 := yes_34
    go_enter Tryz.func27, Tryz.ntmps27
    go_wp2_with fail
    exact bodyPost_ret (v := .agg #[.int .i64 34, .string t, .string ⟨#[]⟩, .int .u64 0, .slice none 0 0]) (by simp [results, Tryz.f27, go_sem]) rfl (back_leaf HWF.out ((Below.refl _ _).alloc (Nat.le_refl _) _))

set_option maxRecDepth 100000 in
set_option maxHeartbeats 2000000 in
theorem nd_35 (d : Nat) (hN : NodeC d) (e : Nat) (A : Nat → Prop) (n : Nd) (b : Nat) (w : World) (hG : PreD (e + 1) n) (hW : WfN n) (hR : RepD A (d + 1) w n b) (hk : n.kind = 35) :
    Calls Tryz.prog 27 #[.iface (pTy n.kind) (.pointer (some ⟨b, 0, none⟩))] w (NodePost n w) := by
  obtain ⟨k, t, m, u, ao, cap, kids⟩ := n
  obtain rfl : k = 35 := hk
  have hn0 : (Nd.mk 35 t m u ao cap kids).kind ≠ 0 := by show (35 : Int) ≠ 0; decide
  have hn1 : (Nd.mk 35 t m u ao cap kids).kind ≠ 1 := by show (35 : Int) ≠ 1; decide
  have hPl := (hG.fit hn0).2.2.1
  have HWF := Lib.hid hW.wf
  obtain rfl : t = ⟨#[]⟩ := hPl.1 (show hasText 35 = false by decide)
  obtain rfl : m = ⟨#[]⟩ := hPl.2.2.1 (show (35 : Int) ≠ 2 by decide) (show (35 : Int) ≠ 3 by decide)
  have hln : kids.length = 0 := by
    have h1 := ((hG.fit hn0).2.2.2.1 hn1)
    have e1 : (fixedL 35).length = 0 := by decide
    have e2 : restL 35 = 28 := by decide
    simp only [Nd.kind, Nd.kids] at h1
    rw [e1, e2] at h1
    omega
  obtain rfl : kids = [] := List.eq_nil_of_length_eq_zero hln
  obtain ⟨hA, cs, hb, hs⟩ := hR
  rw [slots_35 _ rfl] at hs
  match cs, hs with
  | [v0, v1, v2, v3], ⟨e0, e1, e2, e3, _⟩ =>
    have hu := hPl.2.2.2.2.2.2.2.2.1 rfl
    simp only [Nd.num] at hu
    have c3 : w.cell? ⟨b, 3, none⟩ = some (.bool (u != 0)) := by rw [Lib.cell_of_heap hb]; exact congrArg some e3
    have hu1 : 0 ≤ u := HWF.out.2.2.2.1
    have hu2 : u < 18446744073709551616 := HWF.out.2.2.2.2.1
    have hblt : b < w.heap.size := (Array.getElem?_eq_some_iff.1 hb).1
    rw [show pTy (Nd.kind (.mk 35 _ _ _ ao cap [])) = 64 from ptrTy_35]
    clear hn0 hn1 hPl hln hG hW hA hb
    obtain rfl | rfl : u = 0 ∨ u = 1 := by omega
    · have c3 : w.cell? ⟨b, 3, none⟩ = some (.bool false) := c3
      have q2 := no_2 64 (by decide)
      have q3 := no_3 64 (by decide)
      have q4 := no_4 64 (by decide)
      have q5 := no_5 64 (by decide)
      have q6 := no_6 64 (by decide)
      have q7 := no_7 64 (by decide)
      have q8 := no_8 64 (by decide)
      have q9 := no_9 64 (by decide)
      have q10 := no_10 64 (by decide)
      have q11 := no_11 64 (by decide)
      have q12 := no_12 64 (by decide)
      have q13 := no_13 64 (by decide)
      have q14 := no_14 64 (by decide)
      have q15 := no_15 64 (by decide)
      have q16 := no_16 64 (by decide)
      have q17 := no_17 64 (by decide)
      have q18 := no_18 64 (by decide)
      have q19 := no_19 64 (by decide)
      have q20 := no_20 64 (by decide)
      have q21 := no_21 64 (by decide)
      have q22 := no_22 64 (by decide)
      have q23 := no_23 64 (by decide)
      have q24 := no_24 64 (by decide)
      have q25 := no_25 64 (by decide)
      have q26 := no_26 64 (by decide)
      have q27 := no_27 64 (by decide)
      have q28 := no_28 64 (by decide)
      have q29 := no_29 64 (by decide)
      have q30 := no_30 64 (by decide)
      have q31 := no_31 64 (by decide)
      have q32 := no_32 64 (by decide)
      have q33 := no_33 64 (by decide)
      have q34 := no_34 64 (by decide)
      have q35 := yes_35
      go_enter Tryz.func27, Tryz.ntmps27
      go_wp2_with fail
      exact bodyPost_ret (v := .agg #[.int .i64 35, .string ⟨#[]⟩, .string ⟨#[]⟩, .int .u64 0, .slice none 0 0]) (by simp [results, Tryz.f27, go_sem]) rfl (back_leaf HWF.out ((Below.refl _ _).alloc (Nat.le_refl _) _))
    · have c3 : w.cell? ⟨b, 3, none⟩ = some (.bool true) := c3
      have q2 := no_2 64 (by decide)
      have q3 := no_3 64 (by decide)
      have q4 := no_4 64 (by decide)
      have q5 := no_5 64 (by decide)
      have q6 := no_6 64 (by decide)
      have q7 := no_7 64 (by decide)
      have q8 := no_8 64 (by decide)
      have q9 := no_9 64 (by decide)
      have q10 := no_10 64 (by decide)
      have q11 := no_11 64 (by decide)
      have q12 := no_12 64 (by decide)
      have q13 := no_13 64 (by decide)
      have q14 := no_14 64 (by decide)
      have q15 := no_15 64 (by decide)
      have q16 := no_16 64 (by decide)
      have q17 := no_17 64 (by decide)
      have q18 := no_18 64 (by decide)
      have q19 := no_19 64 (by decide)
      have q20 := no_20 64 (by decide)
      have q21 := no_21 64 (by decide)
      have q22 := no_22 64 (by decide)
      have q23 := no_23 64 (by decide)
      have q24 := no_24 64 (by decide)
      have q25 := no_25 64 (by decide)
      have q26 := no_26 64 (by decide)
      have q27 := no_27 64 (by decide)
      have q28 := no_28 64 (by decide)
      have q29 := no_29 64 (by decide)
      have q30 := no_30 64 (by decide)
      have q31 := no_31 64 (by decide)
      have q32 := no_32 64 (by decide)
      have q33 := no_33 64 (by decide)
      have q34 := no_34 64 (by decide)
      have q35 := yes_35
      go_enter Tryz.func27, Tryz.ntmps27
      go_wp2_with fail
      exact bodyPost_ret (v := .agg #[.int .i64 35, .string ⟨#[]⟩, .string ⟨#[]⟩, .int .u64 1, .slice none 0 0]) (by simp [results, Tryz.f27, go_sem]) rfl (back_leaf HWF.out ((Below.refl _ _).alloc (Nat.le_refl _) _))

set_option maxRecDepth 100000 in
set_option maxHeartbeats 2000000 in
theorem nd_36 (d : Nat) (hN : NodeC d) (e : Nat) (A : Nat → Prop) (n : Nd) (b : Nat) (w : World) (hG : PreD (e + 1) n) (hW : WfN n) (hR : RepD A (d + 1) w n b) (hk : n.kind = 36) :
    Calls Tryz.prog 27 #[.iface (pTy n.kind) (.pointer (some ⟨b, 0, none⟩))] w (NodePost n w) := by
  obtain ⟨k, t, m, u, ao, cap, kids⟩ := n
  obtain rfl : k = 36 := hk
  have hn0 : (Nd.mk 36 t m u ao cap kids).kind ≠ 0 := by show (36 : Int) ≠ 0; decide
  have hn1 : (Nd.mk 36 t m u ao cap kids).kind ≠ 1 := by show (36 : Int) ≠ 1; decide
  have hPl := (hG.fit hn0).2.2.1
  have HWF := Lib.hid hW.wf
  obtain rfl : t = ⟨#[]⟩ := hPl.1 (show hasText 36 = false by decide)
  obtain rfl : m = ⟨#[]⟩ := hPl.2.2.1 (show (36 : Int) ≠ 2 by decide) (show (36 : Int) ≠ 3 by decide)
  have hln : kids.length = 0 := by
    have h1 := ((hG.fit hn0).2.2.2.1 hn1)
    have e1 : (fixedL 36).length = 0 := by decide
    have e2 : restL 36 = 28 := by decide
    simp only [Nd.kind, Nd.kids] at h1
    rw [e1, e2] at h1
    omega
  obtain rfl : kids = [] := List.eq_nil_of_length_eq_zero hln
  obtain ⟨hA, cs, hb, hs⟩ := hR
  rw [slots_36 _ rfl] at hs
  match cs, hs with
  | [v0, v1, v2, v3], ⟨e0, e1, e2, e3, _⟩ =>
    have c3 : w.cell? ⟨b, 3, none⟩ = some (.int .i64 (wrap64 u)) := by rw [Lib.cell_of_heap hb]; exact congrArg some e3
    have hu1 : 0 ≤ u := HWF.out.2.2.2.1
    have hu2 : u < 18446744073709551616 := HWF.out.2.2.2.2.1
    have hblt : b < w.heap.size := (Array.getElem?_eq_some_iff.1 hb).1
    rw [show pTy (Nd.kind (.mk 36 _ _ _ ao cap [])) = 70 from ptrTy_36]
    clear hn0 hn1 hPl hln hG hW hA hb
    have hwr : IntKind.u64.wrap (wrap64 u) = u := by simp only [IntKind.wrap, IntKind.bits, IntKind.signed]; unfold wrap64; simp; omega
    have q2 := no_2 70 (by decide)
    have q3 := no_3 70 (by decide)
    have q4 := no_4 70 (by decide)
    have q5 := no_5 70 (by decide)
    have q6 := no_6 70 (by decide)
    have q7 := no_7 70 (by decide)
    have q8 := no_8 70 (by decide)
    have q9 := no_9 70 (by decide)
    have q10 := no_10 70 (by decide)
    have q11 := no_11 70 (by decide)
    have q12 := no_12 70 (by decide)
    have q13 := no_13 70 (by decide)
    have q14 := no_14 70 (by decide)
    have q15 := no_15 70 (by decide)
    have q16 := no_16 70 (by decide)
    have q17 := no_17 70 (by decide)
    have q18 := no_18 70 (by decide)
    have q19 := no_19 70 (by decide)
    have q20 := no_20 70 (by decide)
    have q21 := no_21 70 (by decide)
    have q22 := no_22 70 (by decide)
    have q23 := no_23 70 (by decide)
    have q24 := no_24 70 (by decide)
    have q25 := no_25 70 (by decide)
    have q26 := no_26 70 (by decide)
    have q27 := no_27 70 (by decide)
    have q28 := no_28 70 (by decide)
    have q29 := no_29 70 (by decide)
    have q30 := no_30 70 (by decide)
    have q31 := no_31 70 (by decide)
    have q32 := no_32 70 (by decide)
    have q33 := no_33 70 (by decide)
    have q34 := no_34 70 (by decide)
    have q35 := no_35 70 (by decide)
    have q36 := yes_36
    go_enter Tryz.func27, Tryz.ntmps27
    go_wp2_with fail
    exact bodyPost_ret (v := .agg #[.int .i64 36, .string ⟨#[]⟩, .string ⟨#[]⟩, .int .u64 u, .slice none 0 0]) (by simp [results, Tryz.f27, go_sem]) rfl (back_leaf HWF.out ((Below.refl _ _).alloc (Nat.le_refl _) _))

set_option maxRecDepth 100000 in
set_option maxHeartbeats 2000000 in
theorem nd_37 (d : Nat) (hN : NodeC d) (e : Nat) (A : Nat → Prop) (n : Nd) (b : Nat) (w : World) (hG : PreD (e + 1) n) (hW : WfN n) (hR : RepD A (d + 1) w n b) (hk : n.kind = 37) :
    Calls Tryz.prog 27 #[.iface (pTy n.kind) (.pointer (some ⟨b, 0, none⟩))] w (NodePost n w) := by
  obtain ⟨k, t, m, u, ao, cap, kids⟩ := n
  obtain rfl : k = 37 := hk
  have hn0 : (Nd.mk 37 t m u ao cap kids).kind ≠ 0 := by show (37 : Int) ≠ 0; decide
  have hn1 : (Nd.mk 37 t m u ao cap kids).kind ≠ 1 := by show (37 : Int) ≠ 1; decide
  have hPl := (hG.fit hn0).2.2.1
  have HWF := Lib.hid hW.wf
  obtain rfl : t = ⟨#[]⟩ := hPl.1 (show hasText 37 = false by decide)
  obtain rfl : m = ⟨#[]⟩ := hPl.2.2.1 (show (37 : Int) ≠ 2 by decide) (show (37 : Int) ≠ 3 by decide)
  have hln : kids.length = 0 := by
    have h1 := ((hG.fit hn0).2.2.2.1 hn1)
    have e1 : (fixedL 37).length = 0 := by decide
    have e2 : restL 37 = 28 := by decide
    simp only [Nd.kind, Nd.kids] at h1
    rw [e1, e2] at h1
    omega
  obtain rfl : kids = [] := List.eq_nil_of_length_eq_zero hln
  obtain ⟨hA, cs, hb, hs⟩ := hR
  rw [slots_37 _ rfl] at hs
  match cs, hs with
  | [v0, v1, v2, v3], ⟨e0, e1, e2, e3, _⟩ =>
    have c3 : w.cell? ⟨b, 3, none⟩ = some (.int .u64 u) := by rw [Lib.cell_of_heap hb]; exact congrArg some e3
    have hu1 : 0 ≤ u := HWF.out.2.2.2.1
    have hu2 : u < 18446744073709551616 := HWF.out.2.2.2.2.1
    have hblt : b < w.heap.size := (Array.getElem?_eq_some_iff.1 hb).1
    rw [show pTy (Nd.kind (.mk 37 _ _ _ ao cap [])) = 244 from ptrTy_37]
    clear hn0 hn1 hPl hln hG hW hA hb
    have q2 := no_2 244 (by decide)
    have q3 := no_3 244 (by decide)
    have q4 := no_4 244 (by decide)
    have q5 := no_5 244 (by decide)
    have q6 := no_6 244 (by decide)
    have q7 := no_7 244 (by decide)
    have q8 := no_8 244 (by decide)
    have q9 := no_9 244 (by decide)
    have q10 := no_10 244 (by decide)
    have q11 := no_11 244 (by decide)
    have q12 := no_12 244 (by decide)
    have q13 := no_13 244 (by decide)
    have q14 := no_14 244 (by decide)
    have q15 := no_15 244 (by decide)
    have q16 := no_16 244 (by decide)
    have q17 := no_17 244 (by decide)
    have q18 := no_18 244 (by decide)
    have q19 := no_19 244 (by decide)
    have q20 := no_20 244 (by decide)
    have q21 := no_21 244 (by decide)
    have q22 := no_22 244 (by decide)
    have q23 := no_23 244 (by decide)
    have q24 := no_24 244 (by decide)
    have q25 := no_25 244 (by decide)
    have q26 := no_26 244 (by decide)
    have q27 := no_27 244 (by decide)
    have q28 := no_28 244 (by decide)
    have q29 := no_29 244 (by decide)
    have q30 := no_30 244 (by decide)
    have q31 := no_31 244 (by decide)
    have q32 := no_32 244 (by decide)
    have q33 := no_33 244 (by decide)
    have q34 := no_34 244 (by decide)
    have q35 := no_35 244 (by decide)
    have q36 := no_36 244 (by decide)
    have q37 := yes_37
    go_enter Tryz.func27, Tryz.ntmps27
    go_wp2_with fail
    exact bodyPost_ret (v := .agg #[.int .i64 37, .string ⟨#[]⟩, .string ⟨#[]⟩, .int .u64 u, .slice none 0 0]) (by simp [results, Tryz.f27, go_sem]) rfl (back_leaf HWF.out ((Below.refl _ _).alloc (Nat.le_refl _) _))

set_option maxRecDepth 100000 in
set_option maxHeartbeats 2000000 in
theorem nd_43 (d : Nat) (hN : NodeC d) (e : Nat) (A : Nat → Prop) (n : Nd) (b : Nat) (w : World) (hG : PreD (e + 1) n) (hW : WfN n) (hR : RepD A (d + 1) w n b) (hk : n.kind = 43) :
    Calls Tryz.prog 27 #[.iface (pTy n.kind) (.pointer (some ⟨b, 0, none⟩))] w (NodePost n w) := by
  obtain ⟨k, t, m, u, ao, cap, kids⟩ := n
  obtain rfl : k = 43 := hk
  have hn0 : (Nd.mk 43 t m u ao cap kids).kind ≠ 0 := by show (43 : Int) ≠ 0; decide
  have hn1 : (Nd.mk 43 t m u ao cap kids).kind ≠ 1 := by show (43 : Int) ≠ 1; decide
  have hPl := (hG.fit hn0).2.2.1
  have HWF := Lib.hid hW.wf
  obtain rfl : t = ⟨#[]⟩ := hPl.1 (show hasText 43 = false by decide)
  obtain rfl : u = 0 := hPl.2.1 (show hasNum 43 = false by decide)
  obtain rfl : m = ⟨#[]⟩ := hPl.2.2.1 (show (43 : Int) ≠ 2 by decide) (show (43 : Int) ≠ 3 by decide)
  have hln : kids.length = 0 := by
    have h1 := ((hG.fit hn0).2.2.2.1 hn1)
    have e1 : (fixedL 43).length = 0 := by decide
    have e2 : restL 43 = 28 := by decide
    simp only [Nd.kind, Nd.kids] at h1
    rw [e1, e2] at h1
    omega
  obtain rfl : kids = [] := List.eq_nil_of_length_eq_zero hln
  obtain ⟨hA, cs, hb, hs⟩ := hR
  rw [slots_43 _ rfl] at hs
  match cs, hs with
  | [v0, v1, v2], ⟨e0, e1, e2, _⟩ =>
    have hblt : b < w.heap.size := (Array.getElem?_eq_some_iff.1 hb).1
    rw [show pTy (Nd.kind (.mk 43 _ _ _ ao cap [])) = 38 from ptrTy_43]
    clear hn0 hn1 hPl hln hG hW hA hb
    have q2 := no_2 38 (by decide)
    have q3 := no_3 38 (by decide)
    have q4 := no_4 38 (by decide)
    have q5 := no_5 38 (by decide)
    have q6 := no_6 38 (by decide)
    have q7 := no_7 38 (by decide)
    have q8 := no_8 38 (by decide)
    have q9 := no_9 38 (by decide)
    have q10 := no_10 38 (by decide)
    have q11 := no_11 38 (by decide)
    have q12 := no_12 38 (by decide)
    have q13 := no_13 38 (by decide)
    have q14 := no_14 38 (by decide)
    have q15 := no_15 38 (by decide)
    have q16 := no_16 38 (by decide)
    have q17 := no_17 38 (by decide)
    have q18 := no_18 38 (by decide)
    have q19 := no_19 38 (by decide)
    have q20 := no_20 38 (by decide)
    have q21 := no_21 38 (by decide)
    have q22 := no_22 38 (by decide)
    have q23 := no_23 38 (by decide)
    have q24 := no_24 38 (by decide)
    have q25 := no_25 38 (by decide)
    have q26 := no_26 38 (by decide)
    have q27 := no_27 38 (by decide)
    have q28 := no_28 38 (by decide)
    have q29 := no_29 38 (by decide)
    have q30 := no_30 38 (by decide)
    have q31 := no_31 38 (by decide)
    have q32 := no_32 38 (by decide)
    have q33 := no_33 38 (by decide)
    have q34 := no_34 38 (by decide)
    have q35 := no_35 38 (by decide)
    have q36 := no_36 38 (by decide)
    have q37 := no_37 38 (by decide)
    have q38 := no_38 38 (by decide)
    have q39 := no_39 38 (by decide)
    have q41 := no_41 38 (by decide)
    have q42 := no_42 38 (by decide)
    have q43 := yes_43
    go_enter Tryz.func27, Tryz.ntmps27
    go_wp2_with fail
    exact bodyPost_ret (v := .agg #[.int .i64 43, .string ⟨#[]⟩, .string ⟨#[]⟩, .int .u64 0, .slice none 0 0]) (by simp [results, Tryz.f27, go_sem]) rfl (back_leaf HWF.out ((Below.refl _ _).alloc (Nat.le_refl _) _))

end Go.Proofs.YtdljkanfebndaaaGreatDoor
