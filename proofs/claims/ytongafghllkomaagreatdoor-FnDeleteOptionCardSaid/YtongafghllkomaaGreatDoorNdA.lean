/-
  node kind by kind, part A: it hands back the tree that lies there, given its own contract a level down. No conditions.
-/
import Derived.Test.YtongafghllkomaaGreatDoorTests
import Derived.Deep.RegionHeld3
import Derived.Deep.RegionWith
namespace Go.Proofs.YtongafghllkomaaGreatDoor
open Go.RowKit
set_option linter.unusedVariables false
set_option linter.unusedSimpArgs false

set_option maxRecDepth 100000 in
set_option maxHeartbeats 2000000 in
theorem nd_7 (d : Nat) (hN : NodeC d) (e : Nat) (A : Nat → Prop) (n : Nd) (b : Nat) (w : World) (hG : PreD (e + 1) n) (hW : WfN n) (hR : RepD A (d + 1) w n b) (hk : n.kind = 7) :
    Calls Tryz.prog 36 #[.iface (pTy n.kind) (.pointer (some ⟨b, 0, none⟩))] w (NodePost n w) := by
  obtain ⟨k, t, m, u, ao, cap, kids⟩ := n
  obtain rfl : k = 7 := hk
  have hn0 : (Nd.mk 7 t m u ao cap kids).kind ≠ 0 := by show (7 : Int) ≠ 0; decide
  have hn1 : (Nd.mk 7 t m u ao cap kids).kind ≠ 1 := by show (7 : Int) ≠ 1; decide
  have hPl := (hG.fit hn0).2.2.1
  have HWF := Lib.hid hW.wf
  obtain rfl : u = 0 := hPl.2.1 (show hasNum 7 = false by decide)
  obtain rfl : m = ⟨#[]⟩ := hPl.2.2.1 (show (7 : Int) ≠ 2 by decide) (show (7 : Int) ≠ 3 by decide)
  have hln : kids.length = 0 := by
    have h1 := ((hG.fit hn0).2.2.2.1 hn1)
    have e1 : (fixedL 7).length = 0 := by decide
    have e2 : restL 7 = 28 := by decide
    simp only [Nd.kind, Nd.kids] at h1
    rw [e1, e2] at h1
    omega
  obtain rfl : kids = [] := List.eq_nil_of_length_eq_zero hln
  obtain ⟨hA, cs, hb, hs⟩ := hR
  rw [slots_7 _ rfl] at hs
  match cs, hs with
  | [v0, v1, v2, v3], ⟨e0, e1, e2, e3, _⟩ =>
    have c3 : w.cell? ⟨b, 3, none⟩ = some (.string t) := by rw [Lib.cell_of_heap hb]; exact congrArg some e3
    have hblt : b < w.heap.size := (Array.getElem?_eq_some_iff.1 hb).1
    rw [show pTy (Nd.kind (.mk 7 _ _ _ ao cap [])) = 123 from ptrTy_7]
    clear hn0 hn1 hPl hln hG hW hA hb
    have q2 := no_2 123 (by decide)
    have q3 := no_3 123 (by decide)
    have q4 := no_4 123 (by decide)
    have q5 := no_5 123 (by decide)
    have q6 := no_6 123 (by decide)
    have q7 := yes_7
    go_enter Tryz.func36, Tryz.ntmps36
    go_wp2_with fail
    exact bodyPost_ret (v := .agg #[.int .i64 7, .string t, .string ⟨#[]⟩, .int .u64 0, .slice none 0 0]) (by simp [results, Tryz.f36, go_sem]) rfl (back_leaf HWF.out ((Below.refl _ _).alloc (Nat.le_refl _) _))

set_option maxRecDepth 100000 in
set_option maxHeartbeats 2000000 in
theorem nd_31 (d : Nat) (hN : NodeC d) (e : Nat) (A : Nat → Prop) (n : Nd) (b : Nat) (w : World) (hG : PreD (e + 1) n) (hW : WfN n) (hR : RepD A (d + 1) w n b) (hk : n.kind = 31) :
    Calls Tryz.prog 36 #[.iface (pTy n.kind) (.pointer (some ⟨b, 0, none⟩))] w (NodePost n w) := by
  obtain ⟨k, t, m, u, ao, cap, kids⟩ := n
  obtain rfl : k = 31 := hk
  have hn0 : (Nd.mk 31 t m u ao cap kids).kind ≠ 0 := by show (31 : Int) ≠ 0; decide
  have hn1 : (Nd.mk 31 t m u ao cap kids).kind ≠ 1 := by show (31 : Int) ≠ 1; decide
  have hPl := (hG.fit hn0).2.2.1
  have HWF := Lib.hid hW.wf
  obtain rfl : u = 0 := hPl.2.1 (show hasNum 31 = false by decide)
  obtain rfl : m = ⟨#[]⟩ := hPl.2.2.1 (show (31 : Int) ≠ 2 by decide) (show (31 : Int) ≠ 3 by decide)
  have hln : kids.length = 0 := by
    have h1 := ((hG.fit hn0).2.2.2.1 hn1)
    have e1 : (fixedL 31).length = 0 := by decide
    have e2 : restL 31 = 28 := by decide
    simp only [Nd.kind, Nd.kids] at h1
    rw [e1, e2] at h1
    omega
  obtain rfl : kids = [] := List.eq_nil_of_length_eq_zero hln
  obtain ⟨hA, cs, hb, hs⟩ := hR
  rw [slots_31 _ rfl] at hs
  match cs, hs with
  | [v0, v1, v2, v3], ⟨e0, e1, e2, e3, _⟩ =>
    have c3 : w.cell? ⟨b, 3, none⟩ = some (.string t) := by rw [Lib.cell_of_heap hb]; exact congrArg some e3
    have hblt : b < w.heap.size := (Array.getElem?_eq_some_iff.1 hb).1
    rw [show pTy (Nd.kind (.mk 31 _ _ _ ao cap [])) = 228 from ptrTy_31]
    clear hn0 hn1 hPl hln hG hW hA hb
    have q2 := no_2 228 (by decide)
    have q3 := no_3 228 (by decide)
    have q4 := no_4 228 (by decide)
    have q5 := no_5 228 (by decide)
    have q6 := no_6 228 (by decide)
    have q7 := no_7 228 (by decide)
    have q8 := no_8 228 (by decide)
    have q9 := no_9 228 (by decide)
    have q10 := no_10 228 (by decide)
    have q11 := no_11 228 (by decide)
    have q12 := no_12 228 (by decide)
    have q13 := no_13 228 (by decide)
    have q14 := no_14 228 (by decide)
    have q15 := no_15 228 (by decide)
    have q16 := no_16 228 (by decide)
    have q17 := no_17 228 (by decide)
    have q18 := no_18 228 (by decide)
    have q19 := no_19 228 (by decide)
    have q20 := no_20 228 (by decide)
    have q21 := no_21 228 (by decide)
    have q22 := no_22 228 (by decide)
    have q23 := no_23 228 (by decide)
    have q24 := no_24 228 (by decide)
    have q25 := no_25 228 (by decide)
    have q26 := no_26 228 (by decide)
    have q27 := no_27 228 (by decide)
    have q28 := no_28 228 (by decide)
    have q29 := no_29 228 (by decide)
    have q30 := no_30 228 (by decide)
    have q31 := yes_31
    go_enter Tryz.func36, Tryz.ntmps36
    go_wp2_with fail
    exact bodyPost_ret (v := .agg #[.int .i64 31, .string t, .string ⟨#[]⟩, .int .u64 0, .slice none 0 0]) (by simp [results, Tryz.f36, go_sem]) rfl (back_leaf HWF.out ((Below.refl _ _).alloc (Nat.le_refl _) _))

set_option maxRecDepth 100000 in
set_option maxHeartbeats 2000000 in
theorem nd_33 (d : Nat) (hN : NodeC d) (e : Nat) (A : Nat → Prop) (n : Nd) (b : Nat) (w : World) (hG : PreD (e + 1) n) (hW : WfN n) (hR : RepD A (d + 1) w n b) (hk : n.kind = 33) :
    Calls Tryz.prog 36 #[.iface (pTy n.kind) (.pointer (some ⟨b, 0, none⟩))] w (NodePost n w) := by
  obtain ⟨k, t, m, u, ao, cap, kids⟩ := n
  obtain rfl : k = 33 := hk
  have hn0 : (Nd.mk 33 t m u ao cap kids).kind ≠ 0 := by show (33 : Int) ≠ 0; decide
  have hn1 : (Nd.mk 33 t m u ao cap kids).kind ≠ 1 := by show (33 : Int) ≠ 1; decide
  have hPl := (hG.fit hn0).2.2.1
  have HWF := Lib.hid hW.wf
  obtain rfl : u = 0 := hPl.2.1 (show hasNum 33 = false by decide)
  obtain rfl : m = ⟨#[]⟩ := hPl.2.2.1 (show (33 : Int) ≠ 2 by decide) (show (33 : Int) ≠ 3 by decide)
  have hln : kids.length = 0 := by
    have h1 := ((hG.fit hn0).2.2.2.1 hn1)
    have e1 : (fixedL 33).length = 0 := by decide
    have e2 : restL 33 = 28 := by decide
    simp only [Nd.kind, Nd.kids] at h1
    rw [e1, e2] at h1
    omega
  obtain rfl : kids = [] := List.eq_nil_of_length_eq_zero hln
  obtain ⟨hA, cs, hb, hs⟩ := hR
  rw [slots_33 _ rfl] at hs
  match cs, hs with
  | [v0, v1, v2, v3], ⟨e0, e1, e2, e3, _⟩ =>
    have c3 : w.cell? ⟨b, 3, none⟩ = some (.string t) := by rw [Lib.cell_of_heap hb]; exact congrArg some e3
    have hblt : b < w.heap.size := (Array.getElem?_eq_some_iff.1 hb).1
    rw [show pTy (Nd.kind (.mk 33 _ _ _ ao cap [])) = 113 from ptrTy_33]
    clear hn0 hn1 hPl hln hG hW hA hb
    have q2 := no_2 113 (by decide)
    have q3 := no_3 113 (by decide)
    have q4 := no_4 113 (by decide)
    have q5 := no_5 113 (by decide)
    have q6 := no_6 113 (by decide)
    have q7 := no_7 113 (by decide)
    have q8 := no_8 113 (by decide)
    have q9 := no_9 113 (by decide)
    have q10 := no_10 113 (by decide)
    have q11 := no_11 113 (by decide)
    have q12 := no_12 113 (by decide)
    have q13 := no_13 113 (by decide)
    have q14 := no_14 113 (by decide)
    have q15 := no_15 113 (by decide)
    have q16 := no_16 113 (by decide)
    have q17 := no_17 113 (by decide)
    have q18 := no_18 113 (by decide)
    have q19 := no_19 113 (by decide)
    have q20 := no_20 113 (by decide)
    have q21 := no_21 113 (by decide)
    have q22 := no_22 113 (by decide)
    have q23 := no_23 113 (by decide)
    have q24 := no_24 113 (by decide)
    have q25 := no_25 113 (by decide)
    have q26 := no_26 113 (by decide)
    have q27 := no_27 113 (by decide)
    have q28 := no_28 113 (by decide)
    have q29 := no_29 113 (by decide)
    have q30 := no_30 113 (by decide)
    have q31 := no_31 113 (by decide)
    have q32 := no_32 113 (by decide)
    have q33 := yes_33
    go_enter Tryz.func36, Tryz.ntmps36
    go_wp2_with fail
    exact bodyPost_ret (v := .agg #[.int .i64 33, .string t, .string ⟨#[]⟩, .int .u64 0, .slice none 0 0]) (by simp [results, Tryz.f36, go_sem]) rfl (back_leaf HWF.out ((Below.refl _ _).alloc (Nat.le_refl _) _))

set_option maxRecDepth 100000 in
set_option maxHeartbeats 2000000 in
theorem nd_34 (d : Nat) (hN : NodeC d) (e : Nat) (A : Nat → Prop) (n : Nd) (b : Nat) (w : World) (hG : PreD (e + 1) n) (hW : WfN n) (hR : RepD A (d + 1) w n b) (hk : n.kind = 34) :
    Calls Tryz.prog 36 #[.iface (pTy n.kind) (.pointer (some ⟨b, 0, none⟩))] w (NodePost n w) := by
  obtain ⟨k, t, m, u, ao, cap, kids⟩ := n
  obtain rfl : k = 34 := hk
  have hn0 : (Nd.mk 34 t m u ao cap kids).kind ≠ 0 := by show (34 : Int) ≠ 0; decide
  have hn1 : (Nd.mk 34 t m u ao cap kids).kind ≠ 1 := by show (34 : Int) ≠ 1; decide
  have hPl := (hG.fit hn0).2.2.1
  have HWF := Lib.hid hW.wf
  obtain rfl : u = 0 := hPl.2.1 (show hasNum 34 = false by decide)
  obtain rfl : m = ⟨#[]⟩ := hPl.2.2.1 (show (34 : Int) ≠ 2 by decide) (show (34 : Int) ≠ 3 by decide)
  have hln : kids.length = 0 := by
    have h1 := ((hG.fit hn0).2.2.2.1 hn1)
    have e1 : (fixedL 34).length = 0 := by decide
    have e2 : restL 34 = 28 := by decide
    simp only [Nd.kind, Nd.kids] at h1
    rw [e1, e2] at h1
    omega
  obtain rfl : kids = [] := List.eq_nil_of_length_eq_zero hln
  obtain ⟨hA, cs, hb, hs⟩ := hR
  rw [slots_34 _ rfl] at hs
  match cs, hs with
  | [v0, v1, v2, v3], ⟨e0, e1, e2, e3, _⟩ =>
    have c3 : w.cell? ⟨b, 3, none⟩ = some (.string t) := by rw [Lib.cell_of_heap hb]; exact congrArg some e3
    have hblt : b < w.heap.size := (Array.getElem?_eq_some_iff.1 hb).1
    rw [show pTy (Nd.kind (.mk 34 _ _ _ ao cap [])) = 65 from ptrTy_34]
    clear hn0 hn1 hPl hln hG hW hA hb
    have q2 := no_2 65 (by decide)
    have q3 := no_3 65 (by decide)
    have q4 := no_4 65 (by decide)
    have q5 := no_5 65 (by decide)
    have q6 := no_6 65 (by decide)
    have q7 := no_7 65 (by decide)
    have q8 := no_8 65 (by decide)
    have q9 := no_9 65 (by decide)
    have q10 := no_10 65 (by decide)
    have q11 := no_11 65 (by decide)
    have q12 := no_12 65 (by decide)
    have q13 := no_13 65 (by decide)
    have q14 := no_14 65 (by decide)
    have q15 := no_15 65 (by decide)
    have q16 := no_16 65 (by decide)
    have q17 := no_17 65 (by decide)
    have q18 := no_18 65 (by decide)
    have q19 := no_19 65 (by decide)
    have q20 := no_20 65 (by decide)
    have q21 := no_21 65 (by decide)
    have q22 := no_22 65 (by decide)
    have q23 := no_23 65 (by decide)
    have q24 := no_24 65 (by decide)
    have q25 := no_25 65 (by decide)
    have q26 := no_26 65 (by decide)
    have q27 := no_27 65 (by decide)
    have q28 := no_28 65 (by decide)
    have q29 := no_29 65 (by decide)
    have q30 := no_30 65 (by decide)
    have q31 := no_31 65 (by decide)
    have q32 := no_32 65 (by decide)
    have q33 := no_33 65 (by decide)
    have q34 := yes_34
    go_enter Tryz.func36, Tryz.ntmps36
    go_wp2_with fail
    exact bodyPost_ret (v := .agg #[.int .i64 34, .string t, .string ⟨#[]⟩, .int .u64 0, .slice none 0 0]) (by simp [results, Tryz.f36, go_sem]) rfl (back_leaf HWF.out ((Below.refl _ _).alloc (Nat.le_refl _) _))

set_option maxRecDepth 100000 in
set_option maxHeartbeats 2000000 in
theorem nd_35 (d : Nat) (hN : NodeC d) (e : Nat) (A : Nat → Prop) (n : Nd) (b : Nat) (w : World) (hG : PreD (e + 1) n) (hW : WfN n) (hR : RepD A (d + 1) w n b) (hk : n.kind = 35) :
    Calls Tryz.prog 36 #[.iface (pTy n.kind) (.pointer (some ⟨b, 0, none⟩))] w (NodePost n w) := by
  obtain ⟨k, t, m, u, ao, cap, kids⟩ := n
  obtain rfl : k = 35 := hk
  have hn0 : (Nd.mk 35 t m u ao cap kids).kind ≠ 0 := by show (35 : Int) ≠ 0; decide
  have hn1 : (Nd.mk 35 t m u ao cap kids).kind ≠ 1 := by show (35 : Int) ≠ 1; decide
  have hPl := (hG.fit hn0).2.2.1
  have HWF := Lib.hid hW.wf
  obtain rfl : t = ⟨#[]⟩ := hPl.1 (show hasText 35 = false by decide)
  obtain rfl : m = ⟨#[]⟩ := hPl.2.2.1 (show (35 : Int) ≠ 2 by decide) (show (35 : Int) ≠ 3 by decide)
  have hln : kids.length = 0 := by
    have h1 := ((hG.fit hn0).2.2.2.1 hn1)
    have e1 : (fixedL 35).length = 0 := by decide
    have e2 : restL 35 = 28 := by decide
    simp only [Nd.kind, Nd.kids] at h1
    rw [e1, e2] at h1
    omega
  obtain rfl : kids = [] := List.eq_nil_of_length_eq_zero hln
  obtain ⟨hA, cs, hb, hs⟩ := hR
  rw [slots_35 _ rfl] at hs
  match cs, hs with
  | [v0, v1, v2, v3], ⟨e0, e1, e2, e3, _⟩ =>
    have hu := hPl.2.2.2.2.2.2.2.2.1 rfl
    simp only [Nd.num] at hu
    have c3 : w.cell? ⟨b, 3, none⟩ = some (.bool (u != 0)) := by rw [Lib.cell_of_heap hb]; exact congrArg some e3
    have hu1 : 0 ≤ u := HWF.out.2.2.2.1
    have hu2 : u < 18446744073709551616 := HWF.out.2.2.2.2.1
    have hblt : b < w.heap.size := (Array.getElem?_eq_some_iff.1 hb).1
    rw [show pTy (Nd.kind (.mk 35 _ _ _ ao cap [])) = 70 from ptrTy_35]
    clear hn0 hn1 hPl hln hG hW hA hb
    obtain rfl | rfl : u = 0 ∨ u = 1 := by omega
    · have c3 : w.cell? ⟨b, 3, none⟩ = some (.bool false) := c3
      have q2 := no_2 70 (by decide)
      have q3 := no_3 70 (by decide)
      have q4 := no_4 70 (by decide)
      have q5 := no_5 70 (by decide)
      have q6 := no_6 70 (by decide)
      have q7 := no_7 70 (by decide)
      have q8 := no_8 70 (by decide)
      have q9 := no_9 70 (by decide)
      have q10 := no_10 70 (by decide)
      have q11 := no_11 70 (by decide)
      have q12 := no_12 70 (by decide)
      have q13 := no_13 70 (by decide)
      have q14 := no_14 70 (by decide)
      have q15 := no_15 70 (by decide)
      have q16 := no_16 70 (by decide)
      have q17 := no_17 70 (by decide)
      have q18 := no_18 70 (by decide)
      have q19 := no_19 70 (by decide)
      have q20 := no_20 70 (by decide)
      have q21 := no_21 70 (by decide)
      have q22 := no_22 70 (by decide)
      have q23 := no_23 70 (by decide)
      have q24 := no_24 70 (by decide)
      have q25 := no_25 70 (by decide)
      have q26 := no_26 70 (by decide)
      have q27 := no_27 70 (by decide)
      have q28 := no_28 70 (by decide)
      have q29 := no_29 70 (by decide)
      have q30 := no_30 70 (by decide)
      have q31 := no_31 70 (by decide)
      have q32 := no_32 70 (by decide)
      have q33 := no_33 70 (by decide)
      have q34 := no_34 70 (by decide)
      have q35 := yes_35
      go_enter Tryz.func36, Tryz.ntmps36
      go_wp2_with fail
      exact bodyPost_ret (v := .agg #[.int .i64 35, .string ⟨#[]⟩, .string ⟨#[]⟩, .int .u64 0, .slice none 0 0]) (by simp [results, Tryz.f36, go_sem]) rfl (back_leaf HWF.out ((Below.refl _ _).alloc (Nat.le_refl _) _))
    · have c3 : w.cell? ⟨b, 3, none⟩ = some (.bool true) := c3
      have q2 := no_2 70 (by decide)
      have q3 := no_3 70 (by decide)
      have q4 := no_4 70 (by decide)
      have q5 := no_5 70 (by decide)
      have q6 := no_6 70 (by decide)
      have q7 := no_7 70 (by decide)
      have q8 := no_8 70 (by decide)
      have q9 := no_9 70 (by decide)
      have q10 := no_10 70 (by decide)
      have q11 := no_11 70 (by decide)
      have q12 := no_12 70 (by decide)
      have q13 := no_13 70 (by decide)
      have q14 := no_14 70 (by decide)
      have q15 := no_15 70 (by decide)
      have q16 := no_16 70 (by decide)
      have q17 := no_17 70 (by decide)
      have q18 := no_18 70 (by decide)
      have q19 := no_19 70 (by decide)
      have q20 := no_20 70 (by decide)
      have q21 := no_21 70 (by decide)
      have q22 := no_22 70 (by decide)
      have q23 := no_23 70 (by decide)
      have q24 := no_24 70 (by decide)
      have q25 := no_25 70 (by decide)
      have q26 := no_26 70 (by decide)
      have q27 := no_27 70 (by decide)
      have q28 := no_28 70 (by decide)
      have q29 := no_29 70 (by decide)
      have q30 := no_30 70 (by decide)
      have q31 := no_31 70 (by decide)
      have q32 := no_32 70 (by decide)
      have q33 := no_33 70 (by decide)
      have q34 := no_34 70 (by decide)
      have q35 := yes_35
      go_enter Tryz.func36, Tryz.ntmps36
      go_wp2_with fail
      exact bodyPost_ret (v := .agg #[.int .i64 35, .string ⟨#[]⟩, .string ⟨#[]⟩, .int .u64 1, .slice none 0 0]) (by simp [results, Tryz.f36, go_sem]) rfl (back_leaf HWF.out ((Below.refl _ _).alloc (Nat.le_refl _) _))

set_option maxRecDepth 100000 in
set_option maxHeartbeats 2000000 in
theorem nd_36 (d : Nat) (hN : NodeC d) (e : Nat) (A : Nat → Prop) (n : Nd) (b : Nat) (w : World) (hG : PreD (e + 1) n) (hW : WfN n) (hR : RepD A (d + 1) w n b) (hk : n.kind = 36) :
    Calls Tryz.prog 36 #[.iface (pTy n.kind) (.pointer (some ⟨b, 0, none⟩))] w (NodePost n w) := by
  obtain ⟨k, t, m, u, ao, cap, kids⟩ := n
  obtain rfl : k = 36 := hk
  have hn0 : (Nd.mk 36 t m u ao cap kids).kind ≠ 0 := by show (36 : Int) ≠ 0; decide
  have hn1 : (Nd.mk 36 t m u ao cap kids).kind ≠ 1 := by show (36 : Int) ≠ 1; decide
  have hPl := (hG.fit hn0).2.2.1
  have HWF := Lib.hid hW.wf
  obtain rfl : t = ⟨#[]⟩ := hPl.1 (show hasText 36 = false by decide)
  obtain rfl : m = ⟨#[]⟩ := hPl.2.2.1 (show (36 : Int) ≠ 2 by decide) (show (36 : Int) ≠ 3 by decide)
  have hln : kids.length = 0 := by
    have h1 := ((hG.fit hn0).2.2.2.1 hn1)
    have e1 : (fixedL 36).length = 0 := by decide
    have e2 : restL 36 = 28 := by decide
    simp only [Nd.kind, Nd.kids] at h1
    rw [e1, e2] at h1
    omega
  obtain rfl : kids = [] := List.eq_nil_of_length_eq_zero hln
  obtain ⟨hA, cs, hb, hs⟩ := hR
  rw [slots_36 _ rfl] at hs
  match cs, hs with
  | [v0, v1, v2, v3], ⟨e0, e1, e2, e3, _⟩ =>
    have c3 : w.cell? ⟨b, 3, none⟩ = some (.int .i64 (wrap64 u)) := by rw [Lib.cell_of_heap hb]; exact congrArg some e3
    have hu1 : 0 ≤ u := HWF.out.2.2.2.1
    have hu2 : u < 18446744073709551616 := HWF.out.2.2.2.2.1
    have hblt : b < w.heap.size := (Array.getElem?_eq_some_iff.1 hb).1
    rw [show pTy (Nd.kind (.mk 36 _ _ _ ao cap [])) = 49 from ptrTy_36]
    clear hn0 hn1 hPl hln hG hW hA hb
    have hwr : IntKind.u64.wrap (wrap64 u) = u := by simp only [IntKind.wrap, IntKind.bits, IntKind.signed]; unfold wrap64; simp; omega
    have q2 := no_2 49 (by decide)
    have q3 := no_3 49 (by decide)
    have q4 := no_4 49 (by decide)
    have q5 := no_5 49 (by decide)
    have q6 := no_6 49 (by decide)
    have q7 := no_7 49 (by decide)
    have q8 := no_8 49 (by decide)
    have q9 := no_9 49 (by decide)
    have q10 := no_10 49 (by decide)
    have q11 := no_11 49 (by decide)
    have q12 := no_12 49 (by decide)
    have q13 := no_13 49 (by decide)
    have q14 := no_14 49 (by decide)
    have q15 := no_15 49 (by decide)
    have q16 := no_16 49 (by decide)
    have q17 := no_17 49 (by decide)
    have q18 := no_18 49 (by decide)
    have q19 := no_19 49 (by decide)
    have q20 := no_20 49 (by decide)
    have q21 := no_21 49 (by decide)
    have q22 := no_22 49 (by decide)
    have q23 := no_23 49 (by decide)
    have q24 := no_24 49 (by decide)
    have q25 := no_25 49 (by decide)
    have q26 := no_26 49 (by decide)
    have q27 := no_27 49 (by decide)
    have q28 := no_28 49 (by decide)
    have q29 := no_29 49 (by decide)
    have q30 := no_30 49 (by decide)
    have q31 := no_31 49 (by decide)
    have q32 := no_32 49 (by decide)
    have q33 := no_33 49 (by decide)
    have q34 := no_34 49 (by decide)
    have q35 := no_35 49 (by decide)
    have q36 := yes_36
    go_enter Tryz.func36, Tryz.ntmps36
    go_wp2_with fail
    exact bodyPost_ret (v := .agg #[.int .i64 36, .string ⟨#[]⟩, .string ⟨#[]⟩, .int .u64 u, .slice none 0 0]) (by simp [results, Tryz.f36, go_sem]) rfl (back_leaf HWF.out ((Below.refl _ _).alloc (Nat.le_refl _) _))

set_option maxRecDepth 100000 in
set_option maxHeartbeats 2000000 in
theorem nd_37 (d : Nat) (hN : NodeC d) (e : Nat) (A : Nat → Prop) (n : Nd) (b : Nat) (w : World) (hG : PreD (e + 1) n) (hW : WfN n) (hR : RepD A (d + 1) w n b) (hk : n.kind = 37) :
    Calls Tryz.prog 36 #[.iface (pTy n.kind) (.pointer (some ⟨b, 0, none⟩))] w (NodePost n w) := by
  obtain ⟨k, t, m, u, ao, cap, kids⟩ := n
  obtain rfl : k = 37 := hk
  have hn0 : (Nd.mk 37 t m u ao cap kids).kind ≠ 0 := by show (37 : Int) ≠ 0; decide
  have hn1 : (Nd.mk 37 t m u ao cap kids).kind ≠ 1 := by show (37 : Int) ≠ 1; decide
  have hPl := (hG.fit hn0).2.2.1
  have HWF := Lib.hid hW.wf
  obtain rfl : t = ⟨#[]⟩ := hPl.1 (show hasText 37 = false by decide)
  obtain rfl : m = ⟨#[]⟩ := hPl.2.2.1 (show (37 : Int) ≠ 2 by decide) (show (37 : Int) ≠ 3 by decide)
  have hln : kids.length = 0 := by
    have h1 := ((hG.fit hn0).2.2.2.1 hn1)
    have e1 : (fixedL 37).length = 0 := by decide
    have e2 : restL 37 = 28 := by decide
    simp only [Nd.kind, Nd.kids] at h1
    rw [e1, e2] at h1
    omega
  obtain rfl : kids = [] := List.eq_nil_of_length_eq_zero hln
  obtain ⟨hA, cs, hb, hs⟩ := hR
  rw [slots_37 _ rfl] at hs
  match cs, hs with
  | [v0, v1, v2, v3], ⟨e0, e1, e2, e3, _⟩ =>
    have c3 : w.cell? ⟨b, 3, none⟩ = some (.int .u64 u) := by rw [Lib.cell_of_heap hb]; exact congrArg some e3
    have hu1 : 0 ≤ u := HWF.out.2.2.2.1
    have hu2 : u < 18446744073709551616 := HWF.out.2.2.2.2.1
    have hblt : b < w.heap.size := (Array.getElem?_eq_some_iff.1 hb).1
    rw [show pTy (Nd.kind (.mk 37 _ _ _ ao cap [])) = 60 from ptrTy_37]
    clear hn0 hn1 hPl hln hG hW hA hb
    have q2 := no_2 60 (by decide)
    have q3 := no_3 60 (by decide)
    have q4 := no_4 60 (by decide)
    have q5 := no_5 60 (by decide)
    have q6 := no_6 60 (by decide)
    have q7 := no_7 60 (by decide)
    have q8 := no_8 60 (by decide)
    have q9 := no_9 60 (by decide)
    have q10 := no_10 60 (by decide)
    have q11 := no_11 60 (by decide)
    have q12 := no_12 60 (by decide)
    have q13 := no_13 60 (by decide)
    have q14 := no_14 60 (by decide)
    have q15 := no_15 60 (by decide)
    have q16 := no_16 60 (by decide)
    have q17 := no_17 60 (by decide)
    have q18 := no_18 60 (by decide)
    have q19 := no_19 60 (by decide)
    have q20 := no_20 60 (by decide)
    have q21 := no_21 60 (by decide)
    have q22 := no_22 60 (by decide)
    have q23 := no_23 60 (by decide)
    have q24 := no_24 60 (by decide)
    have q25 := no_25 60 (by decide)
    have q26 := no_26 60 (by decide)
    have q27 := no_27 60 (by decide)
    have q28 := no_28 60 (by decide)
    have q29 := no_29 60 (by decide)
    have q30 := no_30 60 (by decide)
    have q31 := no_31 60 (by decide)
    have q32 := no_32 60 (by decide)
    have q33 := no_33 60 (by decide)
    have q34 := no_34 60 (by decide)
    have q35 := no_35 60 (by decide)
    have q36 := no_36 60 (by decide)
    have q37 := yes_37
    go_enter Tryz.func36, Tryz.ntmps36
    go_wp2_with fail
    exact bodyPost_ret (v := .agg #[.int .i64 37, .string ⟨#[]⟩, .string ⟨#[]⟩, .int .u64 u, .slice none 0 0]) (by simp [results, Tryz.f36, go_sem]) rfl (back_leaf HWF.out ((Below.refl _ _).alloc (Nat.le_refl _) _))

set_option maxRecDepth 100000 in
set_option maxHeartbeats 2000000 in
theorem nd_43 (d : Nat) (hN : NodeC d) (e : Nat) (A : Nat → Prop) (n : Nd) (b : Nat) (w : World) (hG : PreD (e + 1) n) (hW : WfN n) (hR : RepD A (d + 1) w n b) (hk : n.kind = 43) :
    Calls Tryz.prog 36 #[.iface (pTy n.kind) (.pointer (some ⟨b, 0, none⟩))] w (NodePost n w) := by
  obtain ⟨k, t, m, u, ao, cap, kids⟩ := n
  obtain rfl : k = 43 := hk
  have hn0 : (Nd.mk 43 t m u ao cap kids).kind ≠ 0 := by show (43 : Int) ≠ 0; decide
  have hn1 : (Nd.mk 43 t m u ao cap kids).kind ≠ 1 := by show (43 : Int) ≠ 1; decide
  have hPl := (hG.fit hn0).2.2.1
  have HWF := Lib.hid hW.wf
  obtain rfl : t = ⟨#[]⟩ := hPl.1 (show hasText 43 = false by decide)
  obtain rfl : u = 0 := hPl.2.1 (show hasNum 43 = false by decide)
  obtain rfl : m = ⟨#[]⟩ := hPl.2.2.1 (show (43 : Int) ≠ 2 by decide) (show (43 : Int) ≠ 3 by decide)
  have hln : kids.length = 0 := by
    have h1 := ((hG.fit hn0).2.2.2.1 hn1)
    have e1 : (fixedL 43).length = 0 := by decide
    have e2 : restL 43 = 28 := by decide
    simp only [Nd.kind, Nd.kids] at h1
    rw [e1, e2] at h1
    omega
  obtain rfl : kids = [] := List.eq_nil_of_length_eq_zero hln
  obtain ⟨hA, cs, hb, hs⟩ := hR
  rw [slots_43 _ rfl] at hs
  match cs, hs with
  | [v0, v1, v2], ⟨e0, e1, e2, _⟩ =>
    have hblt : b < w.heap.size := (Array.getElem?_eq_some_iff.1 hb).1
    rw [show pTy (Nd.kind (.mk 43 _ _ _ ao cap [])) = 255 from ptrTy_43]
    clear hn0 hn1 hPl hln hG hW hA hb
    have q2 := no_2 255 (by decide)
    have q3 := no_3 255 (by decide)
    have q4 := no_4 255 (by decide)
    have q5 := no_5 255 (by decide)
    have q6 := no_6 255 (by decide)
    have q7 := no_7 255 (by decide)
    have q8 := no_8 255 (by decide)
    have q9 := no_9 255 (by decide)
    have q10 := no_10 255 (by decide)
    have q11 := no_11 255 (by decide)
    have q12 := no_12 255 (by decide)
    have q13 := no_13 255 (by decide)
    have q14 := no_14 255 (by decide)
    have q15 := no_15 255 (by decide)
    have q16 := no_16 255 (by decide)
    have q17 := no_17 255 (by decide)
    have q18 := no_18 255 (by decide)
    have q19 := no_19 255 (by decide)
    have q20 := no_20 255 (by decide)
    have q21 := no_21 255 (by decide)
    have q22 := no_22 255 (by decide)
    have q23 := no_23 255 (by decide)
    have q24 := no_24 255 (by decide)
    have q25 := no_25 255 (by decide)
    have q26 := no_26 255 (by decide)
    have q27 := no_27 255 (by decide)
    have q28 := no_28 255 (by decide)
    have q29 := no_29 255 (by decide)
    have q30 := no_30 255 (by decide)
    have q31 := no_31 255 (by decide)
    have q32 := no_32 255 (by decide)
    have q33 := no_33 255 (by decide)
    have q34 := no_34 255 (by decide)
    have q35 := no_35 255 (by decide)
    have q36 := no_36 255 (by decide)
    have q37 := no_37 255 (by decide)
    have q38 := no_38 255 (by decide)
    have q39 := no_39 255 (by decide)
    have q41 := no_41 255 (by decide)
    have q42 := no_42 255 (by decide)
    have q43 := yes_43
    go_enter Tryz.func36, Tryz.ntmps36
    go_wp2_with fail
    exact bodyPost_ret (v := .agg #[.int .i64 43, .string ⟨#[]⟩, .string ⟨#[]⟩, .int .u64 0, .slice none 0 0]) (by simp [results, Tryz.f36, go_sem]) rfl (back_leaf HWF.out ((Below.refl _ _).alloc (Nat.le_refl _) _))

end Go.Proofs.YtongafghllkomaaGreatDoor
