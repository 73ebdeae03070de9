/-
  node kind by kind, part A: it hands back the tree that lies there, given its own contract a level down. No conditions.
-/
import Derived.Test.YtcbcdgifakcooaaGreatDoorTests
import Derived.Deep.RegionHeld3
import Derived.Deep.RegionWith
namespace Go.Proofs.YtcbcdgifakcooaaGreatDoor
open Go.RowKit
set_option linter.unusedVariables false
set_option linter.unusedSimpArgs false

set_option maxRecDepth 100000 in
set_option maxHeartbeats 2000000 in
theorem nd_7 (d : Nat) (hN : NodeC d) (e : Nat) (A : Nat → Prop) (n : Nd) (b : Nat) (w : World) (hG : PreD (e + 1) n) (hW : WfN n) (hR : RepD A (d + 1) w n b) (hk : n.kind = 7) :
    Calls Tryz.prog 17 #[.iface (pTy n.kind) (.pointer (some ⟨b, 0, none⟩))] w (NodePost n w) := by
  obtain ⟨k, t, m, u, ao, cap, kids⟩ := n
  obtain rfl : k = 7 := hk
  have hn0 : (Nd.mk 7 t m u ao cap kids).kind ≠ 0 := by show (7 : Int) ≠ 0; decide
  have hn1 : (Nd.mk 7 t m u ao cap kids).kind ≠ 1 := by show (7 : Int) ≠ 1; decide
  have hPl := (hG.fit hn0).2.2.1
  have HWF := Lib.hid hW.wf
  obtain rfl : u = 0 := hPl.2.1 (show hasNum 7 = false by decide)
  obtain rfl : m = ⟨#[]⟩ := hPl.2.2.1 (show (7 : Int) ≠ 2 by decide) (show (7 : Int) ≠ 3 by decide)
  have hln : kids.length = 0 := by
    have h1 := ((hG.fit hn0).2.2.2.1 hn1)
    have e1 : (fixedL 7).length = 0 := by decide
    have e2 : restL 7 = 28 := by decide
    simp only [Nd.kind, Nd.kids] at h1
    rw [e1, e2] at h1
    omega
  obtain rfl : kids = [] := List.eq_nil_of_length_eq_zero hln
  obtain ⟨hA, cs, hb, hs⟩ := hR
  rw [slots_7 _ rfl] at hs
  match cs, hs with
  | [v0, v1, v2, v3], ⟨e0, e1, e2, e3, _⟩ =>
    have c3 : w.cell? ⟨b, 3, none⟩ = some (.string t) := by rw [Lib.cell_of_heap hb]; exact congrArg some e3
    have hblt : b < w.heap.size := (Array.getElem?_eq_some_iff.1 hb).1
    rw [show pTy (Nd.kind (.mk 7 _ _ _ ao cap [])) = 109 from ptrTy_7]
    clear hn0 hn1 hPl hln hG hW hA hb
    have q2 := no_2 109 (by decide)
    have q3 := no_3 109 (by decide)
    have q4 := no_4 109 (by decide)
    have q5 := no_5 109 (by decide)
    have q6 := no_6 109 (by decide)
    have q7 := yes_7
    go_enter Tryz.func17, Tryz.ntmps17
    go_wp2_with fail
    exact bodyPost_ret (v := .agg #[.int .i64 7, .string t, .string ⟨#[]⟩, .int .u64 0, .slice none 0 0]) (by simp [results, Tryz.f17, go_sem]) rfl (back_leaf HWF.out ((Below.refl _ _).alloc (Nat.le_refl _) _))

set_option maxRecDepth 100000 in
set_option maxHeartbeats 2000000 in
theorem nd_31 (d : Nat) (hN : NodeC d) (e : Nat) (A : Nat → Prop) (n : Nd) (b : Nat) (w : World) (hG : PreD (e + 1) n) (hW : WfN n) (hR : RepD A (d + 1) w n b) (hk : n.kind = 31) :
    Calls Tryz.prog 17 #[.iface (pTy n.kind) (.pointer (some ⟨b, 0, none⟩))] w (NodePost n w) := by
  obtain ⟨k, t, m, u, ao, cap, kids⟩ := n
  obtain rfl : k = 31 := hk
  have hn0 : (Nd.mk 31 t m u ao cap kids).kind ≠ 0 := by show (31 : Int) ≠ 0; decide
  have hn1 : (Nd.mk 31 t m u ao cap kids).kind ≠ 1 := by show (31 : Int) ≠ 1; decide
  have hPl := (hG.fit hn0).2.2.1
  have HWF := Lib.hid hW.wf
  obtain rfl : u = 0 := hPl.2.1 (show hasNum 31 = false by decide)
  obtain rfl : m = ⟨#[]⟩ := hPl.2.2.1 (show (31 : Int) ≠ 2 by decide) (show (31 : Int) ≠ 3 by decide)
  have hln : kids.length = 0 := by
    have h1 := ((hG.fit hn0).2.2.2.1 hn1)
    have e1 : (fixedL 31).length = 0 := by decide
    have e2 : restL 31 = 28 := by decide
    simp only [Nd.kind, Nd.kids] at h1
    rw [e1, e2] at h1
    omega
  obtain rfl : kids = [] := List.eq_nil_of_length_eq_zero hln
  obtain ⟨hA, cs, hb, hs⟩ := hR
  rw [slots_31 _ rfl] at hs
  match cs, hs with
  | [v0, v1, v2, v3], ⟨e0, e1, e2, e3, _⟩ =>
    have c3 : w.cell? ⟨b, 3, none⟩ = some (.string t) := by rw [Lib.cell_of_heap hb]; exact congrArg some e3
    have hblt : b < w.heap.size := (Array.getElem?_eq_some_iff.1 hb).1
    rw [show pTy (Nd.kind (.mk 31 _ _ _ ao cap [])) = 211 from ptrTy_31]
    clear hn0 hn1 hPl hln hG hW hA hb
    have q2 := no_2 211 (by decide)
    have q3 := no_3 211 (by decide)
    have q4 := no_4 211 (by decide)
    have q5 := no_5 211 (by decide)
    have q6 := no_6 211 (by decide)
    have q7 := no_7 211 (by decide)
    have q8 := no_8 211 (by decide)
    have q9 := no_9 211 (by decide)
    have q10 := no_10 211 (by decide)
    have q11 := no_11 211 (by decide)
    have q12 := no_12 211 (by decide)
    have q13 := no_13 211 (by decide)
    have q14 := no_14 211 (by decide)
    have q15 := no_15 211 (by decide)
    have q16 := no_16 211 (by decide)
    have q17 := no_17 211 (by decide)
    have q18 := no_18 211 (by decide)
    have q19 := no_19 211 (by decide)
    have q20 := no_20 211 (by decide)
    have q21 := no_21 211 (by decide)
    have q22 := no_22 211 (by decide)
    have q23 := no_23 211 (by decide)
    have q24 := no_24 211 (by decide)
    have q25 := no_25 211 (by decide)
    have q26 := no_26 211 (by decide)
    have q27 := no_27 211 (by decide)
    have q28 := no_28 211 (by decide)
    have q29 := no_29 211 (by decide)
    have q30 := no_30 211 (by decide)
    have q31 := yes_31
    go_enter Tryz.func17, Tryz.ntmps17
    go_wp2_with fail
    exact bodyPost_ret (v := .agg #[.int .i64 31, .string t, .string ⟨#[]⟩, .int .u64 0, .slice none 0 0]) (by simp [results, Tryz.f17, go_sem]) rfl (back_leaf HWF.out ((Below.refl _ _).alloc (Nat.le_refl _) _))

set_option maxRecDepth 100000 in
set_option maxHeartbeats 2000000 in
theorem nd_33 (d : Nat) (hN : NodeC d) (e : Nat) (A : Nat → Prop) (n : Nd) (b : Nat) (w : World) (hG : PreD (e + 1) n) (hW : WfN n) (hR : RepD A (d + 1) w n b) (hk : n.kind = 33) :
    Calls Tryz.prog 17 #[.iface (pTy n.kind) (.pointer (some ⟨b, 0, none⟩))] w (NodePost n w) := by
  obtain ⟨k, t, m, u, ao, cap, kids⟩ := n
  obtain rfl : k = 33 := hk
  have hn0 : (Nd.mk 33 t m u ao cap kids).kind ≠ 0 := by show (33 : Int) ≠ 0; decide
  have hn1 : (Nd.mk 33 t m u ao cap kids).kind ≠ 1 := by show (33 : Int) ≠ 1; decide
  have hPl := (hG.fit hn0).2.2.1
  have HWF := Lib.hid hW.wf
  obtain rfl : u = 0 := hPl.2.1 (show hasNum 33 = false by decide)
  obtain rfl : m = ⟨#[]⟩ := hPl.2.2.1 (show (33 : Int) ≠ 2 by decide) (show (33 : Int) ≠ 3 by decide)
  have hln : kids.length = 0 := by
    have h1 := ((hG.fit hn0).2.2.2.1 hn1)
    have e1 : (fixedL 33).length = 0 := by decide
    have e2 : restL 33 = 28 := by decide
    simp only [Nd.kind, Nd.kids] at h1
    rw [e1, e2] at h1
    omega
  obtain rfl : kids = [] := List.eq_nil_of_length_eq_zero hln
  obtain ⟨hA, cs, hb, hs⟩ := hR
  rw [slots_33 _ rfl] at hs
  match cs, hs with
  | [v0, v1, v2, v3], ⟨e0, e1, e2, e3, _⟩ =>
    have c3 : w.cell? ⟨b, 3, none⟩ = some (.string t) := by rw [Lib.cell_of_heap hb]; exact congrArg some e3
    have hblt : b < w.heap.size := (Array.getElem?_eq_some_iff.1 hb).1
    rw [show pTy (Nd.kind (.mk 33 _ _ _ ao cap [])) = 68 from ptrTy_33]
    clear hn0 hn1 hPl hln hG hW hA hb
    have q2 := no_2 68 (by decide)
    have q3 := no_3 68 (by decide)
    have q4 := no_4 68 (by decide)
    have q5 := no_5 68 (by decide)
    have q6 := no_6 68 (by decide)
    have q7 := no_7 68 (by decide)
    have q8 := no_8 68 (by decide)
    have q9 := no_9 68 (by decide)
    have q10 := no_10 68 (by decide)
    have q11 := no_11 68 (by decide)
    have q12 := no_12 68 (by decide)
    have q13 := no_13 68 (by decide)
    have q14 := no_14 68 (by decide)
    have q15 := no_15 68 (by decide)
    have q16 := no_16 68 (by decide)
    have q17 := no_17 68 (by decide)
    have q18 := no_18 68 (by decide)
    have q19 := no_19 68 (by decide)
    have q20 := no_20 68 (by decide)
    have q21 := no_21 68 (by decide)
    have q22 := no_22 68 (by decide)
    have q23 := no_23 68 (by decide)
    have q24 := no_24 68 (by decide)
    have q25 := no_25 68 (by decide)
    have q26 := no_26 68 (by decide)
    have q27 := no_27 68 (by decide)
    have q28 := no_28 68 (by decide)
    have q29 := no_29 68 (by decide)
    have q30 := no_30 68 (by decide)
    have q31 := no_31 68 (by decide)
    have q32 := no_32 68 (by decide)
    have q33 := yes_33
    go_enter Tryz.func17, Tryz.ntmps17
    go_wp2_with fail
    exact bodyPost_ret (v := .agg #[.int .i64 33, .string t, .string ⟨#[]⟩, .int .u64 0, .slice none 0 0]) (by simp [results, Tryz.f17, go_sem]) rfl (back_leaf HWF.out ((Below.refl _ _).alloc (Nat.le_refl _) _))

set_option maxRecDepth 100000 in
set_option maxHeartbeats 2000000 in
theorem nd_34 (d : Nat) (hN : NodeC d) (e : Nat) (A : Nat → Prop) (n : Nd) (b : Nat) (w : World) (hG : PreD (e + 1) n) (hW : WfN n) (hR : RepD A (d + 1) w n b) (hk : n.kind = 34) :
    Calls Tryz.prog 17 #[.iface (pTy n.kind) (.pointer (some ⟨b, 0, none⟩))] w (NodePost n w) := by
  obtain ⟨k, t, m, u, ao, cap, kids⟩ := n
  obtain rfl : k = 34 := hk
  have hn0 : (Nd.mk 34 t m u ao cap kids).kind ≠ 0 := by show (34 : Int) ≠ 0; decide
  have hn1 : (Nd.mk 34 t m u ao cap kids).kind ≠ 1 := by show (34 : Int) ≠ 1; decide
  have hPl := (hG.fit hn0).2.2.1
  have HWF := Lib.hid hW.wf
  obtain rfl : u = 0 := hPl.2.1 (show hasNum 34 = false by decide)
  obtain rfl : m = ⟨#[]⟩ := hPl.2.2.1 (show (34 : Int) ≠ 2 by decide) (show (34 : Int) ≠ 3 by decide)
  have hln : kids.length = 0 := by
    have h1 := ((hG.fit hn0).2.2.2.1 hn1)
    have e1 : (fixedL 34).length = 0 := by decide
    have e2 : restL 34 = 28 := by decide
    simp only [Nd.kind, Nd.kids] at h1
    rw [e1, e2] at h1
    omega
  obtain rfl : kids = [] := List.eq_nil_of_length_eq_zero hln
  obtain ⟨hA, cs, hb, hs⟩ := hR
  rw [slots_34 _ rfl] at hs
  match cs, hs with
  | [v0, v1, v2, v3], ⟨e0, e1, e2, e3, _⟩ =>
    have c3 : w.cell? ⟨b, 3, none⟩ = some (.string t) := by rw [Lib.cell_of_heap hb]; exact congrArg some e3
    have hblt : b < w.heap.size := (Array.getElem?_eq_some_iff.1 hb).1
    rw [show pTy (Nd.kind (.mk 34 _ _ _ ao cap [])) = 100 from ptrTy_34]
    clear hn0 hn1 hPl hln hG hW hA hb
    have q2 := no_2 100 (by decide)
    have q3 := no_3 100 (by decide)
    have q4 := no_4 100 (by decide)
    have q5 := no_5 100 (by decide)
    have q6 := no_6 100 (by decide)
    have q7 := no_7 100 (by decide)
    have q8 := no_8 100 (by decide)
    have q9 := no_9 100 (by decide)
    have q10 := no_10 100 (by decide)
    have q11 := no_11 100 (by decide)
    have q12 := no_12 100 (by decide)
    have q13 := no_13 100 (by decide)
    have q14 := no_14 100 (by decide)
    have q15 := no_15 100 (by decide)
    have q16 := no_16 100 (by decide)
    have q17 := no_17 100 (by decide)
    have q18 := no_18 100 (by decide)
    have q19 := no_19 100 (by decide)
    have q20 := no_20 100 (by decide)
    have q21 := no_21 100 (by decide)
    have q22 := no_22 100 (by decide)
    have q23 := no_23 100 (by decide)
    have q24 := no_24 100 (by decide)
    have q25 := no_25 100 (by decide)
    have q26 := no_26 100 (by decide)
    have q27 := no_27 100 (by decide)
    have q28 := no_28 100 (by decide)
    have q29 := no_29 100 (by decide)
    have q30 := no_30 100 (by decide)
    have q31 := no_31 100 (by decide)
    have q32 := no_32 100 (by decide)
    have q33 := no_33 100 (by decide)
    have q34 := yes_34
    go_enter Tryz.func17, Tryz.ntmps17
    go_wp2_with fail
    exact bodyPost_ret (v := .agg #[.int .i64 34, .string t, .string ⟨#[]⟩, .int .u64 0, .slice none 0 0]) (by simp [results, Tryz.f17, go_sem]) rfl (back_leaf HWF.out ((Below.refl _ _).alloc (Nat.le_refl _) _))

set_option maxRecDepth 100000 in
set_option maxHeartbeats 2000000 in
theorem nd_35 (d : Nat) (hN : NodeC d) (e : Nat) (A : Nat → Prop) (n : Nd) (b : Nat) (w : World) (hG : PreD (e + 1) n) (hW : WfN n) (hR : RepD A (d + 1) w n b) (hk : n.kind = 35) :
    Calls Tryz.prog 17 #[.iface (pTy n.kind) (.pointer (some ⟨b, 0, none⟩))] w (NodePost n w) := by
  obtain ⟨k, t, m, u, ao, cap, kids⟩ := n
  obtain rfl : k = 35 := hk
  have hn0 : (Nd.mk 35 t m u ao cap kids).kind ≠ 0 := by show (35 : Int) ≠ 0; decide
  have hn1 : (Nd.mk 35 t m u ao cap kids).kind ≠ 1 := by show (35 : Int) ≠ 1; decide
  have hPl := (hG.fit hn0).2.2.1
  have HWF := Lib.hid hW.wf
  obtain rfl : t = ⟨#[]⟩ := hPl.1 (show hasText 35 = false by decide)
  obtain rfl : m = ⟨#[]⟩ := hPl.2.2.1 (show (35 : Int) ≠ 2 by decide) (show (35 : Int) ≠ 3 by decide)
  have hln : kids.length = 0 := by
    have h1 := ((hG.fit hn0).2.2.2.1 hn1)
    have e1 : (fixedL 35).length = 0 := by decide
    have e2 : restL 35 = 28 := by decide
    simp only [Nd.kind, Nd.kids] at h1
    rw [e1, e2] at h1
    omega
  obtain rfl : kids = [] := List.eq_nil_of_length_eq_zero hln
  obtain ⟨hA, cs, hb, hs⟩ := hR
  rw [slots_35 _ rfl] at hs
  match cs, hs with
  | [v0, v1, v2, v3], ⟨e0, e1, e2, e3, _⟩ =>
    have hu := hPl.2.2.2.2.2.2.2.2.1 rfl
    simp only [Nd.num] at hu
    have c3 : w.cell? ⟨b, 3, none⟩ = some (.bool (u != 0)) := by rw [Lib.cell_of_heap hb]; exact congrArg some e3
    have hu1 : 0 ≤ u := HWF.out.2.2.2.1
    have hu2 : u < 18446744073709551616 := HWF.out.2.2.2.2.1
    have hblt : b < w.heap.size := (Array.getElem?_eq_some_iff.1 hb).1
    rw [show pTy (Nd.kind (.mk 35 _ _ _ ao cap [])) = 215 from ptrTy_35]
    clear hn0 hn1 hPl hln hG hW hA hb
    obtain rfl | rfl : u = 0 ∨ u = 1 := by omega
    · have c3 : w.cell? ⟨b, 3, none⟩ = some (.bool false) := c3
      have q2 := no_2 215 (by decide)
      have q3 := no_3 215 (by decide)
      have q4 := no_4 215 (by decide)
      have q5 := no_5 215 (by decide)
      have q6 := no_6 215 (by decide)
      have q7 := no_7 215 (by decide)
      have q8 := no_8 215 (by decide)
      have q9 := no_9 215 (by decide)
      have q10 := no_10 215 (by decide)
      have q11 := no_11 215 (by decide)
      have q12 := no_12 215 (by decide)
      have q13 := no_13 215 (by decide)
      have q14 := no_14 215 (by decide)
      have q15 := no_15 215 (by decide)
      have q16 := no_16 215 (by decide)
      have q17 := no_17 215 (by decide)
      have q18 := no_18 215 (by decide)
      have q19 := no_19 215 (by decide)
      have q20 := no_20 215 (by decide)
      have q21 := no_21 215 (by decide)
      have q22 := no_22 215 (by decide)
      have q23 := no_23 215 (by decide)
      have q24 := no_24 215 (by decide)
      have q25 := no_25 215 (by decide)
      have q26 := no_26 215 (by decide)
      have q27 := no_27 215 (by decide)
      have q28 := no_28 215 (by decide)
      have q29 := no_29 215 (by decide)
      have q30 := no_30 215 (by decide)
      have q31 := no_31 215 (by decide)
      have q32 := no_32 215 (by decide)
      have q33 := no_33 215 (by decide)
      have q34 := no_34 215 (by decide)
      have q35 := yes_35
      go_enter Tryz.func17, Tryz.ntmps17
      go_wp2_with fail
      exact bodyPost_ret (v := .agg #[.int .i64 35, .string ⟨#[]⟩, .string ⟨#[]⟩, .int .u64 0, .slice none 0 0]) (by simp [results, Tryz.f17, go_sem]) rfl (back_leaf HWF.out ((Below.refl _ _).alloc (Nat.le_refl _) _))
    · have c3 : w.cell? ⟨b, 3, none⟩ = some (.bool true) := c3
      have q2 := no_2 215 (by decide)
      have q3 := no_3 215 (by decide)
      have q4 := no_4 215 (by decide)
      have q5 := no_5 215 (by decide)
      have q6 := no_6 215 (by decide)
      have q7 := no_7 215 (by decide)
      have q8 := no_8 215 (by decide)
      have q9 := no_9 215 (by decide)
      have q10 := no_10 215 (by decide)
      have q11 := no_11 215 (by decide)
      have q12 := no_12 215 (by decide)
      have q13 := no_13 215 (by decide)
      have q14 := no_14 215 (by decide)
      have q15 := no_15 215 (by decide)
      have q16 := no_16 215 (by decide)
      have q17 := no_17 215 (by decide)
      have q18 := no_18 215 (by decide)
      have q19 := no_19 215 (by decide)
      have q20 := no_20 215 (by decide)
      have q21 := no_21 215 (by decide)
      have q22 := no_22 215 (by decide)
      have q23 := no_23 215 (by decide)
      have q24 := no_24 215 (by decide)
      have q25 := no_25 215 (by decide)
      have q26 := no_26 215 (by decide)
      have q27 := no_27 215 (by decide)
      have q28 := no_28 215 (by decide)
      have q29 := no_29 215 (by decide)
      have q30 := no_30 215 (by decide)
      have q31 := no_31 215 (by decide)
      have q32 := no_32 215 (by decide)
      have q33 := no_33 215 (by decide)
      have q34 := no_34 215 (by decide)
      have q35 := yes_35
      go_enter Tryz.func17, Tryz.ntmps17
      go_wp2_with fail
      exact bodyPost_ret (v := .agg #[.int .i64 35, .string ⟨#[]⟩, .string ⟨#[]⟩, .int .u64 1, .slice none 0 0]) (by simp [results, Tryz.f17, go_sem]) rfl (back_leaf HWF.out ((Below.refl _ _).alloc (Nat.le_refl _) _))

set_option maxRecDepth 100000 in
set_option maxHeartbeats 2000000 in
theorem nd_36 (d : Nat) (hN : NodeC d) (e : Nat) (A : Nat → Prop) (n : Nd) (b : Nat) (w : World) (hG : PreD (e + 1) n) (hW : WfN n) (hR : RepD A (d + 1) w n b) (hk : n.kind = 36) :
    Calls Tryz.prog 17 #[.iface (pTy n.kind) (.pointer (some ⟨b, 0, none⟩))] w (NodePost n w) := by
  obtain ⟨k, t, m, u, ao, cap, kids⟩ := n
  obtain rfl : k = 36 := hk
  have hn0 : (Nd.mk 36 t m u ao cap kids).kind ≠ 0 := by show (36 : Int) ≠ 0; decide
  have hn1 : (Nd.mk 36 t m u ao cap kids).kind ≠ 1 := by show (36 : Int) ≠ 1; decide
  have hPl := (hG.fit hn0).2.2.1
  have HWF := Lib.hid hW.wf
  obtain rfl : t = ⟨#[]⟩ := hPl.1 (show hasText 36 = false by decide)
  obtain rfl : m = ⟨#[]⟩ := hPl.2.2.1 (show (36 : Int) ≠ 2 by decide) (show (36 : Int) ≠ 3 by decide)
  have hln : kids.length = 0 := by
    have h1 := ((hG.fit hn0).2.2.2.1 hn1)
    have e1 : (fixedL 36).length = 0 := by decide
    have e2 : restL 36 = 28 := by decide
    simp only [Nd.kind, Nd.kids] at h1
    rw [e1, e2] at h1
    omega
  obtain rfl : kids = [] := List.eq_nil_of_length_eq_zero hln
  obtain ⟨hA, cs, hb, hs⟩ := hR
  rw [slots_36 _ rfl] at hs
  match cs, hs with
  | [v0, v1, v2, v3], ⟨e0, e1, e2, e3, _⟩ =>
    have c3 : w.cell? ⟨b, 3, none⟩ = some (.int .i64 (wrap64 u)) := by rw [Lib.cell_of_heap hb]; exact congrArg some e3
    have hu1 : 0 ≤ u := HWF.out.2.2.2.1
    have hu2 : u < 18446744073709551616 := HWF.out.2.2.2.2.1
    have hblt : b < w.heap.size := (Array.getElem?_eq_some_iff.1 hb).1
    rw [show pTy (Nd.kind (.mk 36 _ _ _ ao cap [])) = 218 from ptrTy_36]
    clear hn0 hn1 hPl hln hG hW hA hb
    have hwr : IntKind.u64.wrap (wrap64 u) = u := by simp only [IntKind.wrap, IntKind.bits, IntKind.signed]; unfold wrap64; simp; omega
    have q2 := no_2 218 (by decide)
    have q3 := no_3 218 (by decide)
    have q4 := no_4 218 (by decide)
    have q5 := no_5 218 (by decide)
    have q6 := no_6 218 (by decide)
    have q7 := no_7 218 (by decide)
    have q8 := no_8 218 (by decide)
    have q9 := no_9 218 (by decide)
    have q10 := no_10 218 (by decide)
    have q11 := no_11 218 (by decide)
    have q12 := no_12 218 (by decide)
    have q13 := no_13 218 (by decide)
    have q14 := no_14 218 (by decide)
    have q15 := no_15 218 (by decide)
    have q16 := no_16 218 (by decide)
    have q17 := no_17 218 (by decide)
    have q18 := no_18 218 (by decide)
    have q19 := no_19 218 (by decide)
    have q20 := no_20 218 (by decide)
    have q21 := no_21 218 (by decide)
    have q22 := no_22 218 (by decide)
    have q23 := no_23 218 (by decide)
    have q24 := no_24 218 (by decide)
    have q25 := no_25 218 (by decide)
    have q26 := no_26 218 (by decide)
    have q27 := no_27 218 (by decide)
    have q28 := no_28 218 (by decide)
    have q29 := no_29 218 (by decide)
    have q30 := no_30 218 (by decide)
    have q31 := no_31 218 (by decide)
    have q32 := no_32 218 (by decide)
    have q33 := no_33 218 (by decide)
    have q34 := no_34 218 (by decide)
    have q35 := no_35 218 (by decide)
    have q36 := yes_36
    go_enter Tryz.func17, Tryz.ntmps17
    go_wp2_with fail
    exact bodyPost_ret (v := .agg #[.int .i64 36, .string ⟨#[]⟩, .string ⟨#[]⟩, .int .u64 u, .slice none 0 0]) (by simp [results, Tryz.f17, go_sem]) rfl (back_leaf HWF.out ((Below.refl _ _).alloc (Nat.le_refl _) _))

set_option maxRecDepth 100000 in
set_option maxHeartbeats 2000000 in
theorem nd_37 (d : Nat) (hN : NodeC d) (e : Nat) (A : Nat → Prop) (n : Nd) (b : Nat) (w : World) (hG : PreD (e + 1) n) (hW : WfN n) (hR : RepD A (d + 1) w n b) (hk : n.kind = 37) :
    Calls Tryz.prog 17 #[.iface (pTy n.kind) (.pointer (some ⟨b, 0, none⟩))] w (NodePost n w) := by
  obtain ⟨k, t, m, u, ao, cap, kids⟩ := n
  obtain rfl : k = 37 := hk
  have hn0 : (Nd.mk 37 t m u ao cap kids).kind ≠ 0 := by show (37 : Int) ≠ 0; decide
  have hn1 : (Nd.mk 37 t m u ao cap kids).kind ≠ 1 := by show (37 : Int) ≠ 1; decide
  have hPl := (hG.fit hn0).2.2.1
  have HWF := Lib.hid hW.wf
  obtain rfl : t = ⟨#[]⟩ := hPl.1 (show hasText 37 = false by decide)
  obtain rfl : m = ⟨#[]⟩ := hPl.2.2.1 (show (37 : Int) ≠ 2 by decide) (show (37 : Int) ≠ 3 by decide)
  have hln : kids.length = 0 := by
    have h1 := ((hG.fit hn0).2.2.2.1 hn1)
    have e1 : (fixedL 37).length = 0 := by decide
    have e2 : restL 37 = 28 := by decide
    simp only [Nd.kind, Nd.kids] at h1
    rw [e1, e2] at h1
    omega
  obtain rfl : kids = [] := List.eq_nil_of_length_eq_zero hln
  obtain ⟨hA, cs, hb, hs⟩ := hR
  rw [slots_37 _ rfl] at hs
  match cs, hs with
  | [v0, v1, v2, v3], ⟨e0, e1, e2, e3, _⟩ =>
    have c3 : w.cell? ⟨b, 3, none⟩ = some (.int .u64 u) := by rw [Lib.cell_of_heap hb]; exact congrArg some e3
    have hu1 : 0 ≤ u := HWF.out.2.2.2.1
    have hu2 : u < 18446744073709551616 := HWF.out.2.2.2.2.1
    have hblt : b < w.heap.size := (Array.getElem?_eq_some_iff.1 hb).1
    rw [show pTy (Nd.kind (.mk 37 _ _ _ ao cap [])) = 221 from ptrTy_37]
    clear hn0 hn1 hPl hln hG hW hA hb
    have q2 := no_2 221 (by decide)
    have q3 := no_3 221 (by decide)
    have q4 := no_4 221 (by decide)
    have q5 := no_5 221 (by decide)
    have q6 := no_6 221 (by decide)
    have q7 := no_7 221 (by decide)
    have q8 := no_8 221 (by decide)
    have q9 := no_9 221 (by decide)
    have q10 := no_10 221 (by decide)
    have q11 := no_11 221 (by decide)
    have q12 := no_12 221 (by decide)
    have q13 := no_13 221 (by decide)
    have q14 := no_14 221 (by decide)
    have q15 := no_15 221 (by decide)
    have q16 := no_16 221 (by decide)
    have q17 := no_17 221 (by decide)
    have q18 := no_18 221 (by decide)
    have q19 := no_19 221 (by decide)
    have q20 := no_20 221 (by decide)
    have q21 := no_21 221 (by decide)
    have q22 := no_22 221 (by decide)
    have q23 := no_23 221 (by decide)
    have q24 := no_24 221 (by decide)
    have q25 := no_25 221 (by decide)
    have q26 := no_26 221 (by decide)
    have q27 := no_27 221 (by decide)
    have q28 := no_28 221 (by decide)
    have q29 := no_29 221 (by decide)
    have q30 := no_30 221 (by decide)
    have q31 := no_31 221 (by decide)
    have q32 := no_32 221 (by decide)
    have q33 := no_33 221 (by decide)
    have q34 := no_34 221 (by decide)
    have q35 := no_35 221 (by decide)
    have q36 := no_36 221 (by decide)
    have q37 := yes_37
    go_enter Tryz.func17, Tryz.ntmps17
    go_wp2_with fail
    exact bodyPost_ret (v := .agg #[.int .i64 37, .string ⟨#[]⟩, .string ⟨#[]⟩, .int .u64 u, .slice none 0 0]) (by simp [results, Tryz.f17, go_sem]) rfl (back_leaf HWF.out ((Below.refl _ _).alloc (Nat.le_refl _) _))

set_option maxRecDepth 100000 in
set_option maxHeartbeats 2000000 in
theorem nd_43 (d : Nat) (hN : NodeC d) (e : Nat) (A : Nat → Prop) (n : Nd) (b : Nat) (w : World) (hG : PreD (e + 1) n) (hW : WfN n) (hR : RepD A (d + 1) w n b) (hk : n.kind = 43) :
    Calls Tryz.prog 17 #[.iface (pTy n.kind) (.pointer (some ⟨b, 0, none⟩))] w (NodePost n w) := by
  obtain ⟨k, t, m, u, ao, cap, kids⟩ := n
  obtain rfl : k = 43 := hk
  have hn0 : (Nd.mk 43 t m u ao cap kids).kind ≠ 0 := by show (43 : Int) ≠ 0; decide
  have hn1 : (Nd.mk 43 t m u ao cap kids).kind ≠ 1 := by show (43 : Int) ≠ 1; decide
  have hPl := (hG.fit hn0).2.2.1
  have HWF := Lib.hid hW.wf
  obtain rfl : t = ⟨#[]⟩ := hPl.1 (show hasText 43 = false by decide)
  obtain rfl : u = 0 := hPl.2.1 (show hasNum 43 = false by decide)
  obtain rfl : m = ⟨#[]⟩ := hPl.2.2.1 (show (43 : Int) ≠ 2 by decide) (show (43 : Int) ≠ 3 by decide)
  have hln : kids.length = 0 := by
    have h1 := ((hG.fit hn0).2.2.2.1 hn1)
    have e1 : (fixedL 43).length = 0 := by decide
    have e2 : restL 43 = 28 := by decide
    simp only [Nd.kind, Nd.kids] at h1
    rw [e1, e2] at h1
    omega
  obtain rfl : kids = [] := List.eq_nil_of_length_eq_zero hln
  obtain ⟨hA, cs, hb, hs⟩ := hR
  rw [slots_43 _ rfl] at hs
  match cs, hs with
  | [v0, v1, v2], ⟨e0, e1, e2, _⟩ =>
    have hblt : b < w.heap.size := (Array.getElem?_eq_some_iff.1 hb).1
    rw [show pTy (Nd.kind (.mk 43 _ _ _ ao cap [])) = 243 from ptrTy_43]
    clear hn0 hn1 hPl hln hG hW hA hb
    have q2 := no_2 243 (by decide)
    have q3 := no_3 243 (by decide)
    have q4 := no_4 243 (by decide)
    have q5 := no_5 243 (by decide)
    have q6 := no_6 243 (by decide)
    have q7 := no_7 243 (by decide)
    have q8 := no_8 243 (by decide)
    have q9 := no_9 243 (by decide)
    have q10 := no_10 243 (by decide)
    have q11 := no_11 243 (by decide)
    have q12 := no_12 243 (by decide)
    have q13 := no_13 243 (by decide)
    have q14 := no_14 243 (by decide)
    have q15 := no_15 243 (by decide)
    have q16 := no_16 243 (by decide)
    have q17 := no_17 243 (by decide)
    have q18 := no_18 243 (by decide)
    have q19 := no_19 243 (by decide)
    have q20 := no_20 243 (by decide)
    have q21 := no_21 243 (by decide)
    have q22 := no_22 243 (by decide)
    have q23 := no_23 243 (by decide)
    have q24 := no_24 243 (by decide)
    have q25 := no_25 243 (by decide)
    have q26 := no_26 243 (by decide)
    have q27 := no_27 243 (by decide)
    have q28 := no_28 243 (by decide)
    have q29 := no_29 243 (by decide)
    have q30 := no_30 243 (by decide)
    have q31 := no_31 243 (by decide)
    have q32 := no_32 243 (by decide)
    have q33 := no_33 243 (by decide)
    have q34 := no_34 243 (by decide)
    have q35 := no_35 243 (by decide)
    have q36 := no_36 243 (by decide)
    have q37 := no_37 243 (by decide)
    have q38 := no_38 243 (by decide)
    have q39 := no_39 243 (by decide)
    have q41 := no_41 243 (by decide)
    have q42 := no_42 243 (by decide)
    have q43 := yes_43
    go_enter Tryz.func17, Tryz.ntmps17
    go_wp2_with fail
    exact bodyPost_ret (v := .agg #[.int .i64 43, .string ⟨#[]⟩, .string ⟨#[]⟩, .int .u64 0, .slice none 0 0]) (by simp [results, Tryz.f17, go_sem]) rfl (back_leaf HWF.out ((Below.refl _ _).alloc (Nat.le_refl _) _))

end Go.Proofs.YtcbcdgifakcooaaGreatDoor
