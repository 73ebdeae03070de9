/-
  node at the kinds 4 (a package's clause), 41 and 42. No conditions.
-/
import Derived.Test.YtdljkanfebndaaaGreatDoorOrNone
import Derived.Test.YtdljkanfebndaaaGreatDoorTests
import Derived.Deep.RegionHeld3
import Derived.Deep.QuietTactic
import Derived.BigQuiet
import Derived.Deep.RegionWith
namespace Go.Proofs.YtdljkanfebndaaaGreatDoor
open Go.RowKit
set_option linter.unusedVariables false
set_option linter.unusedSimpArgs false

set_option maxRecDepth 100000 in
set_option maxHeartbeats 2000000 in
theorem nd_4 (d : Nat) (hN : NodeC d) (e : Nat) (A : Nat → Prop) (n : Nd) (b : Nat) (w : World) (hG : PreD (e + 1) n) (hW : WfN n) (hR : RepD A (d + 1) w n b) (hk : n.kind = 4) :
    Calls Tryz.prog 27 #[.iface (pTy n.kind) (.pointer (some ⟨b, 0, none⟩))] w (NodePost n w) := by
  obtain ⟨k, t, m, u, ao, cap, kids⟩ := n
  obtain rfl : k = 4 := hk
  have hn0 : (Nd.mk 4 t m u ao cap kids).kind ≠ 0 := by show (4 : Int) ≠ 0; decide
  have hn1 : (Nd.mk 4 t m u ao cap kids).kind ≠ 1 := by show (4 : Int) ≠ 1; decide
  have hPl := (hG.fit hn0).2.2.1
  have HWF := Lib.hid hW.wf
  obtain rfl : t = ⟨#[]⟩ := hPl.1 (show hasText 4 = false by decide)
  obtain rfl : u = 0 := hPl.2.1 (show hasNum 4 = false by decide)
  obtain rfl : m = ⟨#[]⟩ := hPl.2.2.1 (show (4 : Int) ≠ 2 by decide) (show (4 : Int) ≠ 3 by decide)
  have hln : kids.length = 1 := by
    have h1 := ((hG.fit hn0).2.2.2.1 hn1)
    have e1 : (fixedL 4).length = 1 := by decide
    have e2 : restL 4 = 28 := by decide
    simp only [Nd.kind, Nd.kids] at h1
    rw [e1, e2] at h1
    omega
  obtain ⟨x0, rfl⟩ : ∃ x0, kids = [x0] := kids1 (n := Nd.mk 4 ⟨#[]⟩ ⟨#[]⟩ 0 ao cap kids) hln
  obtain ⟨hP0, hC0⟩ := hG.kid (i := 0) (x := x0) hn0 rfl
  have hf0 : x0.kind ∈ ([33] : List Int) := class_few [33] rfl (hC0 hn1)
  have hk0 : x0.kind = 33 := by
    have h := hf0
    simp at h
    omega
  have hw0 : x0.kind ∈ walkL := by rw [hk0]; decide
  have HG0 := Lib.hid (show GoodW e x0 from ⟨hP0.good hw0, hW.kid (i := 0) rfl⟩)
  have HK0 := Lib.hid hk0
  obtain ⟨hA, cs, hb, hs⟩ := hR
  rw [slots_4 _ rfl] at hs
  match cs, hs with
  | [v0, v1, v2, v3], ⟨e0, e1, e2, e3, _⟩ =>
    obtain ⟨b0, rfl, hR0⟩ := (show PtrTo (RepD A d) w x0 v3 from e3)
    have HR0 := Lib.hid hR0
    have c3 : w.cell? ⟨b, 3, none⟩ = some (.pointer (some ⟨b0, 0, none⟩)) := by rw [Lib.cell_of_heap hb]; rfl
    have hblt : b < w.heap.size := World.block_lt_of_cell? _ _ c3
    have hbne : ¬ b = w.heap.size := by omega
    have hbne2 : ¬ w.heap.size = b := by omega
    rw [show pTy (Nd.kind (.mk 4 ⟨#[]⟩ ⟨#[]⟩ 0 ao cap [x0])) = 83 from ptrTy_4]
    clear hn0 hn1 hPl hln hG hW hA hb hP0 hC0
    have q2 := no_2 83 (by decide)
    have q3 := no_3 83 (by decide)
    have q4 := yes_4
    go_enter Tryz.func27, Tryz.ntmps27
    go_wp2_with fail
    (go_at_call 54; refine (orNone_33 d hN e A x0 b0 _ HG0.out (by first | exact HR0.out.below ((Below.refl _ _).alloc (Nat.le_refl _) _) | exact HR0.out.below (Below.drew ((Below.refl _ _).alloc (Nat.le_refl _) _))) HK0.out).mono ?_; rintro e c0w ⟨E0, m0, rfl, hS0, hl0, hb0⟩; have HZ0 : Below (w.alloc zN).heap.size (w.alloc zN) c0w := (by first | exact hb0 | exact (Below.drew (Below.refl _ _)).trans (hb0.mono (by simp))); have HY0 : Below w.heap.size w c0w := ((Below.refl w.heap.size w).alloc (Nat.le_refl _) zN).trans (HZ0.mono (by simp)); have hz0 : w.heap.size < c0w.heap.size := (by have := Below.size HZ0; (try simp at this); omega); obtain ⟨kb0, -⟩ := bblk hb0 (b := b) (by first | omega | (simp; omega)); obtain ⟨ka0, fa0⟩ := bblk hb0 (b := w.heap.size) (by first | omega | (simp; done) | (simp; omega)))
    go_wp2_with fail
    refine bodyPost_ret (v := .agg #[.int .i64 4, .string ⟨#[]⟩, .string ⟨#[]⟩, .int .u64 0, .slice (some ⟨c0w.heap.size, 0, none⟩) 1 1]) (by simp [results, Tryz.f27, go_sem, ka0, hz0, Nat.ne_of_lt hz0]) rfl (NodePost.stored2 _ _ _ _ _ HZ0 (back_fin [m0] rfl HWF.out HZ0 rfl ?_))
    intro i x y hx hy
    match i with
    | 0 => simp at hx hy; subst hx hy; exact ⟨E0, hS0, (hl0.mono (From.le (by first | exact Nat.le_refl _ | omega | (simp; omega) | (have := Below.size HZ0; simp; omega) | (have := Below.size HZ0; simp at this ⊢; omega))))⟩
    | _ + 1 => simp at hx



theorem regexStr (br : Nat) (t : ByteArray) (w : World) (hc : w.cell? ⟨br, 0, none⟩ = some (.string t)) :
    Calls Tryz.prog 69 #[.pointer (some ⟨br, 0, none⟩)] w fun e w' => e = .returned (.string t) ∧ w = w' := by
  go_enter Tryz.func69, Tryz.ntmps69
  go_wp2_with fail
  go_ret
  exact ⟨rfl, rfl⟩

theorem num41 (u : Int) (h1 : 0 ≤ u) (h2 : u < 18446744073709551616) : IntKind.u64.wrap (IntKind.i64.wrap (IntKind.i64.wrap (secOf u * 1000000000) + nsecOf u)) = u := by
  simp only [IntKind.wrap, IntKind.bits, IntKind.signed]
  unfold secOf nsecOf wrap64
  simp
  omega

set_option maxRecDepth 100000 in
set_option maxHeartbeats 2000000 in
theorem nd_41 (d : Nat) (hN : NodeC d) (e : Nat) (A : Nat → Prop) (n : Nd) (b : Nat) (w : World) (hG : PreD (e + 1) n) (hW : WfN n) (hR : RepD A (d + 1) w n b) (hk : n.kind = 41) :
    Calls Tryz.prog 27 #[.iface (pTy n.kind) (.pointer (some ⟨b, 0, none⟩))] w (NodePost n w) := by
  obtain ⟨k, t, m, u, ao, cap, kids⟩ := n
  obtain rfl : k = 41 := hk
  have hn0 : (Nd.mk 41 t m u ao cap kids).kind ≠ 0 := by show (41 : Int) ≠ 0; decide
  have hn1 : (Nd.mk 41 t m u ao cap kids).kind ≠ 1 := by show (41 : Int) ≠ 1; decide
  have hPl := (hG.fit hn0).2.2.1
  have HWF := Lib.hid hW.wf
  obtain rfl : t = ⟨#[]⟩ := hPl.1 (show hasText 41 = false by decide)
  obtain rfl : m = ⟨#[]⟩ := hPl.2.2.1 (show (41 : Int) ≠ 2 by decide) (show (41 : Int) ≠ 3 by decide)
  have hln : kids.length = 0 := by
    have h1 := ((hG.fit hn0).2.2.2.1 hn1)
    have e1 : (fixedL 41).length = 0 := by decide
    have e2 : restL 41 = 28 := by decide
    simp only [Nd.kind, Nd.kids] at h1
    rw [e1, e2] at h1
    omega
  obtain rfl : kids = [] := List.eq_nil_of_length_eq_zero hln
  obtain ⟨hA, cs, hb, hs⟩ := hR
  rw [slots_41 _ rfl] at hs
  match cs, hs with
  | [v0, v1, v2, v3, v4, v5], ⟨e0, e1, e2, e3, e4, e5, _⟩ =>
    have c3 : w.cell? ⟨b, 3, none⟩ = some (.int .i64 (secOf u)) := by rw [Lib.cell_of_heap hb]; exact congrArg some e3
    have c4 : w.cell? ⟨b, 4, none⟩ = some (.int .i64 (nsecOf u)) := by rw [Lib.cell_of_heap hb]; exact congrArg some e4
    have c5 : w.cell? ⟨b, 5, none⟩ = some (.int .i64 0) := by rw [Lib.cell_of_heap hb]; exact congrArg some e5
    have hu1 : 0 ≤ u := HWF.out.2.2.2.1
    have hu2 : u < 18446744073709551616 := HWF.out.2.2.2.2.1
    have hblt : b < w.heap.size := (Array.getElem?_eq_some_iff.1 hb).1
    rw [show pTy (Nd.kind (.mk 41 _ _ _ ao cap [])) = 89 from ptrTy_41]
    clear hn0 hn1 hPl hln hG hW hA hb
    have q2 := no_2 89 (by decide)
    have q3 := no_3 89 (by decide)
    have q4 := no_4 89 (by decide)
    have q5 := no_5 89 (by decide)
    have q6 := no_6 89 (by decide)
    have q7 := no_7 89 (by decide)
    have q8 := no_8 89 (by decide)
    have q9 := no_9 89 (by decide)
    have q10 := no_10 89 (by decide)
    have q11 := no_11 89 (by decide)
    have q12 := no_12 89 (by decide)
    have q13 := no_13 89 (by decide)
    have q14 := no_14 89 (by decide)
    have q15 := no_15 89 (by decide)
    have q16 := no_16 89 (by decide)
    have q17 := no_17 89 (by decide)
    have q18 := no_18 89 (by decide)
    have q19 := no_19 89 (by decide)
    have q20 := no_20 89 (by decide)
    have q21 := no_21 89 (by decide)
    have q22 := no_22 89 (by decide)
    have q23 := no_23 89 (by decide)
    have q24 := no_24 89 (by decide)
    have q25 := no_25 89 (by decide)
    have q26 := no_26 89 (by decide)
    have q27 := no_27 89 (by decide)
    have q28 := no_28 89 (by decide)
    have q29 := no_29 89 (by decide)
    have q30 := no_30 89 (by decide)
    have q31 := no_31 89 (by decide)
    have q32 := no_32 89 (by decide)
    have q33 := no_33 89 (by decide)
    have q34 := no_34 89 (by decide)
    have q35 := no_35 89 (by decide)
    have q36 := no_36 89 (by decide)
    have q37 := no_37 89 (by decide)
    have q38 := no_38 89 (by decide)
    have q39 := no_39 89 (by decide)
    have q41 := yes_41
    go_enter Tryz.func27, Tryz.ntmps27
    go_wp2_with fail
    go_region_held3 (fun w' => (w'.cell? ⟨b, 3, none⟩ = some (.int .i64 (secOf u)) ∧ w'.cell? ⟨b, 4, none⟩ = some (.int .i64 (nsecOf u)))) (go_keep) (fail)
    go_wp2_with fail
    rw [num41 u hu1 hu2]
    exact bodyPost_ret (v := .agg #[.int .i64 41, .string ⟨#[]⟩, .string ⟨#[]⟩, .int .u64 u, .slice none 0 0]) (by simp [results, Tryz.f27, go_sem]) rfl (back_leaf HWF.out ((Below.refl _ _).alloc (Nat.le_refl _) _).drew)

set_option maxRecDepth 100000 in
set_option maxHeartbeats 2000000 in
theorem nd_42 (d : Nat) (hN : NodeC d) (e : Nat) (A : Nat → Prop) (n : Nd) (b : Nat) (w : World) (hG : PreD (e + 1) n) (hW : WfN n) (hR : RepD A (d + 1) w n b) (hk : n.kind = 42) :
    Calls Tryz.prog 27 #[.iface (pTy n.kind) (.pointer (some ⟨b, 0, none⟩))] w (NodePost n w) := by
  obtain ⟨k, t, m, u, ao, cap, kids⟩ := n
  obtain rfl : k = 42 := hk
  have hn0 : (Nd.mk 42 t m u ao cap kids).kind ≠ 0 := by show (42 : Int) ≠ 0; decide
  have hn1 : (Nd.mk 42 t m u ao cap kids).kind ≠ 1 := by show (42 : Int) ≠ 1; decide
  have hPl := (hG.fit hn0).2.2.1
  have HWF := Lib.hid hW.wf
  obtain rfl : u = 0 := hPl.2.1 (show hasNum 42 = false by decide)
  obtain rfl : m = ⟨#[]⟩ := hPl.2.2.1 (show (42 : Int) ≠ 2 by decide) (show (42 : Int) ≠ 3 by decide)
  have hln : kids.length = 0 := by
    have h1 := ((hG.fit hn0).2.2.2.1 hn1)
    have e1 : (fixedL 42).length = 0 := by decide
    have e2 : restL 42 = 28 := by decide
    simp only [Nd.kind, Nd.kids] at h1
    rw [e1, e2] at h1
    omega
  obtain rfl : kids = [] := List.eq_nil_of_length_eq_zero hln
  obtain ⟨hA, cs, hb, hs⟩ := hR
  rw [slots_42 _ rfl] at hs
  match cs, hs with
  | [v0, v1, v2, v3], ⟨e0, e1, e2, e3, _⟩ =>
    obtain ⟨br, -, rfl, hbr⟩ := e3
    have c3 : w.cell? ⟨b, 3, none⟩ = some (.pointer (some ⟨br, 0, none⟩)) := by rw [Lib.cell_of_heap hb]; rfl
    have d0 : w.cell? ⟨br, 0, none⟩ = some (.string t) := by rw [Lib.cell_of_heap hbr]; rfl
    have hbr2 : br < w.heap.size := World.block_lt_of_cell? _ _ d0
    have hblt : b < w.heap.size := (Array.getElem?_eq_some_iff.1 hb).1
    rw [show pTy (Nd.kind (.mk 42 _ _ _ ao cap [])) = 57 from ptrTy_42]
    clear hn0 hn1 hPl hln hG hW hA hb
    have q2 := no_2 57 (by decide)
    have q3 := no_3 57 (by decide)
    have q4 := no_4 57 (by decide)
    have q5 := no_5 57 (by decide)
    have q6 := no_6 57 (by decide)
    have q7 := no_7 57 (by decide)
    have q8 := no_8 57 (by decide)
    have q9 := no_9 57 (by decide)
    have q10 := no_10 57 (by decide)
    have q11 := no_11 57 (by decide)
    have q12 := no_12 57 (by decide)
    have q13 := no_13 57 (by decide)
    have q14 := no_14 57 (by decide)
    have q15 := no_15 57 (by decide)
    have q16 := no_16 57 (by decide)
    have q17 := no_17 57 (by decide)
    have q18 := no_18 57 (by decide)
    have q19 := no_19 57 (by decide)
    have q20 := no_20 57 (by decide)
    have q21 := no_21 57 (by decide)
    have q22 := no_22 57 (by decide)
    have q23 := no_23 57 (by decide)
    have q24 := no_24 57 (by decide)
    have q25 := no_25 57 (by decide)
    have q26 := no_26 57 (by decide)
    have q27 := no_27 57 (by decide)
    have q28 := no_28 57 (by decide)
    have q29 := no_29 57 (by decide)
    have q30 := no_30 57 (by decide)
    have q31 := no_31 57 (by decide)
    have q32 := no_32 57 (by decide)
    have q33 := no_33 57 (by decide)
    have q34 := no_34 57 (by decide)
    have q35 := no_35 57 (by decide)
    have q36 := no_36 57 (by decide)
    have q37 := no_37 57 (by decide)
    have q38 := no_38 57 (by decide)
    have q39 := no_39 57 (by decide)
    have q41 := no_41 57 (by decide)
    have q42 := yes_42
    go_enter Tryz.func27, Tryz.ntmps27
    go_wp2_with fail
    refine (regexStr br t _ (by first | exact d0 | (rw [((Below.refl w.heap.size w).alloc (Nat.le_refl _) _).cell (p := ⟨br, 0, none⟩) hbr2]; exact d0))).mono ?_
    rintro e w1 ⟨rfl, rfl⟩
    go_wp2_with fail
    exact bodyPost_ret (v := .agg #[.int .i64 42, .string t, .string ⟨#[]⟩, .int .u64 0, .slice none 0 0]) (by simp [results, Tryz.f27, go_sem]) rfl (back_leaf HWF.out ((Below.refl _ _).alloc (Nat.le_refl _) _))

end Go.Proofs.YtdljkanfebndaaaGreatDoor
