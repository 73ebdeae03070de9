/-
  The tables of the trees' specification: the classes' kinds, and the shapes of the kinds. No conditions but that the number is one of 64 bits.
-/
import Derived.Test.YtcbcdgifakcooaaGreatDoorMap
namespace Go.Proofs.YtcbcdgifakcooaaGreatDoor
open Go.RowKit
set_option linter.unusedVariables false
theorem undM : Tryz.prog.underlying 365 = some (.map 3 291) := by kernel_rfl
theorem undMI : Tryz.prog.underlying 366 = some (.map 3 3) := by kernel_rfl
theorem zeroSl (w : World) : (zeroValue 291).run Tryz.prog w = .ok (.slice none 0 0) w := by kernel_rfl
theorem zeroI (w : World) : (zeroValue 3).run Tryz.prog w = .ok (.int .i64 0) w := by kernel_rfl

theorem SlMap.bel {w0 w : World} {b : Nat} {t : List (Int × List Int)} (h : SlMap w0 w b t) : Below w0.heap.size w0 w := by
  obtain ⟨_, _, hV, _⟩ := h
  exact hV.1

theorem VMap.bel {w0 w : World} {b : Nat} {t : List (Int × Value)} (h : VMap w0 w b t) : Below w0.heap.size w0 w := h.1

theorem look_bound (c : Int) : 0 ≤ lookI restTab c ∧ lookI restTab c ≤ 28 := by
  have : ∀ (t : List (Int × Int)) (z : Int), (0 ≤ z ∧ z ≤ 28) → (∀ p ∈ t, 0 ≤ p.2 ∧ p.2 ≤ 28) → 0 ≤ t.foldl (fun acc p => if p.1 = c then p.2 else acc) z ∧ t.foldl (fun acc p => if p.1 = c then p.2 else acc) z ≤ 28 := by
    intro t
    induction t with
    | nil => intro z hz _; exact hz
    | cons p t ih =>
      intro z hz h
      refine ih _ ?_ (fun q hq => h q (List.mem_cons_of_mem _ hq))
      show 0 ≤ (if p.1 = c then p.2 else z) ∧ (if p.1 = c then p.2 else z) ≤ 28
      by_cases hp : p.1 = c
      · rw [if_pos hp]; exact h p (List.mem_cons_self ..)
      · rw [if_neg hp]; exact hz
  exact this restTab 0 (by omega) (by decide)

/-- A slice of these integers is handed back, and what there was is as it was. -/
def RetInts (zs : List Int) (w : World) (e : Ending) (w' : World) : Prop := ∃ ao cap, e = .returned (.slice ao zs.length cap) ∧ IntsIn ao zs w' ∧ Below w.heap.size w w'
/-- Likewise with a number. -/
def RetShape (zs : List Int) (r : Int) (w : World) (e : Ending) (w' : World) : Prop := ∃ ao cap, e = .returned (.tuple #[.slice ao zs.length cap, .int .i64 r]) ∧ IntsIn ao zs w' ∧ Below w.heap.size w w'

set_option maxHeartbeats 2000000 in
set_option maxRecDepth 100000 in
theorem classKinds_any (c : Int) (w : World) (hc : (Lit.int .i64 c).wf = true) :
    Calls Tryz.prog 146 #[.int .i64 c] w (RetInts (classL c) w) := by
  have hmm := @run_makeMap Tryz.prog
  have h0 := SlMap.made w
  go_enter Tryz.func146, Tryz.ntmps146
  go_wp2_with (first | (rename SlMap _ _ _ _ => hS; refine wpList_insert_sl hS rfl _ _ _ 365 rfl 291 undM (by simp) rfl _ rfl rfl _ rfl (by first | rfl | simp) ?_ ?_; (next => decide); intro w1 h1; clear hS) | (refine wpList_lookup_sl classTab ‹SlMap _ _ _ _› rfl rfl _ _ 365 rfl 291 undM (zeroSl _) rfl c rfl hc ?_; intro ao cap hI))
  go_ret
  exact ⟨_, _, rfl, hI, SlMap.bel ‹_›⟩

set_option maxHeartbeats 8000000 in
set_option maxRecDepth 100000 in
theorem shape_any (c : Int) (w : World) (hc : (Lit.int .i64 c).wf = true) :
    Calls Tryz.prog 79 #[.int .i64 c] w (RetShape (fixedL c) (restL c) w) := by
  have hmm := @run_makeMap Tryz.prog
  have h0 := SlMap.made w
  have hr : restL c = if lookI restTab c = 0 then 28 else lookI restTab c - 1 := rfl
  have HR := Lib.hid hr
  clear hr
  have hb1 := (look_bound c).1
  have hb2 := (look_bound c).2
  go_enter Tryz.func79, Tryz.ntmps79
  iterate 13 go_step
  simp only [List.append_eq, List.cons_append, List.nil_append]
  go_wp2_with (first | (rename SlMap _ _ _ _ => hS; refine wpList_insert_sl hS rfl _ _ _ 365 rfl 291 undM (by simp) rfl _ rfl rfl _ rfl (by first | rfl | simp) ?_ ?_; (next => decide); intro w1 h1; clear hS) | (refine wpList_lookup_sl fixedTab ‹SlMap _ _ _ _› rfl rfl _ _ 365 rfl 291 undM (zeroSl _) rfl c rfl hc ?_; intro ao cap hI) | (rename VMap _ _ _ _ => hS; refine wpList_insert_v rfl _ _ _ 366 rfl 3 undMI _ _ hS (by simp) rfl _ _ rfl rfl ?_ ?_; (next => decide); intro w1 h1; clear hS) | (refine wpList_insert_v rfl _ _ _ 366 rfl 3 undMI _ _ (VMap.made _) (by simp) rfl _ _ rfl rfl ?_ ?_; (next => decide); intro w1 h1) | (refine wpList_lookup_i restTab ‹VMap _ _ _ _› rfl rfl _ _ 366 rfl 3 undMI (zeroI _) rfl c rfl hc ?_))
  · have hz : lookI restTab c = 0 := by simpa using ‹(lookI restTab c == 0) = true›
    go_ret2
    have e := HR.out
    rw [if_pos hz] at e
    unfold RetShape
    rw [e]
    exact ⟨_, _, rfl, hI.below (VMap.bel ‹_›), (SlMap.bel ‹_›).trans ((VMap.bel ‹_›).mono (SlMap.bel ‹_›).size)⟩
  · have hz : ¬ lookI restTab c = 0 := by simpa using ‹(lookI restTab c == 0) = false›
    go_ret2
    have e := HR.out
    rw [if_neg hz] at e
    unfold RetShape
    rw [e]
    exact ⟨_, _, rfl, hI.below (VMap.bel ‹_›), (SlMap.bel ‹_›).trans ((VMap.bel ‹_›).mono (SlMap.bel ‹_›).size)⟩
end Go.Proofs.YtcbcdgifakcooaaGreatDoor
