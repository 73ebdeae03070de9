/-
  laws.aFile: a file with the option a, whose value is five. No conditions.
-/
import Derived.Test.YtongafghllkomaaGreatDoorGetP
import Derived.Test.YtongafghllkomaaGreatDoorGetO
namespace Go.Proofs.YtongafghllkomaaGreatDoor
open Go.RowKit
set_option linter.unusedVariables false

def varN (ao : Option Addr) : Nd := .mk 10 ⟨#[]⟩ ⟨#[]⟩ 0 ao 2 [leafN 33 ⟨#[97]⟩, fiveN]
def optN (ao ao2 : Option Addr) : Nd := .mk 12 ⟨#[]⟩ ⟨#[]⟩ 0 ao 1 [varN ao2]
def bodyN (ao ao2 ao3 : Option Addr) : Nd := .mk 1 ⟨#[]⟩ ⟨#[]⟩ 0 ao 1 [optN ao2 ao3]
def fileN (ao ao2 ao3 ao4 : Option Addr) : Nd := .mk 3 ⟨#[]⟩ ⟨#[]⟩ 0 ao 3 [Nd.none, leafN 1 ⟨#[]⟩, bodyN ao2 ao3 ao4]

theorem at1 {a x : Nd} {i : Nat} (h : [a][i]? = some x) : i = 0 ∧ x = a := by
  match i, h with
  | 0, h => exact ⟨rfl, by simpa using h.symm⟩
  | n + 1, h => simp at h
theorem at3 {a b c x : Nd} {i : Nat} (h : [a, b, c][i]? = some x) : (i = 0 ∧ x = a) ∨ (i = 1 ∧ x = b) ∨ (i = 2 ∧ x = c) := by
  match i, h with
  | 0, h => exact Or.inl ⟨rfl, by simpa using h.symm⟩
  | 1, h => exact Or.inr (Or.inl ⟨rfl, by simpa using h.symm⟩)
  | 2, h => exact Or.inr (Or.inr ⟨rfl, by simpa using h.symm⟩)
  | n + 3, h => simp at h

theorem var_fit (d : Nat) (ao : Option Addr) : FitP (d + 2) (varN ao) := by
  refine Or.inr ⟨by show (0 : Int) < 10; decide, by show (10 : Int) < 54; decide, plain_of (Or.inr trivial) (by decide), fun _ => ⟨by show (fixedL 10).length ≤ 2; decide, Or.inl (by show 2 ≤ (fixedL 10).length; decide)⟩, fun i x hx => ?_, fun h => absurd h (by show (10 : Int) ≠ 27; decide)⟩
  rcases at2 hx with ⟨rfl, rfl⟩ | ⟨rfl, rfl⟩
  · exact ⟨fun _ => by show ofClassB (leafN 33 ⟨#[97]⟩) ((fixedL 10).getD 0 (restL 10)) = true; decide, ident_fit d _ (by decide)⟩
  · exact ⟨fun _ => by show ofClassB fiveN ((fixedL 10).getD 1 (restL 10)) = true; decide, five_fit d⟩

theorem opt_fit (d : Nat) (ao ao2 : Option Addr) : FitP (d + 3) (optN ao ao2) := by
  refine Or.inr ⟨by show (0 : Int) < 12; decide, by show (12 : Int) < 54; decide, plain_of (Or.inr trivial) (by decide), fun _ => ⟨by show (fixedL 12).length ≤ 1; decide, Or.inl (by show 1 ≤ (fixedL 12).length; decide)⟩, fun i x hx => ?_, fun h => absurd h (by show (12 : Int) ≠ 27; decide)⟩
  obtain ⟨rfl, rfl⟩ := at1 hx
  exact ⟨fun _ => by show ofClassB (Nd.mk 10 ⟨#[]⟩ ⟨#[]⟩ 0 ao2 2 [leafN 33 ⟨#[97]⟩, fiveN]) ((fixedL 12).getD 0 (restL 12)) = true; rw [show (fixedL 12).getD 0 (restL 12) = 12 from by decide]; rfl, var_fit d ao2⟩

theorem body_fit (d : Nat) (ao ao2 ao3 : Option Addr) : FitP (d + 4) (bodyN ao ao2 ao3) := by
  refine Or.inr ⟨by show (0 : Int) < 1; decide, by show (1 : Int) < 54; decide, plain_of (Or.inr trivial) (by decide), fun h => absurd rfl h, fun i x hx => ?_, fun h => absurd h (by show (1 : Int) ≠ 27; decide)⟩
  obtain ⟨rfl, rfl⟩ := at1 hx
  exact ⟨fun h => absurd rfl h, opt_fit d ao2 ao3⟩

theorem list_fit (d : Nat) : FitP (d + 1) (leafN 1 ⟨#[]⟩) :=
  Or.inr ⟨by show (0 : Int) < 1; decide, by show (1 : Int) < 54; decide, plain_of (Or.inr trivial) (by decide), fun h => absurd rfl h, fun i x hx => nil_at hx, fun h => absurd h (by show (1 : Int) ≠ 27; decide)⟩

theorem file_fit (d : Nat) (ao ao2 ao3 ao4 : Option Addr) : FitP (d + 5) (fileN ao ao2 ao3 ao4) := by
  refine Or.inr ⟨by show (0 : Int) < 3; decide, by show (3 : Int) < 54; decide, plain_of (Or.inr trivial) (by decide), fun _ => ⟨by show (fixedL 3).length ≤ 3; decide, Or.inl (by show 3 ≤ (fixedL 3).length; decide)⟩, fun i x hx => ?_, fun h => absurd h (by show (3 : Int) ≠ 27; decide)⟩
  rcases at3 hx with ⟨rfl, rfl⟩ | ⟨rfl, rfl⟩ | ⟨rfl, rfl⟩
  · exact ⟨fun _ => by show ofClassB Nd.none ((fixedL 3).getD 0 (restL 3)) = true; decide, none_fit _⟩
  · exact ⟨fun _ => by show ofClassB (leafN 1 ⟨#[]⟩) ((fixedL 3).getD 1 (restL 3)) = true; decide, list_fit _⟩
  · exact ⟨fun _ => by show ofClassB (Nd.mk 1 ⟨#[]⟩ ⟨#[]⟩ 0 ao2 1 [optN ao3 ao4]) ((fixedL 3).getD 2 (restL 3)) = true; rw [show (fixedL 3).getD 2 (restL 3) = 18 from by decide]; rfl, body_fit d ao2 ao3 ao4⟩

theorem var_none (d : Nat) (ao : Option Addr) : NoneD d (varN ao) 13 := by
  cases d with
  | zero => exact trivial
  | succ d =>
    refine ⟨by show (10 : Int) ≠ 13; decide, fun i x hx => ?_⟩
    rcases at2 hx with ⟨rfl, rfl⟩ | ⟨rfl, rfl⟩
    · exact leaf_none d _ _ _ (by decide)
    · exact five_none d
theorem var_small (d : Nat) (ao : Option Addr) : SmallD d (varN ao) := by
  cases d with
  | zero => exact trivial
  | succ d =>
    refine ⟨⟨by show 2 ≤ 400; decide, Nat.le_refl 2⟩, fun i x hx => ?_⟩
    rcases at2 hx with ⟨rfl, rfl⟩ | ⟨rfl, rfl⟩
    · exact leaf_small d _ _
    · exact five_small d
theorem opt_none (d : Nat) (ao ao2 : Option Addr) : NoneD d (optN ao ao2) 13 := by
  cases d with
  | zero => exact trivial
  | succ d =>
    refine ⟨by show (12 : Int) ≠ 13; decide, fun i x hx => ?_⟩
    obtain ⟨rfl, rfl⟩ := at1 hx
    exact var_none d ao2
theorem opt_small (d : Nat) (ao ao2 : Option Addr) : SmallD d (optN ao ao2) := by
  cases d with
  | zero => exact trivial
  | succ d =>
    refine ⟨⟨by show 1 ≤ 400; decide, Nat.le_refl 1⟩, fun i x hx => ?_⟩
    obtain ⟨rfl, rfl⟩ := at1 hx
    exact var_small d ao2
theorem body_none (d : Nat) (ao ao2 ao3 : Option Addr) : NoneD d (bodyN ao ao2 ao3) 13 := by
  cases d with
  | zero => exact trivial
  | succ d =>
    refine ⟨by show (1 : Int) ≠ 13; decide, fun i x hx => ?_⟩
    obtain ⟨rfl, rfl⟩ := at1 hx
    exact opt_none d ao2 ao3
theorem body_small (d : Nat) (ao ao2 ao3 : Option Addr) : SmallD d (bodyN ao ao2 ao3) := by
  cases d with
  | zero => exact trivial
  | succ d =>
    refine ⟨⟨by show 1 ≤ 400; decide, Nat.le_refl 1⟩, fun i x hx => ?_⟩
    obtain ⟨rfl, rfl⟩ := at1 hx
    exact opt_small d ao2 ao3

theorem file_good (ao ao2 ao3 ao4 : Option Addr) : GoodD 12 (fileN ao ao2 ao3 ao4) := by
  refine ⟨file_fit 7 ao ao2 ao3 ao4, ⟨by show (3 : Int) ≠ 13; decide, fun i x hx => ?_⟩, ⟨⟨by show 3 ≤ 400; decide, Nat.le_refl 3⟩, fun i x hx => ?_⟩, by show (3 : Int) ∈ walkL; decide⟩
  · rcases at3 hx with ⟨rfl, rfl⟩ | ⟨rfl, rfl⟩ | ⟨rfl, rfl⟩
    · exact leaf_none 11 0 ⟨#[]⟩ 13 (by decide)
    · exact leaf_none 11 1 ⟨#[]⟩ 13 (by decide)
    · exact body_none 11 ao2 ao3 ao4
  · rcases at3 hx with ⟨rfl, rfl⟩ | ⟨rfl, rfl⟩ | ⟨rfl, rfl⟩
    · exact leaf_small 11 0 ⟨#[]⟩
    · exact leaf_small 11 1 ⟨#[]⟩
    · exact body_small 11 ao2 ao3 ao4

theorem file_stmts (ao ao2 ao3 ao4 : Option Addr) : StmtsP ((fileN ao ao2 ao3 ao4).kid 2).kids := by
  intro i s hs
  obtain ⟨rfl, rfl⟩ := at1 (show [optN ao3 ao4][i]? = some s from hs)
  exact ⟨by show (12 : Int) ∈ stmtL; decide, fun _ => ⟨varN ao4, leafN 33 ⟨#[97]⟩, fiveN, rfl, rfl, rfl, rfl, by show (36 : Int) ≠ 0; decide⟩⟩

/-- What aFile hands back. -/
def FilePost (w : World) (e : Ending) (w' : World) : Prop := ∃ ao ao2 ao3 ao4, e = .returned (.agg #[.int .i64 3, .string ⟨#[]⟩, .string ⟨#[]⟩, .int .u64 0, .slice ao 3 3]) ∧ LiesD 5 w' (fileN ao ao2 ao3 ao4) ∧ Below w.heap.size w w'
theorem aFile_any (w : World) : Calls Tryz.prog 18 #[] w (FilePost w) := by
  go_enter Tryz.func18, Tryz.ntmps18
  go_wp2_with fail
  refine (tree_any 1 ⟨#[]⟩ none 0 0 _).mono ?_
  rintro e w1 ⟨rfl, hb1⟩
  have HZ1 := Lib.hid hb1
  have hz1 : w.heap.size < w1.heap.size := by have := hb1.size; simp at this; omega
  clear hb1
  go_wp2_with fail
  refine (tree_any 33 ⟨#[97]⟩ none 0 0 _).mono ?_
  rintro e w2 ⟨rfl, hb2⟩
  have HZ2 := Lib.hid (HZ1.out.trans (hb2.mono HZ1.out.size))
  have hz2 : w.heap.size < w2.heap.size := by have := hb2.size; omega
  clear hb2
  go_wp2_with fail
  refine (five_any _).mono ?_
  rintro e w3 ⟨rfl, hb3⟩
  have HZ3 := Lib.hid (HZ2.out.trans (hb3.mono HZ2.out.size))
  have hz3 : w.heap.size < w3.heap.size := by have := hb3.size; omega
  clear hb3
  unfold fiveN Nd.val
  simp only [Nd.kind, Nd.text, Nd.more, Nd.num, Nd.ao, Nd.kids, Nd.cap, List.length_nil]
  go_wp2_with fail
  refine (tree_any 10 ⟨#[]⟩ (some ⟨w3.heap.size, 0, none⟩) 2 2 _).mono ?_
  rintro e w4 ⟨rfl, hb4⟩
  have HV := Lib.hid (LiesIn.below (lies_row (A := From (w.heap.size + 1)) (w := w3) (D := 1) (k := 10) (t := ⟨#[]⟩) (mo := ⟨#[]⟩) (u := 0) (cap := 2) (ms := [leafN 33 ⟨#[97]⟩, fiveN]) (T := 25) (wf_plain (by decide) (by show 2 ≤ maxLen; decide)) (by unfold From; omega) (fun x hx => by
    simp only [List.mem_cons, List.not_mem_nil, or_false] at hx
    rcases hx with rfl | rfl
    · exact leaf_lies _ 33 ⟨#[97]⟩ w3 (by decide) (by decide)
    · exact five_in _ w3) ) hb4)
  have HZ4 := Lib.hid ((HZ3.out.alloc HZ3.out.size (.cells #[.int .i64 33, .string ⟨#[97]⟩, .string ⟨#[]⟩, .int .u64 0, .slice none 0 0, .int .i64 36, .string ⟨#[]⟩, .string ⟨#[]⟩, .int .u64 5, .slice none 0 0] 25)).trans (hb4.mono (by simp; omega)))
  have hz4 : w.heap.size < w4.heap.size := by have := hb4.size; simp at this; omega
  clear hb4
  go_wp2_with fail
  refine (tree_any 12 ⟨#[]⟩ (some ⟨w4.heap.size, 0, none⟩) 1 1 _).mono ?_
  rintro e w5 ⟨rfl, hb5⟩
  have HO := Lib.hid (LiesIn.below (lies_row (A := From (w.heap.size + 1)) (w := w4) (D := 2) (k := 12) (t := ⟨#[]⟩) (mo := ⟨#[]⟩) (u := 0) (cap := 1) (ms := [varN (some ⟨w3.heap.size, 0, none⟩)]) (T := 25) (wf_plain (by decide) (by show 1 ≤ maxLen; decide)) (by unfold From; omega) (fun x hx => by
    simp only [List.mem_cons, List.not_mem_nil, or_false] at hx
    subst hx
    exact HV.out) ) hb5)
  have HZ5 := Lib.hid ((HZ4.out.alloc HZ4.out.size (.cells #[.int .i64 10, .string ⟨#[]⟩, .string ⟨#[]⟩, .int .u64 0, .slice (some ⟨w3.heap.size, 0, none⟩) 2 2] 25)).trans (hb5.mono (by simp; omega)))
  have hz5 : w.heap.size < w5.heap.size := by have := hb5.size; simp at this; omega
  clear hb5
  go_wp2_with fail
  refine (tree_any 1 ⟨#[]⟩ (some ⟨w5.heap.size, 0, none⟩) 1 1 _).mono ?_
  rintro e w6 ⟨rfl, hb6⟩
  have HBd := Lib.hid (LiesIn.below (lies_row (A := From (w.heap.size + 1)) (w := w5) (D := 3) (k := 1) (t := ⟨#[]⟩) (mo := ⟨#[]⟩) (u := 0) (cap := 1) (ms := [optN (some ⟨w4.heap.size, 0, none⟩) (some ⟨w3.heap.size, 0, none⟩)]) (T := 25) (wf_plain (by decide) (by show 1 ≤ maxLen; decide)) (by unfold From; omega) (fun x hx => by
    simp only [List.mem_cons, List.not_mem_nil, or_false] at hx
    subst hx
    exact HO.out) ) hb6)
  have HZ6 := Lib.hid ((HZ5.out.alloc HZ5.out.size (.cells #[.int .i64 12, .string ⟨#[]⟩, .string ⟨#[]⟩, .int .u64 0, .slice (some ⟨w4.heap.size, 0, none⟩) 1 1] 25)).trans (hb6.mono (by simp; omega)))
  have hz6 : w.heap.size < w6.heap.size := by have := hb6.size; simp at this; omega
  clear hb6
  go_wp2_with fail
  refine (tree_any 3 ⟨#[]⟩ (some ⟨w6.heap.size, 0, none⟩) 3 3 _).mono ?_
  rintro e w7 ⟨rfl, hb7⟩
  have HF := Lib.hid (LiesIn.below (lies_row (A := From (w.heap.size + 1)) (w := w6) (D := 4) (k := 3) (t := ⟨#[]⟩) (mo := ⟨#[]⟩) (u := 0) (cap := 3) (ms := [Nd.none, leafN 1 ⟨#[]⟩, bodyN (some ⟨w5.heap.size, 0, none⟩) (some ⟨w4.heap.size, 0, none⟩) (some ⟨w3.heap.size, 0, none⟩)]) (T := 25) (wf_plain (by decide) (by show 3 ≤ maxLen; decide)) (by unfold From; omega) (fun x hx => by
    simp only [List.mem_cons, List.not_mem_nil, or_false] at hx
    rcases hx with rfl | rfl | rfl
    · exact (leaf_lies _ 0 ⟨#[]⟩ w6 (by decide) (by decide)).up (by omega)
    · exact (leaf_lies _ 1 ⟨#[]⟩ w6 (by decide) (by decide)).up (by omega)
    · exact HBd.out) ) hb7)
  have HZ7 := Lib.hid ((HZ6.out.alloc HZ6.out.size (.cells #[.int .i64 0, .string ⟨#[]⟩, .string ⟨#[]⟩, .int .u64 0, .slice none 0 0, .int .i64 1, .string ⟨#[]⟩, .string ⟨#[]⟩, .int .u64 0, .slice none 0 0, .int .i64 1, .string ⟨#[]⟩, .string ⟨#[]⟩, .int .u64 0, .slice (some ⟨w5.heap.size, 0, none⟩) 1 1] 25)).trans (hb7.mono (by simp; omega)))
  have hz7 : w.heap.size < w7.heap.size := by have := hb7.size; simp at this; omega
  obtain ⟨k7, f7⟩ := bblk HZ7.out (b := w.heap.size) (by simp)
  have HB7 := Lib.hid (((Below.refl w.heap.size w).alloc (Nat.le_refl _) (.cells #[.int .i64 0, .string ⟨#[]⟩, .string ⟨#[]⟩, .int .u64 0, .slice none 0 0] 25)).trans (HZ7.out.mono (by simp)))
  clear hb7
  go_wp2_with fail
  refine bodyPost_ret (v := .agg #[.int .i64 3, .string ⟨#[]⟩, .string ⟨#[]⟩, .int .u64 0, .slice (some ⟨w6.heap.size, 0, none⟩) 3 3]) (by simp [results, Tryz.f18, go_sem, k7]) rfl ⟨some ⟨w6.heap.size, 0, none⟩, some ⟨w5.heap.size, 0, none⟩, some ⟨w4.heap.size, 0, none⟩, some ⟨w3.heap.size, 0, none⟩, rfl, ?_, ?_⟩
  · exact (HF.out.store5 (by omega) _ _ _ _ _).lies
  · exact ((((HB7.out.setCell (p := ⟨w.heap.size, 0, none⟩) (by simp) _).setCell (p := ⟨w.heap.size, 1, none⟩) (by simp) _).setCell (p := ⟨w.heap.size, 2, none⟩) (by simp) _).setCell (p := ⟨w.heap.size, 3, none⟩) (by simp) _).setCell (p := ⟨w.heap.size, 4, none⟩) (by simp) _
end Go.Proofs.YtongafghllkomaaGreatDoor
