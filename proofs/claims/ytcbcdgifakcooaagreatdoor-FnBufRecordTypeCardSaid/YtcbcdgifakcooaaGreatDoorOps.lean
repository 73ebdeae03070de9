/-
  Classes of nodes at this seat's numbers: listOf and ofClass answer as the plain definition does. No conditions.
  Operators at this seat's numbers: how each is written, which is written so, and the specification's own numbers. No conditions.
-/
import Derived.Test.YtcbcdgifakcooaaGreatDoorShape
import Derived.Deep.RegionWith
import Derived.IntWalk
import Derived.Test.YtcbcdgifakcooaaGreatDoorMap
import Derived.WalkKit
import Derived.Lib.Hide
import Derived.BigQuiet
import Derived.Lib.QuietBelow
import Derived.Lib.SlBytesRow
import Derived.Lib.Builder
namespace Go.Proofs.YtcbcdgifakcooaaGreatDoor
open Go.RowKit
set_option linter.unusedVariables false

theorem class_small (c : Int) (x : Nd) (h0 : c ≠ 0) (h1 : c ≠ 1) (h2 : c ≠ 2) (h3 : c ≠ 7) (h4 : c ≠ 8) (h5 : c ≠ 16) (h6 : c ≠ 17) (h7 : c ≠ 18) : ofClassB x c = inB x.kind (classL c) := by
  unfold ofClassB inB
  simp [h0, h1, h2, h3, h4, h5, h6, h7]

theorem class_len (c : Int) : (classL c).length ≤ 2 := by
  have : ∀ (t : List (Int × List Int)) (z : List Int), z.length ≤ 2 → (∀ p ∈ t, p.2.length ≤ 2) → (t.foldl (fun acc p => if p.1 = c then p.2 else acc) z).length ≤ 2 := by
    intro t
    induction t with
    | nil => intro z hz _; exact hz
    | cons p t ih =>
      intro z hz h
      refine ih _ ?_ (fun q hq => h q (List.mem_cons_of_mem _ hq))
      show (if p.1 = c then p.2 else z).length ≤ 2
      by_cases hp : p.1 = c
      · rw [if_pos hp]; exact h p (List.mem_cons_self ..)
      · rw [if_neg hp]; exact hz
  exact this classTab [] (by decide) (by decide)

/-- Classes that have few kinds. -/
theorem ofClass_small (c : Int) (n : Nd) (w : World) (hc : 3 ≤ c ∧ c ≤ 28) (h3 : c ≠ 7) (h4 : c ≠ 8) (h5 : c ≠ 16) (h6 : c ≠ 17) (h7 : c ≠ 18) :
    Calls Tryz.prog 80 #[n.val, .int .i64 c] w fun e w' => e = .returned (.bool (ofClassB n c)) ∧ Below w.heap.size w w' := by
  obtain ⟨k, t, m, u, ao, cap, kids⟩ := n
  have HB := Lib.hid (class_small c (.mk k t m u ao cap kids) (by omega) (by omega) (by omega) h3 h4 h5 h6 h7)
  show Calls _ _ #[.agg #[.int .i64 k, .string t, .string m, .int .u64 u, .slice ao kids.length cap], _] w _
  have d0 : (c == 0) = false := by simpa using (show c ≠ 0 by omega)
  have d1 : (c == 1) = false := by simpa using (show c ≠ 1 by omega)
  have d2 : (c == 2) = false := by simpa using (show c ≠ 2 by omega)
  have d7 : (c == 7) = false := by simpa using h3
  have d8 : (c == 8) = false := by simpa using h4
  have d16 : (c == 16) = false := by simpa using h5
  have d17 : (c == 17) = false := by simpa using h6
  have d18 : (c == 18) = false := by simpa using h7
  have hwf : (Lit.int .i64 c).wf = true := WalkArith.wf_i64 (by omega)
  have HW := Lib.hid hwf
  have HL := Lib.hid (class_len c)
  clear hc h3 h4 h5 h6 h7 hwf
  go_enter Tryz.func80, Tryz.ntmps80
  go_wp2_with fail
  go_region_with (first | (go_at_call 146; refine (classKinds_any _ _ HW.out).mono ?_; rintro e w3 ⟨ao3, cap3, rfl, hs3, hb3⟩; have hz3 : w.heap.size < w3.heap.size := (by have := hb3.size; simp at this; omega); obtain ⟨k2, -⟩ := bblk hb3 (b := w.heap.size) (by simp)) | (go_at_call 135; refine (in_any _ _ (classL c) _ _ _ rfl (by have := HL.out; omega) ‹IntsIn _ _ _›).mono ?_; rintro e w4 ⟨rfl, rfl⟩))
  all_goals
    go_wp2_with fail
    go_ret
    refine ⟨ret_bool HB.out.symm, ?_⟩
    first | exact (((Below.refl w.heap.size w).alloc (Nat.le_refl _) _).trans (hb3.mono (by simp))) | exact ((((Below.refl w.heap.size w).alloc (Nat.le_refl _) _).drew).trans (hb3.mono (by simp)))

/-- A list of nodes of a class. -/
def listB (n : Nd) (c : Int) : Bool := (n.kind == 1) && n.kids.all (fun x => ofClassB x c)

theorem listOf_any (c : Int) (hC : ∀ (x : Nd) (w : World), Calls Tryz.prog 80 #[x.val, .int .i64 c] w fun e w' => e = .returned (.bool (ofClassB x c)) ∧ Below w.heap.size w w') (d : Nat) (n : Nd) (w : World) (hL : LiesD (d + 1) w n) :
    Calls Tryz.prog 144 #[n.val, .int .i64 c] w fun e w' => e = .returned (.bool (listB n c)) ∧ Below w.heap.size w w' := by
  obtain ⟨k, t, m, u, ao, cap, kids⟩ := n
  have hM := hL.len_le
  obtain ⟨len, hlen⟩ : ∃ len, kids.length = len := ⟨_, rfl⟩
  show Calls _ _ #[.agg #[.int .i64 k, .string t, .string m, .int .u64 u, .slice ao kids.length cap], _] w _
  rw [hlen]
  rw [hlen] at hM
  have HN := Lib.hid hlen
  have HL := Lib.hid hL
  have HC := Lib.hid hC
  clear hlen hL hC
  by_cases hk : k = 1
  · subst hk
    go_enter Tryz.func144, Tryz.ntmps144
    go_wp2_with fail
    go_loopg [13] len (fun gk i wr => ∃ j : Nat, j ≤ len ∧ gk = len - j ∧ i = .int .i64 (j : Int) ∧ Hid (∀ i x, i < j → kids[i]? = some x → ofClassB x c = true) ∧ Hid (Below w.heap.size w wr))
    case atStart => exact ⟨0, by omega, by omega, rfl, Lib.hid (fun i x h => by omega), Lib.hid ((Below.refl _ _).alloc (Nat.le_refl _) _)⟩
    case round =>
      obtain ⟨j, hj, rfl, rfl, hall, hB⟩ := hrel
      by_cases hjn : j < len
      · have hjz : (j : Int) < (len : Int) := by omega
        obtain ⟨x, hx⟩ : ∃ x, kids[j]? = some x := ⟨kids[j]'(by have := HN.out; omega), List.getElem?_eq_getElem _⟩
        obtain ⟨b, o, hao, c0, c1, c2, c3, c4, -⟩ := kid_cells HL.out hx hB.out
        obtain rfl : ao = some ⟨b, o, none⟩ := hao
        have HX := Lib.hid hx
        clear hx
        go_wp2_with fail
        refine (HC.out x _).mono ?_
        rintro e w1 ⟨rfl, hb1⟩
        have HB1 := Lib.hid ((hB.out.alloc hB.out.size _).trans (hb1.mono (by have := hB.out.size; simp; omega)))
        cases hcl : ofClassB x c
        · go_wp2_with fail
          go_ret
          refine ⟨ret_bool (Eq.symm ?_), HB1.out⟩
          unfold listB
          have : kids.all (fun x => ofClassB x c) = false := by
            rw [List.all_eq_false]
            exact ⟨x, List.mem_of_getElem? HX.out, by simp [hcl]⟩
          show ((1 : Int) == 1 && kids.all (fun x => ofClassB x c)) = false
          rw [this]; rfl
        · have HCL := Lib.hid hcl
          clear hcl
          go_wp2_with fail
          go_roundg (len - (j + 1))
          case measure => omega
          case rel =>
            refine ⟨j + 1, by omega, rfl, by push_cast; rfl, Lib.hid ?_, HB1⟩
            intro i y hi hy
            by_cases hij : i < j
            · exact hall.out i y hij hy
            · obtain rfl : i = j := by omega
              rw [HX.out] at hy
              cases hy
              exact HCL.out
      · have hjz : ¬ (j : Int) < (len : Int) := by omega
        obtain rfl : j = len := by omega
        go_wp2_with fail
        go_ret
        refine ⟨ret_bool (Eq.symm ?_), hB.out⟩
        show ((1 : Int) == 1 && kids.all (fun x => ofClassB x c)) = true
        have : kids.all (fun x => ofClassB x c) = true := by
          rw [List.all_eq_true]
          intro x hx
          obtain ⟨i, hi, e⟩ := List.mem_iff_getElem.1 hx
          exact hall.out i x (by have := HN.out; omega) (by rw [List.getElem?_eq_getElem hi, e])
        rw [this]; rfl
  · have d1 : (k != 1) = true := by simpa using hk
    have HK := Lib.hid hk
    clear hk
    go_enter Tryz.func144, Tryz.ntmps144
    go_wp2_with fail
    go_ret
    refine ⟨ret_bool (Eq.symm ?_), (Below.refl _ _).alloc (Nat.le_refl _) _⟩
    have : (k == 1) = false := by simpa using HK.out
    show ((k == 1) && kids.all (fun x => ofClassB x c)) = false
    rw [this]; rfl

theorem ofClass_0 (n : Nd) (w : World) : Calls Tryz.prog 80 #[n.val, .int .i64 0] w fun e w' => e = .returned (.bool (ofClassB n 0)) ∧ Below w.heap.size w w' := by
  obtain ⟨k, t, m, u, ao, cap, kids⟩ := n
  show Calls _ _ #[.agg #[.int .i64 k, .string t, .string m, .int .u64 u, .slice ao kids.length cap], _] w _
  go_enter Tryz.func80, Tryz.ntmps80
  go_wp2_with fail
  refine (isExpr_any _ _).mono ?_
  rintro e w1 ⟨rfl, hb1⟩
  go_wp2_with fail
  go_ret
  exact ⟨rfl, ((Below.refl w.heap.size w).alloc (Nat.le_refl _) _).trans (hb1.mono (by simp))⟩

theorem ofClass_1 (n : Nd) (w : World) : Calls Tryz.prog 80 #[n.val, .int .i64 1] w fun e w' => e = .returned (.bool (ofClassB n 1)) ∧ Below w.heap.size w w' := by
  obtain ⟨k, t, m, u, ao, cap, kids⟩ := n
  show Calls _ _ #[.agg #[.int .i64 k, .string t, .string m, .int .u64 u, .slice ao kids.length cap], _] w _
  go_enter Tryz.func80, Tryz.ntmps80
  go_wp2_with fail
  refine (isStmt_any _ _).mono ?_
  rintro e w1 ⟨rfl, rfl⟩
  go_wp2_with fail
  go_ret
  exact ⟨rfl, (Below.refl _ _).alloc (Nat.le_refl _) _⟩

theorem ofClass_2 (n : Nd) (w : World) : Calls Tryz.prog 80 #[n.val, .int .i64 2] w fun e w' => e = .returned (.bool (ofClassB n 2)) ∧ Below w.heap.size w w' := by
  obtain ⟨k, t, m, u, ao, cap, kids⟩ := n
  show Calls _ _ #[.agg #[.int .i64 k, .string t, .string m, .int .u64 u, .slice ao kids.length cap], _] w _
  go_enter Tryz.func80, Tryz.ntmps80
  go_wp2_with fail
  refine (isType_any _ _).mono ?_
  rintro e w1 ⟨rfl, hb1⟩
  go_wp2_with fail
  go_ret
  exact ⟨rfl, ((Below.refl w.heap.size w).alloc (Nat.le_refl _) _).trans (hb1.mono (by simp))⟩

theorem ofClass_7 (n : Nd) (w : World) : Calls Tryz.prog 80 #[n.val, .int .i64 7] w fun e w' => e = .returned (.bool (ofClassB n 7)) ∧ Below w.heap.size w w' := by
  obtain ⟨k, t, m, u, ao, cap, kids⟩ := n
  show Calls _ _ #[.agg #[.int .i64 k, .string t, .string m, .int .u64 u, .slice ao kids.length cap], _] w _
  by_cases hk : k = 6
  · subst hk
    go_enter Tryz.func80, Tryz.ntmps80
    go_wp2_with fail
    go_ret
    exact ⟨rfl, (Below.refl _ _).alloc (Nat.le_refl _) _⟩
  · have d1 : (k == 6) = false := by simpa using hk
    have HK := Lib.hid d1
    clear hk
    go_enter Tryz.func80, Tryz.ntmps80
    go_wp2_with fail
    refine (isExpr_any _ _).mono ?_
    rintro e w1 ⟨rfl, hb1⟩
    go_wp2_with fail
    go_ret
    refine ⟨ret_bool ?_, ((Below.refl w.heap.size w).alloc (Nat.le_refl _) _).trans (hb1.mono (by simp))⟩
    show isExprB k = ((k == 6) || isExprB k)
    rw [HK.out]; rfl

theorem ofClass_8 (n : Nd) (w : World) : Calls Tryz.prog 80 #[n.val, .int .i64 8] w fun e w' => e = .returned (.bool (ofClassB n 8)) ∧ Below w.heap.size w w' := by
  obtain ⟨k, t, m, u, ao, cap, kids⟩ := n
  show Calls _ _ #[.agg #[.int .i64 k, .string t, .string m, .int .u64 u, .slice ao kids.length cap], _] w _
  by_cases hk : k = 0
  · subst hk
    go_enter Tryz.func80, Tryz.ntmps80
    go_wp2_with fail
    go_ret
    exact ⟨rfl, (Below.refl _ _).alloc (Nat.le_refl _) _⟩
  · have d1 : (k == 0) = false := by simpa using hk
    have HK := Lib.hid d1
    clear hk
    go_enter Tryz.func80, Tryz.ntmps80
    go_wp2_with fail
    refine (isExpr_any _ _).mono ?_
    rintro e w1 ⟨rfl, hb1⟩
    go_wp2_with fail
    go_ret
    refine ⟨ret_bool ?_, ((Below.refl w.heap.size w).alloc (Nat.le_refl _) _).trans (hb1.mono (by simp))⟩
    show isExprB k = ((k == 0) || isExprB k)
    rw [HK.out]; rfl

theorem ofClass_16 (d : Nat) (n : Nd) (w : World) (hL : LiesD (d + 1) w n) : Calls Tryz.prog 80 #[n.val, .int .i64 16] w fun e w' => e = .returned (.bool (ofClassB n 16)) ∧ Below w.heap.size w w' := by
  have HL := Lib.hid hL
  clear hL
  obtain ⟨k, t, m, u, ao, cap, kids⟩ := n
  show Calls _ _ #[.agg #[.int .i64 k, .string t, .string m, .int .u64 u, .slice ao kids.length cap], _] w _
  go_enter Tryz.func80, Tryz.ntmps80
  go_wp2_with fail
  refine (listOf_any 21 (fun x w => ofClass_small 21 x w (by omega) (by omega) (by omega) (by omega) (by omega) (by omega)) d (.mk k t m u ao cap kids) _ (HL.out.below ((Below.refl _ _).alloc (Nat.le_refl _) _))).mono ?_
  rintro e w1 ⟨rfl, hb1⟩
  go_wp2_with fail
  go_ret
  exact ⟨rfl, ((Below.refl w.heap.size w).alloc (Nat.le_refl _) _).trans (hb1.mono (by simp))⟩

theorem ofClass_18 (d : Nat) (n : Nd) (w : World) (hL : LiesD (d + 1) w n) : Calls Tryz.prog 80 #[n.val, .int .i64 18] w fun e w' => e = .returned (.bool (ofClassB n 18)) ∧ Below w.heap.size w w' := by
  have HL := Lib.hid hL
  clear hL
  obtain ⟨k, t, m, u, ao, cap, kids⟩ := n
  show Calls _ _ #[.agg #[.int .i64 k, .string t, .string m, .int .u64 u, .slice ao kids.length cap], _] w _
  go_enter Tryz.func80, Tryz.ntmps80
  go_wp2_with fail
  refine (listOf_any 1 ofClass_1 d (.mk k t m u ao cap kids) _ (HL.out.below ((Below.refl _ _).alloc (Nat.le_refl _) _))).mono ?_
  rintro e w1 ⟨rfl, hb1⟩
  go_wp2_with fail
  go_ret
  exact ⟨rfl, ((Below.refl w.heap.size w).alloc (Nat.le_refl _) _).trans (hb1.mono (by simp))⟩

theorem ofClass_17 (d : Nat) (n : Nd) (w : World) (hL : LiesD (d + 1) w n) : Calls Tryz.prog 80 #[n.val, .int .i64 17] w fun e w' => e = .returned (.bool (ofClassB n 17)) ∧ Below w.heap.size w w' := by
  have HL := Lib.hid hL
  clear hL
  obtain ⟨k, t, m, u, ao, cap, kids⟩ := n
  show Calls _ _ #[.agg #[.int .i64 k, .string t, .string m, .int .u64 u, .slice ao kids.length cap], _] w _
  by_cases hk : k = 1
  · subst hk
    go_enter Tryz.func80, Tryz.ntmps80
    go_wp2_with fail
    refine (kidsAre_any d (.mk 1 t m u ao cap kids) 5 _ (HL.out.below ((Below.refl _ _).alloc (Nat.le_refl _) _))).mono ?_
    rintro e w1 ⟨rfl, hb1⟩
    go_wp2_with fail
    go_ret
    exact ⟨rfl, ((Below.refl w.heap.size w).alloc (Nat.le_refl _) _).trans (hb1.mono (by simp))⟩
  · have d1 : (k == 1) = false := by simpa using hk
    have HK := Lib.hid d1
    clear hk
    go_enter Tryz.func80, Tryz.ntmps80
    go_wp2_with fail
    go_ret
    refine ⟨ret_bool (Eq.symm ?_), (Below.refl _ _).alloc (Nat.le_refl _) _⟩
    show ((k == 1) && kids.all (fun x => x.kind == 5)) = false
    rw [HK.out]; rfl

theorem ofClass_any (c : Int) (hc : 0 ≤ c ∧ c ≤ 28) (d : Nat) (n : Nd) (w : World) (hL : LiesD (d + 1) w n) : Calls Tryz.prog 80 #[n.val, .int .i64 c] w fun e w' => e = .returned (.bool (ofClassB n c)) ∧ Below w.heap.size w w' := by
  by_cases h0 : c = 0
  · subst h0; exact ofClass_0 n w
  by_cases h1 : c = 1
  · subst h1; exact ofClass_1 n w
  by_cases h2 : c = 2
  · subst h2; exact ofClass_2 n w
  by_cases h7 : c = 7
  · subst h7; exact ofClass_7 n w
  by_cases h8 : c = 8
  · subst h8; exact ofClass_8 n w
  by_cases h16 : c = 16
  · subst h16; exact ofClass_16 d n w hL
  by_cases h17 : c = 17
  · subst h17; exact ofClass_17 d n w hL
  by_cases h18 : c = 18
  · subst h18; exact ofClass_18 d n w hL
  exact ofClass_small c n w (by omega) h7 h8 h16 h17 h18
end Go.Proofs.YtcbcdgifakcooaaGreatDoor

namespace Go.Proofs.YtcbcdgifakcooaaGreatDoor
open Go.RowKit
set_option linter.unusedVariables false

theorem tok_0 (w : World) : Calls Tryz.prog 84 #[.int .i64 1] w fun e w' => e = .returned (.string (op 0)) ∧ w = w' := by
  go_enter Tryz.func84, Tryz.ntmps84
  go_wp2
  go_ret
  exact ⟨rfl, rfl⟩

theorem tok_1 (w : World) : Calls Tryz.prog 84 #[.int .i64 2] w fun e w' => e = .returned (.string (op 1)) ∧ w = w' := by
  go_enter Tryz.func84, Tryz.ntmps84
  go_wp2
  go_ret
  exact ⟨rfl, rfl⟩

theorem tok_2 (w : World) : Calls Tryz.prog 84 #[.int .i64 3] w fun e w' => e = .returned (.string (op 2)) ∧ w = w' := by
  go_enter Tryz.func84, Tryz.ntmps84
  go_wp2
  go_ret
  exact ⟨rfl, rfl⟩

theorem tok_3 (w : World) : Calls Tryz.prog 84 #[.int .i64 4] w fun e w' => e = .returned (.string (op 3)) ∧ w = w' := by
  go_enter Tryz.func84, Tryz.ntmps84
  go_wp2
  go_ret
  exact ⟨rfl, rfl⟩

theorem tok_4 (w : World) : Calls Tryz.prog 84 #[.int .i64 5] w fun e w' => e = .returned (.string (op 4)) ∧ w = w' := by
  go_enter Tryz.func84, Tryz.ntmps84
  go_wp2
  go_ret
  exact ⟨rfl, rfl⟩

theorem tok_5 (w : World) : Calls Tryz.prog 84 #[.int .i64 6] w fun e w' => e = .returned (.string (op 5)) ∧ w = w' := by
  go_enter Tryz.func84, Tryz.ntmps84
  go_wp2
  go_ret
  exact ⟨rfl, rfl⟩

theorem tok_6 (w : World) : Calls Tryz.prog 84 #[.int .i64 7] w fun e w' => e = .returned (.string (op 6)) ∧ w = w' := by
  go_enter Tryz.func84, Tryz.ntmps84
  go_wp2
  go_ret
  exact ⟨rfl, rfl⟩

theorem tok_7 (w : World) : Calls Tryz.prog 84 #[.int .i64 8] w fun e w' => e = .returned (.string (op 7)) ∧ w = w' := by
  go_enter Tryz.func84, Tryz.ntmps84
  go_wp2
  go_ret
  exact ⟨rfl, rfl⟩

theorem tok_8 (w : World) : Calls Tryz.prog 84 #[.int .i64 9] w fun e w' => e = .returned (.string (op 8)) ∧ w = w' := by
  go_enter Tryz.func84, Tryz.ntmps84
  go_wp2
  go_ret
  exact ⟨rfl, rfl⟩

theorem tok_9 (w : World) : Calls Tryz.prog 84 #[.int .i64 10] w fun e w' => e = .returned (.string (op 9)) ∧ w = w' := by
  go_enter Tryz.func84, Tryz.ntmps84
  go_wp2
  go_ret
  exact ⟨rfl, rfl⟩

theorem tok_10 (w : World) : Calls Tryz.prog 84 #[.int .i64 11] w fun e w' => e = .returned (.string (op 10)) ∧ w = w' := by
  go_enter Tryz.func84, Tryz.ntmps84
  go_wp2
  go_ret
  exact ⟨rfl, rfl⟩

theorem tok_11 (w : World) : Calls Tryz.prog 84 #[.int .i64 12] w fun e w' => e = .returned (.string (op 11)) ∧ w = w' := by
  go_enter Tryz.func84, Tryz.ntmps84
  go_wp2
  go_ret
  exact ⟨rfl, rfl⟩

theorem tok_12 (w : World) : Calls Tryz.prog 84 #[.int .i64 13] w fun e w' => e = .returned (.string (op 12)) ∧ w = w' := by
  go_enter Tryz.func84, Tryz.ntmps84
  go_wp2
  go_ret
  exact ⟨rfl, rfl⟩

theorem tok_13 (w : World) : Calls Tryz.prog 84 #[.int .i64 14] w fun e w' => e = .returned (.string (op 13)) ∧ w = w' := by
  go_enter Tryz.func84, Tryz.ntmps84
  go_wp2
  go_ret
  exact ⟨rfl, rfl⟩

theorem tok_14 (w : World) : Calls Tryz.prog 84 #[.int .i64 15] w fun e w' => e = .returned (.string (op 14)) ∧ w = w' := by
  go_enter Tryz.func84, Tryz.ntmps84
  go_wp2
  go_ret
  exact ⟨rfl, rfl⟩

theorem tok_15 (w : World) : Calls Tryz.prog 84 #[.int .i64 16] w fun e w' => e = .returned (.string (op 15)) ∧ w = w' := by
  go_enter Tryz.func84, Tryz.ntmps84
  go_wp2
  go_ret
  exact ⟨rfl, rfl⟩

theorem tok_16 (w : World) : Calls Tryz.prog 84 #[.int .i64 17] w fun e w' => e = .returned (.string (op 16)) ∧ w = w' := by
  go_enter Tryz.func84, Tryz.ntmps84
  go_wp2
  go_ret
  exact ⟨rfl, rfl⟩

theorem tok_17 (w : World) : Calls Tryz.prog 84 #[.int .i64 18] w fun e w' => e = .returned (.string (op 17)) ∧ w = w' := by
  go_enter Tryz.func84, Tryz.ntmps84
  go_wp2
  go_ret
  exact ⟨rfl, rfl⟩

theorem tok_18 (w : World) : Calls Tryz.prog 84 #[.int .i64 19] w fun e w' => e = .returned (.string (op 18)) ∧ w = w' := by
  go_enter Tryz.func84, Tryz.ntmps84
  go_wp2
  go_ret
  exact ⟨rfl, rfl⟩

theorem tok_19 (w : World) : Calls Tryz.prog 84 #[.int .i64 20] w fun e w' => e = .returned (.string (op 19)) ∧ w = w' := by
  go_enter Tryz.func84, Tryz.ntmps84
  go_wp2
  go_ret
  exact ⟨rfl, rfl⟩

theorem tok_any (m : Nat) (hm : m < 20) (w : World) : Calls Tryz.prog 84 #[.int .i64 ((m : Int) + 1)] w fun e w' => e = .returned (.string (op m)) ∧ w = w' := by
  match m, hm with
  | 0, _ => exact tok_0 w
  | 1, _ => exact tok_1 w
  | 2, _ => exact tok_2 w
  | 3, _ => exact tok_3 w
  | 4, _ => exact tok_4 w
  | 5, _ => exact tok_5 w
  | 6, _ => exact tok_6 w
  | 7, _ => exact tok_7 w
  | 8, _ => exact tok_8 w
  | 9, _ => exact tok_9 w
  | 10, _ => exact tok_10 w
  | 11, _ => exact tok_11 w
  | 12, _ => exact tok_12 w
  | 13, _ => exact tok_13 w
  | 14, _ => exact tok_14 w
  | 15, _ => exact tok_15 w
  | 16, _ => exact tok_16 w
  | 17, _ => exact tok_17 w
  | 18, _ => exact tok_18 w
  | 19, _ => exact tok_19 w
  | n + 20, h => exact absurd h (by omega)

theorem ops_ne (i j : Nat) (hi : i < 20) (hj : j < 20) (h : i ≠ j) : ((op i).toList == (op j).toList) = false := by
  have H : ∀ i : Fin 20, ∀ j : Fin 20, i ≠ j → ((op i.1).toList == (op j.1).toList) = false := by decide +kernel
  exact H ⟨i, hi⟩ ⟨j, hj⟩ (fun e => h (by simpa using e))

/-- The list of the operators in a world. -/
def Row (b : Nat) (w : World) : Prop := ∀ i, i < 20 → w.cell? ⟨b, i, none⟩ = some (.string (op i))

theorem list_any (w : World) : Calls Tryz.prog 187 #[] w fun e w' => ∃ b, e = .returned (.slice (some ⟨b, 0, none⟩) 20 20) ∧ Row b w' ∧ Below w.heap.size w w' := by
  go_enter Tryz.func187, Tryz.ntmps187
  go_wp2
  go_ret
  refine ⟨w.heap.size, rfl, ?_, (Below.refl _ _).alloc (Nat.le_refl _) _⟩
  intro i hi
  match i, hi with
  | 0, _ => simp [go_sem]; rfl
  | 1, _ => simp [go_sem]; rfl
  | 2, _ => simp [go_sem]; rfl
  | 3, _ => simp [go_sem]; rfl
  | 4, _ => simp [go_sem]; rfl
  | 5, _ => simp [go_sem]; rfl
  | 6, _ => simp [go_sem]; rfl
  | 7, _ => simp [go_sem]; rfl
  | 8, _ => simp [go_sem]; rfl
  | 9, _ => simp [go_sem]; rfl
  | 10, _ => simp [go_sem]; rfl
  | 11, _ => simp [go_sem]; rfl
  | 12, _ => simp [go_sem]; rfl
  | 13, _ => simp [go_sem]; rfl
  | 14, _ => simp [go_sem]; rfl
  | 15, _ => simp [go_sem]; rfl
  | 16, _ => simp [go_sem]; rfl
  | 17, _ => simp [go_sem]; rfl
  | 18, _ => simp [go_sem]; rfl
  | 19, _ => simp [go_sem]; rfl
  | n + 20, h => exact absurd h (by omega)

theorem num_yes (m : Nat) (hm : m < 20) (w : World) : Calls Tryz.prog 137 #[.string (op m)] w fun e w' => e = .returned (.int .i64 ((m : Int) + 1)) ∧ Below w.heap.size w w' := by
  go_enter Tryz.func137, Tryz.ntmps137
  go_wp2_with (go_at_call 187; refine (list_any _).mono ?_; rintro e w1 ⟨b, rfl, hr, hb⟩)
  go_loop [7] (fun t => ∃ k : Nat, k ≤ m ∧ t = .int .i64 (k : Int)) (fun t => 21 - (intOf t).toNat)
  case atStart => exact ⟨0, Nat.zero_le _, rfl⟩
  case round =>
    obtain ⟨k, hk, rfl⟩ := hrel
    have hc : w1.cell? ⟨b, k, none⟩ = some (.string (op k)) := hr k (by omega)
    by_cases h : k < m
    · have hne := ops_ne k m (by omega) hm (by omega)
      go_wp2
      go_round
      case rel => exact ⟨k + 1, by omega, by go_num⟩
      case measure => simp [intOf]; omega
    · obtain rfl : k = m := by omega
      have heq : ((op k).toList == (op k).toList) = true := by simp
      go_wp2
      go_ret
      exact ⟨rfl, hb⟩

theorem num_no (s : ByteArray) (hs : ∀ i, i < 20 → ((op i).toList == s.toList) = false) (w : World) : Calls Tryz.prog 137 #[.string s] w fun e w' => e = .returned (.int .i64 0) ∧ Below w.heap.size w w' := by
  have HS := Lib.hid hs
  clear hs
  go_enter Tryz.func137, Tryz.ntmps137
  go_wp2_with (go_at_call 187; refine (list_any _).mono ?_; rintro e w1 ⟨b, rfl, hr, hb⟩)
  go_loop [7] (fun t => ∃ k : Nat, k ≤ 20 ∧ t = .int .i64 (k : Int)) (fun t => 21 - (intOf t).toNat)
  case atStart => exact ⟨0, Nat.zero_le _, rfl⟩
  case round =>
    obtain ⟨k, hk, rfl⟩ := hrel
    by_cases h : k < 20
    · have hc : w1.cell? ⟨b, k, none⟩ = some (.string (op k)) := hr k (by omega)
      have hne := HS.out k h
      go_wp2
      go_round
      case rel => exact ⟨k + 1, by omega, by go_num⟩
      case measure => simp [intOf]; omega
    · go_wp2
      go_ret
      exact ⟨rfl, hb⟩

def isOp (s : ByteArray) : Prop := ∃ m, m < 20 ∧ s = op m

theorem not_op {s : ByteArray} (h : ¬ isOp s) : ∀ i, i < 20 → ((op i).toList == s.toList) = false := by
  intro i hi
  rw [beq_eq_false_iff_ne]
  intro e
  apply h
  refine ⟨i, hi, ?_⟩
  have e2 : (op i).data.toList = s.data.toList := by rw [← Lib.toList_data, ← Lib.toList_data, e]
  exact (ByteArray.ext (Array.toList_inj.1 e2)).symm

theorem num0_no (s : ByteArray) (h : ¬ isOp s) (w : World) : Calls Tryz.prog 137 #[.string s] w fun e w' => e = .returned (.int .i64 0) ∧ Below w.heap.size w w' := num_no s (not_op h) w


end Go.Proofs.YtcbcdgifakcooaaGreatDoor
