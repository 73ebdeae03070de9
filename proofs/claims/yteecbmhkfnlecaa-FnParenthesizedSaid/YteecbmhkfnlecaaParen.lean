/-
  FnParenthesized: for every two precedences and either side the law returns true. No conditions.
-/
import Derived.Test.YteecbmhkfnlecaaRows
import Derived.WalkKit
import Derived.ProofKit
import Derived.OpenShut
namespace Go.Proofs.Yteecbmhkfnlecaa.fnParenthesized
open Go.ChangeShapes Go.WideShapes Go.ChangeAt Go.RowKit
set_option linter.unusedVariables false

theorem own : ownKnob Try.prog.godebug = none := by kernel_rfl

/-- What needsParenthesis comes to. -/
def np (p c : Int) (r : Bool) : Bool := !(c == 0 || p == 0) && ((!r && decide (p < c)) || (r && decide (p ≤ c)))

theorem np_any (p c : Int) (r : Bool) (w : World) :
    Calls Try.prog 33 #[.int .i64 p, .int .i64 c, .bool r] w fun e w' => e = .returned (.bool (np p c r)) ∧ w = w' := by
  by_cases hc : c = 0
  · subst hc
    go_enter Try.func33, Try.ntmps33
    go_wp2
    go_ret
    exact ⟨by simp [np], rfl⟩
  · have hc' : (c == 0) = false := by simpa using hc
    clear hc
    by_cases hp : p = 0
    · subst hp
      go_enter Try.func33, Try.ntmps33
      go_wp2
      go_ret
      exact ⟨by simp [np], rfl⟩
    · have hp' : (p == 0) = false := by simpa using hp
      clear hp
      cases r
      · by_cases h : p < c
        · have hn : np p c false = true := by simp [np, hc', hp', h]
          have H := hn
          clear hn
          go_enter Try.func33, Try.ntmps33
          go_wp2
          go_ret
          exact ⟨by first | rfl | simp [H], rfl⟩
        · have hn : np p c false = false := by simp [np, h]
          go_enter Try.func33, Try.ntmps33
          go_wp2
          go_ret
          exact ⟨by first | rfl | simp [hn], rfl⟩
      · by_cases h : p ≤ c
        · have hn : np p c true = true := by simp [np, hc', hp', h]
          go_enter Try.func33, Try.ntmps33
          go_wp2
          go_ret
          exact ⟨by first | rfl | simp [hn], rfl⟩
        · have hn : np p c true = false := by simp [np, h]
          go_enter Try.func33, Try.ntmps33
          go_wp2
          go_ret
          exact ⟨by first | rfl | simp [hn], rfl⟩

theorem par_any (p c : Int) (r : Bool) (w : World) :
    Calls Try.prog 9 #[.int .i64 p, .int .i64 c, .bool r] w fun e w' => e = .returned (.bool (np p c r)) ∧ w = w' := by
  go_enter Try.func9, Try.ntmps9
  go_wp2_with (first | (go_at_call 33; refine (np_any _ _ _ _).mono ?_; rintro e w' ⟨rfl, rfl⟩) | go_in)
  go_ret
  exact ⟨rfl, rfl⟩

theorem walk (a0 : Int) (a1 : Int) (a2 : Bool) (w0 : (Lit.int .i64 a0).wf = true) (w1 : (Lit.int .i64 a1).wf = true) (w : World) :
    Calls Try.prog 3 #[.int .i64 a0, .int .i64 a1, .bool a2] w fun e w' => e = .returned (.bool true) ∧ Grown w w' := by
  clear w0 w1
  have k1 : np 3 4 false = true := by decide
  by_cases h1 : a0 < 1
  · go_enter Try.func3, Try.ntmps3
    go_wp2_with (go_at_call 9; refine (par_any _ _ _ _).mono ?_; rintro e w' ⟨rfl, rfl⟩)
    go_ret
    exact ⟨rfl, Grown.refl _⟩
  by_cases h2 : 8 < a0
  · go_enter Try.func3, Try.ntmps3
    go_wp2_with (go_at_call 9; refine (par_any _ _ _ _).mono ?_; rintro e w' ⟨rfl, rfl⟩)
    go_ret
    exact ⟨rfl, Grown.refl _⟩
  by_cases h3 : a1 < 1
  · go_enter Try.func3, Try.ntmps3
    go_wp2_with (go_at_call 9; refine (par_any _ _ _ _).mono ?_; rintro e w' ⟨rfl, rfl⟩)
    go_ret
    exact ⟨rfl, Grown.refl _⟩
  by_cases h4 : 8 < a1
  · go_enter Try.func3, Try.ntmps3
    go_wp2_with (go_at_call 9; refine (par_any _ _ _ _).mono ?_; rintro e w' ⟨rfl, rfl⟩)
    go_ret
    exact ⟨rfl, Grown.refl _⟩
  have e0 : (a0 == 0) = false := by simp; omega
  have e1 : (a1 == 0) = false := by simp; omega
  by_cases hl : a0 < a1
  · have hn : np a0 a1 a2 = true := by
      have : a0 ≤ a1 := by omega
      cases a2 <;> simp [np, e0, e1, hl, this]
    clear e0 e1
    go_enter Try.func3, Try.ntmps3
    go_wp2_with (go_at_call 9; refine (par_any _ _ _ _).mono ?_; rintro e w' ⟨rfl, rfl⟩)
    go_ret
    exact ⟨rfl, Grown.refl _⟩
  · by_cases hq : a1 = a0
    · subst hq
      have hn : np a1 a1 a2 = a2 := by cases a2 <;> simp [np, e0]
      clear e0 e1
      cases a2
      · go_enter Try.func3, Try.ntmps3
        go_wp2_with (go_at_call 9; refine (par_any _ _ _ _).mono ?_; rintro e w' ⟨rfl, rfl⟩)
        go_ret
        exact ⟨rfl, Grown.refl _⟩
      · go_enter Try.func3, Try.ntmps3
        go_wp2_with (go_at_call 9; refine (par_any _ _ _ _).mono ?_; rintro e w' ⟨rfl, rfl⟩)
        go_ret
        exact ⟨rfl, Grown.refl _⟩
    · have hn : np a0 a1 a2 = false := by
        have h5 : ¬ a0 ≤ a1 := by omega
        cases a2 <;> simp [np, hl, h5]
      have hq' : (a1 == a0) = false := by simpa using hq
      clear e0 e1 hq
      cases a2
      · go_enter Try.func3, Try.ntmps3
        go_wp2_with (go_at_call 9; refine (par_any _ _ _ _).mono ?_; rintro e w' ⟨rfl, rfl⟩)
        go_ret
        exact ⟨by simp; omega, Grown.refl _⟩
      · go_enter Try.func3, Try.ntmps3
        go_wp2_with (go_at_call 9; refine (par_any _ _ _ _).mono ?_; rintro e w' ⟨rfl, rfl⟩)
        go_ret
        exact ⟨by simp; omega, Grown.refl _⟩

/-! ### THE ROW's STEP: WRITTEN OUT: LEAVE IT -/
set_option maxRecDepth 100000 in
theorem lifted (os : Os) (started : os.Started) (H : Type) (enc : TypeId × Value → H) :
    ReturnsInHanded {} Try.checked os 3 .any (Rows.fnParenthesizedSpec.pre6 enc Try.prog Try.f3 Rows.fnParenthesizedRow.domain false) (Rows.fnParenthesizedSpec.post enc Try.prog Try.f3 false true false false) := by
  refine returnsInHanded_of_change (C := Try.checked) own started (by kernel_rfl) Try.func3
    (ChangeSpec.witness6 (enc := enc) (C := Try.checked) false ⟨#[], #[.int .i64 0, .int .i64 0, .bool false], []⟩ 8 (by kernel_rfl) (by kernel_rfl) (by kernel_rfl) (by kernel_rfl)) ?_
  intro W base args ds gs before hval0 hW hcnd _
  have hval : ∀ (j : Nat) t v, Try.f3.params[j]? = some t → args[j]? = some v → Value.okWide Try.prog W .any base t v := hval0
  have hW' := hW
  obtain ⟨p, q, hA0, hV, rfl, hfz, hnd⟩ := hW
  have hA : DataW.TrodAll enc Try.prog W 0 (fun _ => true) true Try.f3.params.toList args.toList ds p := hA0
  rw [Try.params3] at hA hval
  obtain ⟨v0, vs0, d0, ds0, p0, q0, hargs, rfl, rfl, h0, r0⟩ := trodAll_cons hA
  obtain ⟨v1, vs1, d1, ds1, p1, q1, rfl, rfl, rfl, h1, r1⟩ := trodAll_cons r0
  obtain ⟨v2, vs2, d2, ds2, p2, q2, rfl, rfl, rfl, h2, r2⟩ := trodAll_cons r1
  obtain ⟨rfl, rfl, rfl⟩ := trodAll_nil r2
  obtain rfl : args = #[v0, v1, v2] := by cases args; simp_all
  obtain ⟨rfl, rfl⟩ := trodVars_none hV
  obtain ⟨a0, rfl, rfl, rfl, w0⟩ := open_int Try.underlying3 (hval 0 3 v0 rfl rfl) h0
  obtain ⟨a1, rfl, rfl, rfl, w1⟩ := open_int Try.underlying3 (hval 1 3 v1 rfl rfl) h1
  obtain ⟨a2, rfl, rfl, rfl⟩ := open_bool Try.underlying4 (hval 2 4 v2 rfl rfl) h2
  clear hA0 hval0
  simp only [List.append_nil] at hW'
  refine (walk a0 a1 a2 w0 w1 W).mono fun e W' ⟨he, hg⟩ => ?_
  subst he
  exact ⟨_, rfl, post_of_same (pa := []) (pv := []) hW' (fun _ _ _ => (trodAll_cons_mk (shut_bool Try.underlying4 _) trodAll_mk0)) (fun sp _ => (trodAll_cons_mk (shut_int Try.underlying3 w0) (trodAll_cons_mk (shut_int Try.underlying3 w1) (trodAll_cons_mk (shut_bool Try.underlying4 _) trodAll_mk0)))) (fun _ _ => rfl) rfl
    (hg.frame _) hg.2.1 (ok_one (by kernel_rfl) rfl (okWide_bool_mk Try.underlying4 _))⟩

theorem over : Rows.fnParenthesizedRow.holds Try.pinned (OpenSpec.ofChange Rows.fnParenthesizedSpec) :=
  OpenClaim.holds_of_wide 3 Try.f3 rfl rfl rfl rfl rfl rfl rfl ⟨rfl, rfl, rfl, rfl, rfl⟩ rfl rfl rfl rfl rfl (by kernel_rfl) Try.func3 (by kernel_rfl)
    (of_decide_eq_true (by kernel_rfl)) (by unfold Func.isWrapper; first | (rw [if_pos (by decide +kernel)]; kernel_rfl) | (rw [if_neg (by decide +kernel)]; exact ⟨rfl, rfl⟩))
    (fun os started H enc _ => lifted os started H enc)

/-- ████ THE STATEMENT ████ -/
theorem proved : Rows.FnParenthesizedSaid :=
  over
#print axioms proved
end Go.Proofs.Yteecbmhkfnlecaa.fnParenthesized
