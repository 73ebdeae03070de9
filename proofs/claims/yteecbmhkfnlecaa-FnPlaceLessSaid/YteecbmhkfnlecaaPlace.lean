/-
  FnPlaceLess: for every two places the law returns true. No conditions.
-/
import Derived.Test.YteecbmhkfnlecaaRows
import Derived.WalkKit
import Derived.ProofKit
import Derived.OpenShut
import Derived.Lib.SmallJoins
import Derived.Deep.RegionHeld3
import Derived.Deep.RegionWith
import Derived.Lib.QuietBelow
import Derived.BigQuiet
import Derived.Lib.Hide
namespace Go.Proofs.Yteecbmhkfnlecaa.fnPlaceLess
open Go.ChangeShapes Go.WideShapes Go.ChangeAt Go.RowKit
set_option linter.unusedVariables false

/-- What Position.Less comes to. -/
def less (a b c d : Int) : Bool := if a = c then decide (b < d) else decide (a < c)

theorem bcell {W w1 : World} (hb : Below W.heap.size W w1) : (∀ b o, b < W.heap.size → w1.cell? ⟨b, o, none⟩ = W.cell? ⟨b, o, none⟩) ∧ (∀ b o, b < W.heap.size → w1.frozen? ⟨b, o, none⟩ = W.frozen? ⟨b, o, none⟩) :=
  ⟨fun b o h => hb.cell (p := ⟨b, o, none⟩) h, fun b o h => hb.frozen (p := ⟨b, o, none⟩) h⟩

theorem place_any (l c : Int) (w : World) :
    Calls Try.prog 21 #[.agg #[.int .i64 l, .int .i64 c]] w fun e w' => e = .returned (.agg #[.int .i64 l, .int .i64 c]) ∧ Below w.heap.size w w' := by
  go_enter Try.func21, Try.ntmps21
  go_wp2
  exact bodyPost_ret (v := .agg #[.int .i64 l, .int .i64 c]) (by simp [results, Try.results21, go_sem]) rfl ⟨rfl, ((Below.refl _ _).alloc (Nat.le_refl _) _).alloc (by simp) _⟩

theorem less_any (a b c d : Int) (w : World) :
    Calls Try.prog 22 #[.agg #[.int .i64 a, .int .i64 b], .agg #[.int .i64 c, .int .i64 d]] w fun e w' => e = .returned (.bool (less a b c d)) ∧ Below w.heap.size w w' := by
  by_cases h : a = c
  · have hl : less a b c d = decide (b < d) := by simp [less, h]
    subst h
    have H := Lib.hid hl
    clear hl
    go_enter Try.func22, Try.ntmps22
    go_wp2
    go_ret
    exact ⟨by rw [H.out]; rfl, ((Below.refl _ _).alloc (Nat.le_refl _) _).alloc (by simp) _⟩
  · have hl : less a b c d = decide (a < c) := by simp [less, h]
    have h' : (a == c) = false := by simpa using h
    clear h
    have H := Lib.hid hl
    clear hl
    go_enter Try.func22, Try.ntmps22
    go_wp2
    go_ret
    exact ⟨by rw [H.out]; rfl, ((Below.refl _ _).alloc (Nat.le_refl _) _).alloc (by simp) _⟩

theorem placeLess_any (a b c d : Int) (w : World) :
    Calls Try.prog 10 #[.agg #[.int .i64 a, .int .i64 b], .agg #[.int .i64 c, .int .i64 d]] w fun e w' => e = .returned (.bool (less a b c d)) ∧ Below w.heap.size w w' := by
  go_enter Try.func10, Try.ntmps10
  go_wp2
  go_region_held3 (fun w' => w'.cell? ⟨w.heap.size, 0, none⟩ = some (.int .i64 a) ∧ w'.cell? ⟨w.heap.size, 1, none⟩ = some (.int .i64 b) ∧ w'.cell? ⟨w.heap.size + 1, 0, none⟩ = some (.int .i64 c) ∧ w'.cell? ⟨w.heap.size + 1, 1, none⟩ = some (.int .i64 d)) (go_keep) (first | (go_at_call 21; refine (place_any _ _ _).mono ?_; rintro e w1 ⟨rfl, hb1⟩; have hz : w.heap.size + 2 ≤ w1.heap.size := (by have hh := hb1.size; (try simp at hh); omega); obtain ⟨hc1, hf1⟩ := bcell hb1; have k0 := hc1 w.heap.size 0 (by first | omega | (simp; done) | (simp; omega)); have k1 := hc1 w.heap.size 1 (by first | omega | (simp; done) | (simp; omega)); have k2 := hc1 (w.heap.size + 1) 0 (by first | omega | (simp; done) | (simp; omega)); have k3 := hc1 (w.heap.size + 1) 1 (by first | omega | (simp; done) | (simp; omega)); clear hc1 hf1) | (go_at_call 22; refine (less_any _ _ _ _ _).mono ?_; rintro e w1 ⟨rfl, hb1⟩; have hz : w.heap.size + 2 ≤ w1.heap.size := (by have hh := hb1.size; (try simp at hh); omega); obtain ⟨hc1, hf1⟩ := bcell hb1; have k0 := hc1 w.heap.size 0 (by first | omega | (simp; done) | (simp; omega)); have k1 := hc1 w.heap.size 1 (by first | omega | (simp; done) | (simp; omega)); have k2 := hc1 (w.heap.size + 1) 0 (by first | omega | (simp; done) | (simp; omega)); have k3 := hc1 (w.heap.size + 1) 1 (by first | omega | (simp; done) | (simp; omega)); clear hc1 hf1))
  go_wp2
  go_ret
  exact ⟨rfl, (((Below.refl w.heap.size w).alloc (Nat.le_refl _) _).alloc (by simp) _).drew.trans ((Below.mono ‹Below _ _ _› (by simp; omega)).trans ((Below.mono ‹Below _ _ _› (by omega)).trans (Below.mono ‹Below _ _ _› (by omega))))⟩

theorem walk_lt (a b c d : Int) (h : a < c) (w : World) :
    Calls Try.prog 4 #[.agg #[.int .i64 a, .int .i64 b], .agg #[.int .i64 c, .int .i64 d]] w fun e w' => e = .returned (.bool true) ∧ Below w.heap.size w w' := by
  have h0 : less 1 0 2 0 = true := by decide
  have hl : less a b c d = true := by
    have : a ≠ c := by omega
    simp [less, this, h]
  have hd : decide (a < c) = true := by simpa using h
  clear h
  have k0 := cell_regrown (w := ((w.alloc (.cells #[.int .i64 a, .int .i64 b] 24)).alloc (.cells #[.int .i64 c, .int .i64 d] 24))) (a := ⟨w.heap.size, 0, none⟩) (v := .int .i64 a) (by simp [go_sem])
  have k1 := cell_regrown (w := ((w.alloc (.cells #[.int .i64 a, .int .i64 b] 24)).alloc (.cells #[.int .i64 c, .int .i64 d] 24))) (a := ⟨w.heap.size, 1, none⟩) (v := .int .i64 b) (by simp [go_sem])
  have k2 := cell_regrown (w := ((w.alloc (.cells #[.int .i64 a, .int .i64 b] 24)).alloc (.cells #[.int .i64 c, .int .i64 d] 24))) (a := ⟨w.heap.size + 1, 0, none⟩) (v := .int .i64 c) (by simp [go_sem])
  have k3 := cell_regrown (w := ((w.alloc (.cells #[.int .i64 a, .int .i64 b] 24)).alloc (.cells #[.int .i64 c, .int .i64 d] 24))) (a := ⟨w.heap.size + 1, 1, none⟩) (v := .int .i64 d) (by simp [go_sem])
  go_enter Try.func4, Try.ntmps4
  go_wp2
  refine wp_region_quiet_below (by kernel_rfl) (by kernel_rfl) ?_
  repeat (go_big_quiet_step ((go_at_call 10; exact Calls.regrown_of (placeLess_any _ _ _ _ _))))
  refine wpQuiet_nil ?_
  intro _ hw'
  obtain ⟨⟨dq, osq⟩, hw''⟩ := hw'
  subst hw''
  go_wp2
  go_ret
  exact ⟨rfl, ((Below.refl w.heap.size w).alloc (Nat.le_refl _) _).alloc (by simp) _ |>.trans ((below_regrown _ _ _).mono (by simp; omega))⟩

theorem walk_eq (a b d : Int) (w : World) :
    Calls Try.prog 4 #[.agg #[.int .i64 a, .int .i64 b], .agg #[.int .i64 a, .int .i64 d]] w fun e w' => e = .returned (.bool true) ∧ Below w.heap.size w w' := by
  have h0 : less 1 0 2 0 = true := by decide
  have hl : less a b a d = decide (b < d) := by simp [less]
  have hd : decide (a < a) = false := by simp
  have he : (a == a) = true := by simp
  have k0 := cell_regrown (w := ((w.alloc (.cells #[.int .i64 a, .int .i64 b] 24)).alloc (.cells #[.int .i64 a, .int .i64 d] 24))) (a := ⟨w.heap.size, 0, none⟩) (v := .int .i64 a) (by simp [go_sem])
  have k1 := cell_regrown (w := ((w.alloc (.cells #[.int .i64 a, .int .i64 b] 24)).alloc (.cells #[.int .i64 a, .int .i64 d] 24))) (a := ⟨w.heap.size, 1, none⟩) (v := .int .i64 b) (by simp [go_sem])
  have k2 := cell_regrown (w := ((w.alloc (.cells #[.int .i64 a, .int .i64 b] 24)).alloc (.cells #[.int .i64 a, .int .i64 d] 24))) (a := ⟨w.heap.size + 1, 0, none⟩) (v := .int .i64 a) (by simp [go_sem])
  have k3 := cell_regrown (w := ((w.alloc (.cells #[.int .i64 a, .int .i64 b] 24)).alloc (.cells #[.int .i64 a, .int .i64 d] 24))) (a := ⟨w.heap.size + 1, 1, none⟩) (v := .int .i64 d) (by simp [go_sem])
  go_enter Try.func4, Try.ntmps4
  go_wp2
  refine wp_region_quiet_below (by kernel_rfl) (by kernel_rfl) ?_
  repeat (go_big_quiet_step ((go_at_call 10; exact Calls.regrown_of (placeLess_any _ _ _ _ _))))
  refine wpQuiet_nil ?_
  intro _ hw'
  obtain ⟨⟨dq, osq⟩, hw''⟩ := hw'
  subst hw''
  go_wp2
  go_ret
  exact ⟨rfl, ((Below.refl w.heap.size w).alloc (Nat.le_refl _) _).alloc (by simp) _ |>.trans ((below_regrown _ _ _).mono (by simp; omega))⟩

theorem walk_gt (a b c d : Int) (h : c < a) (w : World) :
    Calls Try.prog 4 #[.agg #[.int .i64 a, .int .i64 b], .agg #[.int .i64 c, .int .i64 d]] w fun e w' => e = .returned (.bool true) ∧ Below w.heap.size w w' := by
  have h0 : less 1 0 2 0 = true := by decide
  have hl : less a b c d = false := by
    have : a ≠ c := by omega
    have : ¬ a < c := by omega
    simp [less, *]
  have hd : decide (a < c) = false := by simp; omega
  have he : (a == c) = false := by simp; omega
  clear h
  have k0 := cell_regrown (w := ((w.alloc (.cells #[.int .i64 a, .int .i64 b] 24)).alloc (.cells #[.int .i64 c, .int .i64 d] 24))) (a := ⟨w.heap.size, 0, none⟩) (v := .int .i64 a) (by simp [go_sem])
  have k1 := cell_regrown (w := ((w.alloc (.cells #[.int .i64 a, .int .i64 b] 24)).alloc (.cells #[.int .i64 c, .int .i64 d] 24))) (a := ⟨w.heap.size, 1, none⟩) (v := .int .i64 b) (by simp [go_sem])
  have k2 := cell_regrown (w := ((w.alloc (.cells #[.int .i64 a, .int .i64 b] 24)).alloc (.cells #[.int .i64 c, .int .i64 d] 24))) (a := ⟨w.heap.size + 1, 0, none⟩) (v := .int .i64 c) (by simp [go_sem])
  have k3 := cell_regrown (w := ((w.alloc (.cells #[.int .i64 a, .int .i64 b] 24)).alloc (.cells #[.int .i64 c, .int .i64 d] 24))) (a := ⟨w.heap.size + 1, 1, none⟩) (v := .int .i64 d) (by simp [go_sem])
  go_enter Try.func4, Try.ntmps4
  go_wp2
  refine wp_region_quiet_below (by kernel_rfl) (by kernel_rfl) ?_
  repeat (go_big_quiet_step ((go_at_call 10; exact Calls.regrown_of (placeLess_any _ _ _ _ _))))
  refine wpQuiet_nil ?_
  intro _ hw'
  obtain ⟨⟨dq, osq⟩, hw''⟩ := hw'
  subst hw''
  go_wp2
  go_ret
  exact ⟨rfl, ((Below.refl w.heap.size w).alloc (Nat.le_refl _) _).alloc (by simp) _ |>.trans ((below_regrown _ _ _).mono (by simp; omega))⟩

theorem walk (a b c d : Int) (w : World) :
    Calls Try.prog 4 #[.agg #[.int .i64 a, .int .i64 b], .agg #[.int .i64 c, .int .i64 d]] w fun e w' => e = .returned (.bool true) ∧ Below w.heap.size w w' := by
  by_cases h1 : a < c
  · exact walk_lt a b c d h1 w
  · by_cases h2 : c < a
    · exact walk_gt a b c d h2 w
    · obtain rfl : c = a := by omega
      exact walk_eq c b d w

theorem own : ownKnob Try.prog.godebug = none := by kernel_rfl
theorem laidOut : laidOutB Try.prog = true := by kernel_rfl
theorem cells24 : Try.prog.cellsOf 24 = 2 := by kernel_rfl

set_option maxRecDepth 100000 in
theorem lifted (os : Os) (started : os.Started) (H : Type) (enc : TypeId × Value → H) :
    ReturnsInHanded {} Try.checked os 4 .any (Rows.fnPlaceLessSpec.pre6 enc Try.prog Try.f4 Rows.fnPlaceLessRow.domain false) (Rows.fnPlaceLessSpec.post enc Try.prog Try.f4 false true false false) := by
  refine returnsInHanded_of_change (C := Try.checked) own started (by kernel_rfl) Try.func4
    (ChangeSpec.witness6 (enc := enc) (C := Try.checked) false ⟨#[], #[.agg #[.int .i64 0, .int .i64 0], .agg #[.int .i64 0, .int .i64 0]], []⟩ 8 (by kernel_rfl) (by kernel_rfl) (by kernel_rfl) (by kernel_rfl)) ?_
  intro W base args ds gs before hval0 hW hcnd _
  have hval : ∀ (j : Nat) t v, Try.f4.params[j]? = some t → args[j]? = some v → Value.okWide Try.prog W .any base t v := hval0
  have hW' := hW
  obtain ⟨p, q, hA0, hV, rfl, hfz, hnd⟩ := hW
  have hA : DataW.TrodAll enc Try.prog W 0 (fun _ => true) true Try.f4.params.toList args.toList ds p := hA0
  rw [Try.params4] at hA hval
  obtain ⟨v0, vs0, d0, ds0, p0, q0, hargs, rfl, rfl, h0, r0⟩ := trodAll_cons hA
  obtain ⟨v1, vs1, d1, ds1, p1, q1, rfl, rfl, rfl, h1, r1⟩ := trodAll_cons r0
  obtain ⟨rfl, rfl, rfl⟩ := trodAll_nil r1
  obtain rfl : args = #[v0, v1] := by cases args; simp_all
  obtain ⟨rfl, rfl⟩ := trodVars_none hV
  have k0 := h0
  have k1 := h1
  have lt0 : ∀ x ∈ p0, x.block < W.heap.size := by obtain ⟨m, hm⟩ := k0; exact DataW.trod_lt m _ _ _ hm
  have lt1 : ∀ x ∈ p1, x.block < W.heap.size := by obtain ⟨m, hm⟩ := k1; exact DataW.trod_lt m _ _ _ hm
  obtain ⟨c0, c1, y0, y1, m, rfl, -, -, hy0, hy1⟩ := Joins.open_agg2 Try.underlying24 (by kernel_rfl) cells24 (hval 0 24 v0 rfl rfl) h0
  obtain ⟨a, e0, -, -⟩ := DataW.trod_int Try.underlying3 hy0
  obtain ⟨b, e1, -, -⟩ := DataW.trod_int Try.underlying3 hy1
  simp at e0 e1
  subst e0 e1
  obtain ⟨c2, c3, y2, y3, m', rfl, -, -, hy2, hy3⟩ := Joins.open_agg2 Try.underlying24 (by kernel_rfl) cells24 (hval 1 24 v1 rfl rfl) h1
  obtain ⟨c, e2, -, -⟩ := DataW.trod_int Try.underlying3 hy2
  obtain ⟨d, e3, -, -⟩ := DataW.trod_int Try.underlying3 hy3
  simp at e2 e3
  subst e2 e3
  clear hA0 hval0
  refine (walk a b c d W).mono fun e W' ⟨he, bel⟩ => ?_
  subst he
  exact ⟨_, rfl, _, _, _, [], _, [], hW', trodAll_mk1 (shut_bool Try.underlying4 _), (trodAll_cons_mk (Below.trod laidOut (by kernel_rfl) (of_decide_eq_true (by kernel_rfl)) k0 bel lt0) (trodAll_cons_mk (Below.trod laidOut (by kernel_rfl) (of_decide_eq_true (by kernel_rfl)) k1 bel lt1) trodAll_mk0)), rfl, bel.frame _, fun h => by cases h⟩

theorem over : Rows.fnPlaceLessRow.holds Try.pinned (OpenSpec.ofChange Rows.fnPlaceLessSpec) :=
  OpenClaim.holds_of_wide 4 Try.f4 rfl rfl rfl rfl rfl rfl rfl ⟨rfl, rfl, rfl, rfl, rfl⟩ rfl rfl rfl rfl rfl (by kernel_rfl) Try.func4 (by kernel_rfl)
    (of_decide_eq_true (by kernel_rfl)) (by unfold Func.isWrapper; first | (rw [if_pos (by decide +kernel)]; kernel_rfl) | (rw [if_neg (by decide +kernel)]; exact ⟨rfl, rfl⟩))
    (fun os started H enc _ => lifted os started H enc)

/-- ████ THE STATEMENT ████ -/
theorem proved : Rows.FnPlaceLessSaid := over
#print axioms proved
end Go.Proofs.Yteecbmhkfnlecaa.fnPlaceLess
