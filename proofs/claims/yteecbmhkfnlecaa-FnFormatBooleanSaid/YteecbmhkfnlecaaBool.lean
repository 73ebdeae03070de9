/-
  FnFormatBoolean: for both values the law returns true. No conditions.
-/
import Derived.Test.YteecbmhkfnlecaaFmt
import Derived.WalkKit
import Derived.ProofKit
import Derived.OpenShut
namespace Go.Proofs.Yteecbmhkfnlecaa.fnFormatBoolean
open Go.ChangeShapes Go.WideShapes Go.ChangeAt Go.RowKit
set_option linter.unusedVariables false

def want (v : Bool) : List UInt8 := if v then [116, 114, 117, 101] else [102, 97, 108, 115, 101]

theorem fb_any (v : Bool) (w : World) : Calls Try.prog 45 #[.bool v] w fun e w' => e = .returned (.string ⟨(want v).toArray⟩) ∧ w = w' := by
  cases v
  · go_enter Try.func45, Try.ntmps45
    go_wp2
    go_ret
    exact ⟨rfl, rfl⟩
  · go_enter Try.func45, Try.ntmps45
    go_wp2
    go_ret
    exact ⟨rfl, rfl⟩

theorem cells_of (l : List UInt8) : Lib.strCells ⟨l.toArray⟩ = Lib.byteCells l := by simp [Lib.strCells, Lib.byteCells]

theorem writes (v : Bool) (c p : Addr) (w : World) (hc : w.cell? c = some (.pointer (some ⟨p.block, 0, none⟩))) (hp : w.cell? ⟨p.block, 3, none⟩ = some (.bool v)) (lc : c.block < w.heap.size) (lp : p.block < w.heap.size) : Writes 38 c (want v) w := by
  intro W b f hb hB hbs hf hcf hI
  have h1 : W.cell? c = some (.pointer (some ⟨p.block, 0, none⟩)) := by rw [hb.cell lc]; exact hc
  have h2 : W.cell? ⟨p.block, 3, none⟩ = some (.bool v) := by rw [hb.cell (p := ⟨p.block, 3, none⟩) lp]; exact hp
  obtain ⟨cb, co, cs⟩ := c
  obtain rfl : cs = none := World.cell?_spot h1
  clear hc hp
  go_enter Try.func38, Try.ntmps38
  go_wp2_with fail
  go_in
  go_wp2_with fail
  refine (fb_any v _).mono ?_
  rintro e w1 ⟨rfl, rfl⟩
  go_wp2_with fail
  refine (fmtWrite b b f [] ⟨(want v).toArray⟩ _ hcf hI (by cases v <;> decide) (by omega)).mono ?_
  rintro e w1 ⟨rfl, h3, h4, h5⟩
  go_wp2_with fail
  go_end0
  go_wp2_with fail
  go_end0
  refine ⟨rfl, ?_, h4, h5⟩
  rw [List.nil_append, cells_of] at h3
  exact .inr h3

theorem form_any (v : Bool) (w : World) :
    Calls Try.prog 16 #[.bool v] w fun e w' => e = .returned (.string ⟨(want v).toArray⟩) ∧ Below w.heap.size w w' := by
  go_enter Try.func16, Try.ntmps16
  go_wp2_with fail
  go_in
  go_wp2_with fail
  refine (written_38 _ (want v) _ (writes v _ ⟨w.heap.size, 0, none⟩ _ (by simp [go_sem]) (by simp [go_sem]) (by simp) (by simp; omega))).mono ?_
  rintro e w1 ⟨rfl, hb⟩
  go_wp2_with fail
  go_ret
  exact ⟨rfl, (((Below.refl _ _).alloc (Nat.le_refl _) _).alloc (by simp) _).trans (hb.mono (by simp; omega))⟩

theorem walk (v : Bool) (w : World) :
    Calls Try.prog 7 #[.bool v] w fun e w' => e = .returned (.bool true) ∧ Below w.heap.size w w' := by
  cases v
  · go_enter Try.func7, Try.ntmps7
    go_wp2_with (go_at_call 16; refine (form_any _ _).mono ?_; rintro e w1 ⟨rfl, hb⟩)
    go_ret
    exact ⟨by first | rfl | simp [want] | (simp [want]; rfl), hb⟩
  · go_enter Try.func7, Try.ntmps7
    go_wp2_with (go_at_call 16; refine (form_any _ _).mono ?_; rintro e w1 ⟨rfl, hb⟩)
    go_ret
    exact ⟨by first | rfl | simp [want] | (simp [want]; rfl), hb⟩

theorem own : ownKnob Try.prog.godebug = none := by kernel_rfl
theorem laidOut : laidOutB Try.prog = true := by kernel_rfl

set_option maxRecDepth 100000 in
theorem lifted (os : Os) (started : os.Started) (H : Type) (enc : TypeId × Value → H) :
    ReturnsInHanded {} Try.checked os 7 .any (Rows.fnFormatBooleanSpec.pre6 enc Try.prog Try.f7 Rows.fnFormatBooleanRow.domain false) (Rows.fnFormatBooleanSpec.post enc Try.prog Try.f7 false true false false) := by
  refine returnsInHanded_of_change (C := Try.checked) own started (by kernel_rfl) Try.func7
    (ChangeSpec.witness6 (enc := enc) (C := Try.checked) false ⟨#[], #[.bool false], []⟩ 8 (by kernel_rfl) (by kernel_rfl) (by kernel_rfl) (by kernel_rfl)) ?_
  intro W base args ds gs before hval0 hW hcnd _
  have hval : ∀ (j : Nat) t v, Try.f7.params[j]? = some t → args[j]? = some v → Value.okWide Try.prog W .any base t v := hval0
  have hW' := hW
  obtain ⟨p, q, hA0, hV, rfl, hfz, hnd⟩ := hW
  have hA : DataW.TrodAll enc Try.prog W 0 (fun _ => true) true Try.f7.params.toList args.toList ds p := hA0
  rw [Try.params7] at hA hval
  obtain ⟨v0, vs0, d0, ds0, p0, q0, hargs, rfl, rfl, h0, r0⟩ := trodAll_cons hA
  obtain ⟨rfl, rfl, rfl⟩ := trodAll_nil r0
  obtain rfl : args = #[v0] := by cases args; simp_all
  obtain ⟨rfl, rfl⟩ := trodVars_none hV
  have k0 := h0
  have lt0 : ∀ x ∈ p0, x.block < W.heap.size := by obtain ⟨m, hm⟩ := k0; exact DataW.trod_lt m _ _ _ hm
  obtain ⟨v, rfl, -, -⟩ := open_bool Try.underlying4 (hval 0 4 v0 rfl rfl) h0
  clear hA0 hval0
  refine (walk v W).mono fun e W' ⟨he, bel⟩ => ?_
  subst he
  exact ⟨_, rfl, _, _, _, [], _, [], hW', trodAll_mk1 (shut_bool Try.underlying4 _), (trodAll_cons_mk (Below.trod laidOut (by kernel_rfl) (of_decide_eq_true (by kernel_rfl)) k0 bel lt0) trodAll_mk0), rfl, bel.frame _, fun h => by cases h⟩

theorem over : Rows.fnFormatBooleanRow.holds Try.pinned (OpenSpec.ofChange Rows.fnFormatBooleanSpec) :=
  OpenClaim.holds_of_wide 7 Try.f7 rfl rfl rfl rfl rfl rfl rfl ⟨rfl, rfl, rfl, rfl, rfl⟩ rfl rfl rfl rfl rfl (by kernel_rfl) Try.func7 (by kernel_rfl)
    (of_decide_eq_true (by kernel_rfl)) (by unfold Func.isWrapper; first | (rw [if_pos (by decide +kernel)]; kernel_rfl) | (rw [if_neg (by decide +kernel)]; exact ⟨rfl, rfl⟩))
    (fun os started H enc _ => lifted os started H enc)

/-- ████ THE STATEMENT ████ -/
theorem proved : Rows.FnFormatBooleanSaid := over
#print axioms proved
end Go.Proofs.Yteecbmhkfnlecaa.fnFormatBoolean
