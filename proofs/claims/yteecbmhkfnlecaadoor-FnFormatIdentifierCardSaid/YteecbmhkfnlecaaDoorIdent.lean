/-
  FnFormatIdentifier: for every text the law returns true. No conditions beyond the tables that its card ties.
-/
import Derived.Test.YteecbmhkfnlecaaDoorLex
import Derived.Test.YteecbmhkfnlecaaDoorFmt
import Derived.Test.YteecbmhkfnlecaaDoorLaid
import Derived.WalkKit
import Derived.ProofKit
import Derived.OpenShut
import Derived.Lib.Hide
namespace Go.Proofs.YteecbmhkfnlecaaDoor.fnFormatIdentifier
open Go.ChangeShapes Go.WideShapes Go.ChangeAt Go.RowKit
open Go.ChangeMaps (open_string shut_string)
set_option linter.unusedVariables false

theorem cells_of (s : ByteArray) : Lib.strCells s = Lib.byteCells s.data.toList := by simp [Lib.strCells, Lib.byteCells]

theorem writes (s : ByteArray) (hs : s.size ≤ 2147483647) (c p : Addr) (w : World) (hc : w.cell? c = some (.pointer (some ⟨p.block, 0, none⟩))) (hp : w.cell? ⟨p.block, 3, none⟩ = some (.string s)) (lc : c.block < w.heap.size) (lp : p.block < w.heap.size) : Writes 31 c s.data.toList w := by
  intro W b f hb hB hbs hf hcf hI
  have h1 : W.cell? c = some (.pointer (some ⟨p.block, 0, none⟩)) := by rw [hb.cell lc]; exact hc
  have h2 : W.cell? ⟨p.block, 3, none⟩ = some (.string s) := by rw [hb.cell (p := ⟨p.block, 3, none⟩) lp]; exact hp
  obtain ⟨cb, co, cs⟩ := c
  obtain rfl : cs = none := World.cell?_spot h1
  clear hc hp
  go_enter Tryd.func31, Tryd.ntmps31
  go_wp2_with fail
  go_in
  go_wp2_with fail
  refine (fmtWrite b b f [] s _ hcf hI (by simp; omega) (by omega)).mono ?_
  rintro e w1 ⟨rfl, h3, h4, h5⟩
  go_wp2_with fail
  go_end0
  go_wp2_with fail
  go_end0
  refine ⟨rfl, ?_, h4, h5⟩
  rw [List.nil_append, cells_of] at h3
  exact .inr h3

theorem form_any (s : ByteArray) (hs : s.size ≤ 2147483647) (w : World) :
    Calls Tryd.prog 8 #[.string s] w fun e w' => e = .returned (.string s) ∧ Below w.heap.size w w' := by
  go_enter Tryd.func8, Tryd.ntmps8
  go_wp2_with fail
  go_in
  go_wp2_with fail
  refine (written_31 _ s.data.toList _ (writes s hs _ ⟨w.heap.size, 0, none⟩ _ (by simp [go_sem]) (by simp [go_sem]) (by simp) (by simp; omega))).mono ?_
  rintro e w1 ⟨rfl, hb⟩
  go_wp2_with fail
  go_ret
  exact ⟨rfl, (((Below.refl _ _).alloc (Nat.le_refl _) _).alloc (by simp) _).trans (hb.mono (by simp; omega))⟩

theorem walk (s : ByteArray) (w : World) (hT : Lib.Utf8Tabs 0 1 w) :
    Calls Tryd.prog 3 #[.string s] w fun e w' => e = .returned (.bool true) ∧ Below w.heap.size w w' := by
  have HT := Lib.hid hT
  clear hT
  by_cases hs : 2147483647 < s.size
  · go_enter Tryd.func3, Tryd.ntmps3
    go_wp2_with fail
    go_ret
    exact ⟨rfl, Below.refl _ _⟩
  · have he : (s.toList == s.toList) = true := by simp
    have HN : Hid (∀ w2, Below w.heap.size w w2 → Calls Tryd.prog 9 #[.string s] w2 fun e w' => ∃ b : Bool, e = .returned (.bool b) ∧ Below w2.heap.size w2 w') := fun w2 hb => name_some s w2 (by omega) (tabs_below HT.out hb)
    go_enter Tryd.func3, Tryd.ntmps3
    go_wp2_with fail
    refine (form_any ⟨#[97]⟩ (by decide) _).mono ?_
    rintro e w1 ⟨rfl, hb1⟩
    go_wp2_with fail
    refine (HN.out _ hb1).mono ?_
    rintro e w2 ⟨nb, rfl, hb2⟩
    have hz := hb1.size
    cases nb
    · go_wp2_with fail
      go_ret
      exact ⟨rfl, hb1.trans (hb2.mono hz)⟩
    · by_cases h3 : 300 < s.size
      · go_wp2_with fail
        go_ret
        exact ⟨rfl, hb1.trans (hb2.mono hz)⟩
      · go_wp2_with fail
        refine (form_any s (by omega) _).mono ?_
        rintro e w3 ⟨rfl, hb3⟩
        go_wp2_with fail
        go_ret
        exact ⟨rfl, (hb1.trans (hb2.mono hz)).trans (hb3.mono (by have := hb2.size; omega))⟩

set_option maxRecDepth 100000 in
theorem lifted (os : Os) (started : os.Started) (H : Type) (enc : TypeId × Value → H) :
    ReturnsInHanded {} Tryd.checked os 3 .any (fun w args => (Rows.fnFormatIdentifierSpec.pre enc Tryd.prog Tryd.f3 Rows.fnFormatIdentifierRow.domain false w args ∧ laidMetH Tryd.prog Rows.fnFormatIdentifierRow.laid w) ∧ sizedMet enc Tryd.prog Tryd.f3 (OpenSpec.ofChange Rows.fnFormatIdentifierSpec) false w args)
      (Rows.fnFormatIdentifierSpec.post enc Tryd.prog Tryd.f3 false true false false) := by
  refine returnsInHanded_of_change_and (C := Tryd.checked) (X := fun w _ => laidMetH Tryd.prog Rows.fnFormatIdentifierRow.laid w) (fun _ _ _ hh h => h.of_heap hh) own started (by kernel_rfl) Tryd.func3
    (ChangeSpec.witness_shaped (enc := enc) (C := Tryd.checked) (os := os) (X := fun w _ => laidMetH Tryd.prog Rows.fnFormatIdentifierRow.laid w) false (World.laidAll Tryd.prog os Rows.fnFormatIdentifierRow.laid) #[.string ByteArray.empty] 8 (World.laidAll_os _ _ _)
      (World.shaped_of_ZipB (by kernel_rfl) (by kernel_rfl)) (by kernel_rfl) (by kernel_rfl) (by kernel_rfl)
      (by rw [MakeChecks.laidMetH_plain _ _ _ (by kernel_rfl)]; exact laidMet_laidAll _ (by kernel_rfl) (by kernel_rfl))) ?_
  intro W base args ds gs before hval0 hW hc _ hL _
  have hval : ∀ (j : Nat) t v, Tryd.f3.params[j]? = some t → args[j]? = some v → Value.okWide Tryd.prog W .any base t v := hval0
  have hW' := hW
  obtain ⟨p, q, hA0, hV, rfl, _, _⟩ := hW
  have hA : DataW.TrodAll enc Tryd.prog W 0 (fun _ => true) true Tryd.f3.params.toList args.toList ds p := hA0
  rw [Tryd.params3] at hA hval
  obtain ⟨v0, vs0, d0, ds0, p0, q0, hargs, rfl, rfl, h0, r0⟩ := trodAll_cons hA
  obtain ⟨rfl, rfl, rfl⟩ := trodAll_nil r0
  obtain rfl : args = #[v0] := by cases args; simp_all
  obtain ⟨rfl, rfl⟩ := trodVars_none hV
  have k0 := h0
  have lt0 : ∀ x ∈ p0, x.block < W.heap.size := by obtain ⟨m, hm⟩ := k0; exact DataW.trod_lt m _ _ _ hm
  obtain ⟨s, rfl, -, -, -⟩ := open_string Tryd.underlying9 (hval 0 9 v0 rfl rfl) h0
  clear hA0 hval0
  rw [MakeChecks.laidMetH_plain _ _ _ (by kernel_rfl)] at hL
  refine (walk s W (tabs_of hL (by simp [Rows.fnFormatIdentifierRow, Rows.laid_unicode_utf8_first]) (by simp [Rows.fnFormatIdentifierRow]))).mono fun e W' ⟨he, bel⟩ => ?_
  subst he
  exact ⟨_, rfl, _, _, _, [], _, [], hW', trodAll_mk1 (shut_bool Tryd.underlying4 _), (trodAll_cons_mk (Below.trod laidOut (by kernel_rfl) (of_decide_eq_true (by kernel_rfl)) k0 bel lt0) trodAll_mk0), rfl, bel.frame _, fun h => by cases h⟩

theorem said : Rows.FnFormatIdentifierSaid :=
  OpenClaim.holds_of_wide 3 Tryd.f3 rfl rfl rfl rfl rfl rfl rfl ⟨rfl, rfl, rfl, rfl, rfl⟩ rfl rfl rfl rfl rfl (by kernel_rfl) Tryd.func3 (by kernel_rfl)
    (of_decide_eq_true (by kernel_rfl)) (by unfold Func.isWrapper; first | (rw [if_pos (by decide +kernel)]; kernel_rfl) | (rw [if_neg (by decide +kernel)]; exact ⟨rfl, rfl⟩))
    (fun os started H enc _ => lifted os started H enc)

theorem plain (f : FuncId) (fn : Func) (hf : Tryd.pinned.checked.prog.funcNamed "given.example/pub-brazing/laws.FnFormatIdentifier" = some f) (hfn : Tryd.pinned.checked.prog.funcs[f]? = some fn) :
    false = Tryd.pinned.checked.prog.looks [] ∧ ∀ (j : Nat) t, fn.params[j]? = some t → Tryd.pinned.checked.prog.wantsStandIn t = false := by
  obtain rfl : f = 3 := Option.some.inj ((show Tryd.prog.funcNamed "given.example/pub-brazing/laws.FnFormatIdentifier" = some 3 by kernel_rfl).symm.trans hf) |>.symm
  obtain rfl : fn = Tryd.f3 := (Option.some.inj (Tryd.func3.symm.trans hfn)).symm
  refine ⟨by kernel_rfl, fun j t ht => ?_⟩
  rw [Tryd.params3] at ht
  have hm : t ∈ [9] := by simpa using Array.mem_of_getElem? ht
  have hall : ([9].all fun u => !Tryd.prog.wantsStandIn u) = true := by kernel_rfl
  exact (show Tryd.prog.wantsStandIn t = false by simpa using List.all_eq_true.1 hall t hm)

/-- ████ THE CARD ████ -/
theorem card : Rows.FnFormatIdentifierCardSaid :=
  Claim7.holds_tied_plain_at .later [] _ _ _ _ said (fun _ h => by cases h) (by kernel_rfl) (fun _ h => by cases h) fnFormatIdentifier_row_tie rfl ⟨rfl, rfl⟩ (by kernel_rfl) rfl plain (by kernel_rfl)
#print axioms card
end Go.Proofs.YteecbmhkfnlecaaDoor.fnFormatIdentifier
