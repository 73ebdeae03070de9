/-
  FnLiteral: for every node the law returns true. No conditions beyond the tables that its card ties.
-/
import Derived.Test.YtongafghllkomaaGreatDoorLit
import Derived.Test.YtongafghllkomaaGreatDoorWalked
import Derived.Test.YtongafghllkomaaGreatDoorLaid
import Derived.WalkKit
import Derived.ProofKit
import Derived.OpenShut
import Derived.Lib.Hide
namespace Go.Proofs.YtongafghllkomaaGreatDoor.fnLiteral
open Go.ChangeShapes Go.WideShapes Go.ChangeAt Go.RowKit
open Go.ChangeMaps (open_string shut_string)
set_option linter.unusedVariables false

/-- A tree that fits and is a literal of the four kinds. -/
theorem good_of {n : Nd} (h : FitP 12 n) (hk : n.kind = 36 ∨ n.kind = 37 ∨ n.kind = 34 ∨ n.kind = 35) : GoodD 12 n := by
  have hk0 : n.kids = [] := by
    rcases h with h | h
    · exact h.2.2.2.2
    · have h1 := h.2.2.2.1 (by omega)
      have e1 : (fixedL n.kind).length = 0 := by rcases hk with e | e | e | e <;> rw [e] <;> decide
      have e2 : restL n.kind = 28 := by rcases hk with e | e | e | e <;> rw [e] <;> decide
      rw [e1, e2] at h1
      exact List.eq_nil_of_length_eq_zero (by omega)
  refine ⟨h, ⟨by omega, fun i x hx => ?_⟩, ⟨⟨by rw [hk0]; simp, by rw [hk0]; simp⟩, fun i x hx => ?_⟩, ?_⟩
  · rw [hk0] at hx; simp at hx
  · rw [hk0] at hx; simp at hx
  · unfold walkL; simp; omega

set_option maxRecDepth 100000 in
set_option maxHeartbeats 1000000 in
theorem walk (D : Nat) (n : Nd) (w : World) (hL : LiesD D w n) (hR : RoomD D n) (hT : Lib.Utf8Tabs 1 2 w) :
    Calls Tryz.prog 4 #[n.val] w fun e w' => e = .returned (.bool true) ∧ Below w.heap.size w w' := by
  obtain ⟨k, t, m, u, ao, cap, kids⟩ := n
  have HL := Lib.hid hL
  have HT := Lib.hid hT
  clear hL hT hR
  show Calls _ _ #[.agg #[.int .i64 k, .string t, .string m, .int .u64 u, .slice ao kids.length cap]] w _
  go_enter Tryz.func4, Tryz.ntmps4
  go_wp2_with fail
  refine (fits1_any k t m u ao kids.length cap _).mono ?_
  rintro e w1 ⟨b1, rfl, -, hb1⟩
  obtain ⟨k0, -⟩ := bblk hb1 (b := w.heap.size) (by simp)
  have HB1 := Lib.hid (((Below.refl w.heap.size w).alloc (Nat.le_refl _) _).trans (hb1.mono (by simp)))
  have hz1 : w.heap.size < w1.heap.size := by have := hb1.size; simp at this; omega
  clear hb1
  cases b1
  · go_wp2_with fail
    go_ret
    exact ⟨rfl, HB1.out⟩
  go_wp2_with fail
  refine (five_any _).mono ?_
  rintro e w2 ⟨rfl, hb2⟩
  obtain ⟨k2, -⟩ := bblk hb2 (b := w.heap.size) (by omega)
  have HB2 := Lib.hid (HB1.out.trans (hb2.mono HB1.out.size))
  have hz2 : w.heap.size < w2.heap.size := by have := hb2.size; omega
  clear hb2
  go_wp2_with fail
  refine (implLit_any fiveN 1 _ (five_lies _) five_good (Or.inl rfl)).mono ?_
  rintro e w3 ⟨E, m1, m2, rfl, hS1, hL1, hS2, hL2, hb3⟩
  obtain ⟨k3, -⟩ := bblk hb3 (b := w.heap.size) (by omega)
  have HB3 := Lib.hid (HB2.out.trans (hb3.mono HB2.out.size))
  have hz3 : w.heap.size < w3.heap.size := by have := hb3.size; omega
  have HS1 := Lib.hid hS1
  have HL1 := Lib.hid hL1
  have HS2 := Lib.hid hS2
  have HL2 := Lib.hid hL2
  clear hb3 hS1 hS2 hL1 hL2
  go_wp2_with fail
  have HBr := Lib.hid ((HB3.out.alloc (Nat.le_of_lt hz3) (.cells #[.int .i64 m1.kind, .string m1.text, .string m1.more, .int .u64 m1.num, .slice m1.ao m1.kids.length m1.cap] 25)).alloc (by simp; omega) (.cells #[.int .i64 m2.kind, .string m2.text, .string m2.more, .int .u64 m2.num, .slice m2.ao m2.kids.length m2.cap] 25))
  have HKr := Lib.hid (((Below.refl w3.heap.size w3).alloc (Nat.le_refl _) (.cells #[.int .i64 m1.kind, .string m1.text, .string m1.more, .int .u64 m1.num, .slice m1.ao m1.kids.length m1.cap] 25)).alloc (by simp) (.cells #[.int .i64 m2.kind, .string m2.text, .string m2.more, .int .u64 m2.num, .slice m2.ao m2.kids.length m2.cap] 25))
  go_region_held3 (fun w' => (w'.cell? ⟨w3.heap.size, 0, none⟩ = some (.int .i64 m1.kind) ∧ w'.cell? ⟨w3.heap.size, 1, none⟩ = some (.string m1.text) ∧ w'.cell? ⟨w3.heap.size, 2, none⟩ = some (.string m1.more) ∧ w'.cell? ⟨w3.heap.size, 3, none⟩ = some (.int .u64 m1.num) ∧ w'.cell? ⟨w3.heap.size, 4, none⟩ = some (.slice m1.ao m1.kids.length m1.cap) ∧ w'.cell? ⟨w3.heap.size + 1, 0, none⟩ = some (.int .i64 m2.kind) ∧ w'.cell? ⟨w3.heap.size + 1, 1, none⟩ = some (.string m2.text) ∧ w'.cell? ⟨w3.heap.size + 1, 2, none⟩ = some (.string m2.more) ∧ w'.cell? ⟨w3.heap.size + 1, 3, none⟩ = some (.int .u64 m2.num) ∧ w'.cell? ⟨w3.heap.size + 1, 4, none⟩ = some (.slice m2.ao m2.kids.length m2.cap))) (go_keep) (first | (go_at_call 11; refine (five_any _).mono ?_; rintro e wf ⟨rfl, hbf⟩; have HBr := Lib.hid (show Below w.heap.size w wf from by first | exact HBr.out.trans (hbf.mono HBr.out.size) | exact HBr.out.drew.trans (hbf.mono (by have := HBr.out.size; simpa using this))); have HKr := Lib.hid (show Below w3.heap.size w3 wf from by first | exact HKr.out.trans (hbf.mono HKr.out.size) | exact HKr.out.drew.trans (hbf.mono (by have := HKr.out.size; simpa using this))); obtain ⟨ka, -⟩ := bblk hbf (b := w3.heap.size) (by first | omega | (simp; done) | (simp; omega)); obtain ⟨kb, -⟩ := bblk hbf (b := w3.heap.size + 1) (by first | omega | (simp; done) | (simp; omega)); obtain ⟨kc, -⟩ := bblk hbf (b := w.heap.size) (by first | omega | (simp; done) | (simp; omega)); have hzr : w3.heap.size + 1 < wf.heap.size := (by have := hbf.size; (try simp at this); omega); clear hbf) | (go_at_call_of 15 m1; refine (same_all E E 1 m1 fiveN _ HS1.out.symm (by first | exact HL1.out.below HKr.out | exact HL1.out.below HKr.out.drew) (five_lies _)).mono ?_; rintro e wf ⟨rfl, hbf⟩; have HBr := Lib.hid (show Below w.heap.size w wf from by first | exact HBr.out.trans (hbf.mono HBr.out.size) | exact HBr.out.drew.trans (hbf.mono (by have := HBr.out.size; simpa using this))); have HKr := Lib.hid (show Below w3.heap.size w3 wf from by first | exact HKr.out.trans (hbf.mono HKr.out.size) | exact HKr.out.drew.trans (hbf.mono (by have := HKr.out.size; simpa using this))); obtain ⟨ka, -⟩ := bblk hbf (b := w3.heap.size) (by first | omega | (simp; done) | (simp; omega)); obtain ⟨kb, -⟩ := bblk hbf (b := w3.heap.size + 1) (by first | omega | (simp; done) | (simp; omega)); obtain ⟨kc, -⟩ := bblk hbf (b := w.heap.size) (by first | omega | (simp; done) | (simp; omega)); have hzr : w3.heap.size + 1 < wf.heap.size := (by have := hbf.size; (try simp at this); omega); clear hbf) | (go_at_call_of 15 m2; refine (same_all E E 1 m2 fiveN _ HS2.out.symm (by first | exact HL2.out.below HKr.out | exact HL2.out.below HKr.out.drew) (five_lies _)).mono ?_; rintro e wf ⟨rfl, hbf⟩; have HBr := Lib.hid (show Below w.heap.size w wf from by first | exact HBr.out.trans (hbf.mono HBr.out.size) | exact HBr.out.drew.trans (hbf.mono (by have := HBr.out.size; simpa using this))); have HKr := Lib.hid (show Below w3.heap.size w3 wf from by first | exact HKr.out.trans (hbf.mono HKr.out.size) | exact HKr.out.drew.trans (hbf.mono (by have := HKr.out.size; simpa using this))); obtain ⟨ka, -⟩ := bblk hbf (b := w3.heap.size) (by first | omega | (simp; done) | (simp; omega)); obtain ⟨kb, -⟩ := bblk hbf (b := w3.heap.size + 1) (by first | omega | (simp; done) | (simp; omega)); obtain ⟨kc, -⟩ := bblk hbf (b := w.heap.size) (by first | omega | (simp; done) | (simp; omega)); have hzr : w3.heap.size + 1 < wf.heap.size := (by have := hbf.size; (try simp at this); omega); clear hbf))
  have HB7 := HBr
  have hz7 : w.heap.size < wf.heap.size := by omega
  go_wp2_with fail
  refine (Fits_any D (.mk k t m u ao cap kids) _ (HL.out.below HB7.out) (tabs_below HT.out HB7.out)).mono ?_
  rintro e w8 ⟨b8, rfl, hp8, hb8⟩
  obtain ⟨k8, -⟩ := bblk hb8 (b := w.heap.size) (by omega)
  have HP8 := Lib.hid hp8
  have HB8 := Lib.hid (HB7.out.trans (hb8.mono HB7.out.size))
  have hz8 : w.heap.size < w8.heap.size := by have := hb8.size; omega
  clear hp8 hb8
  cases b8
  · go_wp2_with fail
    go_ret
    exact ⟨rfl, HB8.out⟩
  have hF := (HP8.out (by first | rfl | trivial)).1
  by_cases hk : k = 36 ∨ k = 37 ∨ k = 34 ∨ k = 35
  · have HG := Lib.hid (good_of hF hk)
    have HK := Lib.hid hk
    have fin : ∀ (W : World) (m3 : Nd), True := fun _ _ => trivial
    clear hF fin
    rcases hk with rfl | rfl | rfl | rfl
    all_goals
      go_wp2_with fail
      refine (implLit_any (.mk _ t m u ao cap kids) D _ (HL.out.below HB8.out) HG.out (by simp [Nd.kind])).mono ?_
      rintro e w9 ⟨E', m3, m4, rfl, hS3, hL3, hS4, hL4, hb9⟩
      obtain ⟨k9, -⟩ := bblk hb9 (b := w.heap.size) (by omega)
      have HB9 := Lib.hid (HB8.out.trans (hb9.mono HB8.out.size))
      have hz9 : w.heap.size < w9.heap.size := by have := hb9.size; omega
      have HS3 := Lib.hid hS3
      have HL3 := Lib.hid hL3
      have HS4 := Lib.hid hS4
      have HL4 := Lib.hid hL4
      clear hb9 hS3 hS4 hL3 hL4
      have HBx := Lib.hid ((HB9.out.alloc (Nat.le_of_lt hz9) (.cells #[.int .i64 m3.kind, .string m3.text, .string m3.more, .int .u64 m3.num, .slice m3.ao m3.kids.length m3.cap] 25)).alloc (by simp; omega) (.cells #[.int .i64 m4.kind, .string m4.text, .string m4.more, .int .u64 m4.num, .slice m4.ao m4.kids.length m4.cap] 25))
      have HKx := Lib.hid (((Below.refl w9.heap.size w9).alloc (Nat.le_refl _) (.cells #[.int .i64 m3.kind, .string m3.text, .string m3.more, .int .u64 m3.num, .slice m3.ao m3.kids.length m3.cap] 25)).alloc (by simp) (.cells #[.int .i64 m4.kind, .string m4.text, .string m4.more, .int .u64 m4.num, .slice m4.ao m4.kids.length m4.cap] 25))
      go_wp2_with fail
      refine (same_all E' E' D m3 (.mk _ t m u ao cap kids) _ HS3.out.symm (HL3.out.below HKx.out) (HL.out.below HBx.out)).mono ?_
      rintro e w10 ⟨rfl, hb10⟩
      obtain ⟨k10, -⟩ := bblk hb10 (b := w.heap.size) (by first | omega | (simp; done) | (simp; omega))
      obtain ⟨k11, -⟩ := bblk hb10 (b := w9.heap.size + 1) (by first | omega | (simp; done) | (simp; omega))
      have HB10 := Lib.hid (HBx.out.trans (hb10.mono HBx.out.size))
      have HK10 := Lib.hid (HKx.out.trans (hb10.mono HKx.out.size))
      have hz10 : w.heap.size < w10.heap.size := by have := hb10.size; (try simp at this); omega
      clear hb10
      go_wp2_with fail
      refine (same_all E' E' D m4 (.mk _ t m u ao cap kids) _ HS4.out.symm (HL4.out.below HK10.out) (HL.out.below HB10.out)).mono ?_
      rintro e w11 ⟨rfl, hb11⟩
      have HB11 := Lib.hid (HB10.out.trans (hb11.mono HB10.out.size))
      clear hb11
      go_wp2_with fail
      go_ret
      exact ⟨rfl, HB11.out⟩
  · have g1 : (k != 36) = true := by simp; omega
    have g2 : (k != 37) = true := by simp; omega
    have g3 : (k != 34) = true := by simp; omega
    have g4 : (k != 35) = true := by simp; omega
    clear hk hF
    go_wp2_with fail
    go_ret
    exact ⟨rfl, HB8.out⟩

set_option maxRecDepth 100000 in
theorem lifted (os : Os) (started : os.Started) (H : Type) (enc : TypeId × Value → H) :
    ReturnsInHanded {} Tryz.checked os 4 .any (fun w args => (Rows.fnLiteralSpec.pre enc Tryz.prog Tryz.f4 Rows.fnLiteralRow.domain false w args ∧ laidMetH Tryz.prog Rows.fnLiteralRow.laid w) ∧ sizedMet enc Tryz.prog Tryz.f4 (OpenSpec.ofChange Rows.fnLiteralSpec) false w args)
      (Rows.fnLiteralSpec.post enc Tryz.prog Tryz.f4 false true false false) := by
  refine returnsInHanded_of_change_and (C := Tryz.checked) (X := fun w _ => laidMetH Tryz.prog Rows.fnLiteralRow.laid w) (fun _ _ _ hh h => h.of_heap hh) own started (by kernel_rfl) Tryz.func4
    (ChangeSpec.witness_shaped (enc := enc) (C := Tryz.checked) (os := os) (X := fun w _ => laidMetH Tryz.prog Rows.fnLiteralRow.laid w) false (World.laidAll Tryz.prog os Rows.fnLiteralRow.laid) #[.agg #[.int .i64 0, .string ByteArray.empty, .string ByteArray.empty, .int .u64 0, .slice none 0 0]] 8 (World.laidAll_os _ _ _)
      (World.shaped_of_ZipB (by kernel_rfl) (by kernel_rfl)) (by kernel_rfl) (by kernel_rfl) (by kernel_rfl)
      (by rw [MakeChecks.laidMetH_plain _ _ _ (by kernel_rfl)]; exact laidMet_laidAll _ (by kernel_rfl) (by kernel_rfl))) ?_
  intro W base args ds gs before hval0 hW hc _ hL _
  have hval : ∀ (j : Nat) t v, Tryz.f4.params[j]? = some t → args[j]? = some v → Value.okWide Tryz.prog W .any base t v := hval0
  have hW' := hW
  obtain ⟨p, q, hA0, hV, rfl, _, _⟩ := hW
  have hA : DataW.TrodAll enc Tryz.prog W 0 (fun _ => true) true Tryz.f4.params.toList args.toList ds p := hA0
  rw [Tryz.params4] at hA hval
  obtain ⟨v0, vs0, d0, ds0, p0, q0, hargs, rfl, rfl, h0, r0⟩ := trodAll_cons hA
  obtain ⟨rfl, rfl, rfl⟩ := trodAll_nil r0
  obtain rfl : args = #[v0] := by cases args; simp_all
  obtain ⟨rfl, rfl⟩ := trodVars_none hV
  have k0 := h0
  have lt0 : ∀ x ∈ p0, x.block < W.heap.size := by obtain ⟨m, hm⟩ := k0; exact DataW.trod_lt m _ _ _ hm
  obtain ⟨D, n, rfl, hLn, hRn⟩ := open_node (hval 0 25 v0 rfl rfl) h0
  clear hA0 hval0
  rw [MakeChecks.laidMetH_plain _ _ _ (by kernel_rfl)] at hL
  refine (walk D n W hLn hRn (tabs_of hL (by simp [Rows.fnLiteralRow, Rows.laid_unicode_utf8_first]) (by simp [Rows.fnLiteralRow]))).mono fun e W' ⟨he, bel⟩ => ?_
  subst he
  exact ⟨_, rfl, _, _, _, [], _, [], hW', trodAll_mk1 (shut_bool Tryz.underlying4 _), (trodAll_cons_mk (Below.trod laidOut (by kernel_rfl) (of_decide_eq_true (by kernel_rfl)) k0 bel lt0) trodAll_mk0), rfl, bel.frame _, fun h => by cases h⟩

theorem j1 : (Rows.fnLiteralRow.inPlace == Tryz.prog.inPlace 4) = true := by kernel_rfl
theorem j2 : (Rows.fnLiteralRow.unfollowed == Tryz.prog.unfollowed 4) = true := by kernel_rfl
theorem j3 : (Rows.fnLiteralRow.recurses == Tryz.prog.recurses 4) = true := by kernel_rfl
theorem j4 : (Rows.fnLiteralRow.named == Tryz.prog.varsNamed 4) = true := by kernel_rfl
theorem j5 : (Tryz.prog.stops == []) = true := by kernel_rfl
theorem j6 : (Tryz.prog.stopKnobs == []) = true := by kernel_rfl

theorem facts : joinedFacts Tryz.prog 4 Tryz.f4 Rows.fnLiteralSpec Rows.fnLiteralRow = true := by
  unfold joinedFacts
  rw [j1, j2, j3, j4, j5, j6]
  kernel_rfl

theorem fnm : Tryz.pinned.checked.prog.funcNamed Rows.fnLiteralRow.func = some 4 := by kernel_rfl
theorem inst : Tryz.f4.isInstance Tryz.pinned.checked.prog Rows.fnLiteralRow.origin Rows.fnLiteralRow.targs := of_decide_eq_true (by kernel_rfl)
theorem wrp : Tryz.f4.isWrapper Tryz.pinned.checked.prog Rows.fnLiteralRow.wrapper Rows.fnLiteralRow.mainSum := by unfold Func.isWrapper; first | (rw [if_pos (by decide +kernel)]; kernel_rfl) | (rw [if_neg (by decide +kernel)]; exact ⟨rfl, rfl⟩)

theorem said : Rows.FnLiteralSaid :=
  OpenClaim.holds_of_wide 4 Tryz.f4 rfl rfl rfl rfl rfl rfl rfl ⟨rfl, rfl, rfl, rfl, rfl⟩ rfl rfl rfl rfl rfl fnm Tryz.func4 facts inst wrp
    (fun os started H enc _ => lifted os started H enc)

theorem plain (f : FuncId) (fn : Func) (hf : Tryz.pinned.checked.prog.funcNamed "given.example/pub-brazing/laws.FnLiteral" = some f) (hfn : Tryz.pinned.checked.prog.funcs[f]? = some fn) :
    true = Tryz.pinned.checked.prog.looks [] ∧ ∀ (j : Nat) t, fn.params[j]? = some t → Tryz.pinned.checked.prog.wantsStandIn t = false := by
  obtain rfl : f = 4 := Option.some.inj ((show Tryz.prog.funcNamed "given.example/pub-brazing/laws.FnLiteral" = some 4 by kernel_rfl).symm.trans hf) |>.symm
  obtain rfl : fn = Tryz.f4 := (Option.some.inj (Tryz.func4.symm.trans hfn)).symm
  refine ⟨by kernel_rfl, fun j t ht => ?_⟩
  rw [Tryz.params4] at ht
  have hm : t ∈ [25] := by simpa using Array.mem_of_getElem? ht
  have hall : ([25].all fun u => !Tryz.prog.wantsStandIn u) = true := by kernel_rfl
  exact (show Tryz.prog.wantsStandIn t = false by simpa using List.all_eq_true.1 hall t hm)

/-- THE CARD. -/
theorem card : Rows.FnLiteralCardSaid :=
  Claim7.holds_tied_plain_at .later [] _ _ _ _ said (fun _ h => by cases h) (by kernel_rfl) (fun _ h => by cases h) fnLiteral_row_tie rfl ⟨rfl, rfl⟩ (by kernel_rfl) rfl plain (by kernel_rfl)
#print axioms card
end Go.Proofs.YtongafghllkomaaGreatDoor.fnLiteral
