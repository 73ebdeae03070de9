/-
  FnTypeName: for every tree the law returns true. No conditions beyond the tables that its card ties.
-/
import Derived.Test.YtongafghllkomaaGreatDoorTypes
import Derived.Test.YtongafghllkomaaGreatDoorWalked
import Derived.Test.YtongafghllkomaaGreatDoorLaid
import Derived.WalkKit
import Derived.ProofKit
import Derived.OpenShut
import Derived.Lib.Hide
namespace Go.Proofs.YtongafghllkomaaGreatDoor.fnTypeName
open Go.ChangeShapes Go.WideShapes Go.ChangeAt Go.RowKit
open Go.ChangeMaps (open_string shut_string)
set_option linter.unusedVariables false

set_option maxRecDepth 100000 in
theorem walk (D : Nat) (n : Nd) (w : World) (hL : LiesD D w n) (hR : RoomD D n) (hT : Lib.Utf8Tabs 1 2 w) :
    Calls Tryz.prog 3 #[n.val] w fun e w' => e = .returned (.bool true) ∧ Below w.heap.size w w' := by
  have hkw : (Lit.int .i64 n.kind).wf = true := by
    cases D with
    | zero => exact hL.elim
    | succ D =>
      have := hL.1.2.2.2.2.2
      simp [Lit.wf, IntKind.min, IntKind.max, IntKind.signed, IntKind.bits]
      omega
  obtain ⟨k, t, m, u, ao, cap, kids⟩ := n
  have HKW := Lib.hid (show (Lit.int .i64 k).wf = true from hkw)
  have HL := Lib.hid hL
  have HR := Lib.hid hR
  have HT := Lib.hid hT
  clear hL hT hkw hR
  show Calls _ _ #[.agg #[.int .i64 k, .string t, .string m, .int .u64 u, .slice ao kids.length cap]] w _
  have hs36 : (ByteArray.toList ⟨#[73, 110, 116, 101, 103, 101, 114, 76, 105, 116, 101, 114, 97, 108]⟩ == ByteArray.toList ⟨#[73, 110, 116, 101, 103, 101, 114, 76, 105, 116, 101, 114, 97, 108]⟩) = true := by simp
  have hskk : ((nameOf k).toList == (nameOf k).toList) = true := by simp
  generalize hnm : nameOf k = nm at hskk
  have HNM := Lib.hid hnm
  clear hnm
  go_enter Tryz.func3, Tryz.ntmps3
  go_wp2_with fail
  refine (fits1_any k t m u ao kids.length cap _).mono ?_
  rintro e w1 ⟨b1, rfl, -, hb1⟩
  obtain ⟨k0, -⟩ := bblk hb1 (b := w.heap.size) (by simp)
  have HB1 := Lib.hid (((Below.refl w.heap.size w).alloc (Nat.le_refl _) _).trans (hb1.mono (by simp)))
  have hz1 : w.heap.size < w1.heap.size := by have := hb1.size; simp at this; omega
  clear hb1
  cases b1
  · go_wp2_with fail
    go_ret
    exact ⟨rfl, HB1.out⟩
  go_wp2_with fail
  refine (five_any _).mono ?_
  rintro e w2 ⟨rfl, hb2⟩
  obtain ⟨k1, -⟩ := bblk hb2 (b := w.heap.size) (by omega)
  have HB2 := Lib.hid (HB1.out.trans (hb2.mono HB1.out.size))
  have hz2 : w.heap.size < w2.heap.size := by have := hb2.size; omega
  clear hb2
  go_wp2_with fail
  refine (implName_any 12 fiveN 1 _ (five_lies _) five_good (by decide)).mono ?_
  rintro e w3 ⟨rfl, hb3⟩
  rw [show nameOf fiveN.kind = ⟨#[73, 110, 116, 101, 103, 101, 114, 76, 105, 116, 101, 114, 97, 108]⟩ from by decide]
  obtain ⟨k2, -⟩ := bblk hb3 (b := w.heap.size) (by omega)
  have HB3 := Lib.hid (HB2.out.trans (hb3.mono HB2.out.size))
  have hz3 : w.heap.size < w3.heap.size := by have := hb3.size; omega
  clear hb3
  go_wp2_with fail
  refine (walked_any D (.mk k t m u ao cap kids) _ (HL.out.below HB3.out) HR.out (tabs_below HT.out HB3.out)).mono ?_
  rintro e w4 ⟨b4, rfl, hp4, hb4⟩
  obtain ⟨k3, -⟩ := bblk hb4 (b := w.heap.size) (by omega)
  have HP4 := Lib.hid hp4
  have HB4 := Lib.hid (HB3.out.trans (hb4.mono HB3.out.size))
  have hz4 : w.heap.size < w4.heap.size := by have := hb4.size; omega
  clear hb4 hp4
  cases b4
  · go_wp2_with fail
    go_ret
    exact ⟨rfl, HB4.out⟩
  go_wp2_with fail
  refine (implName_any 12 (.mk k t m u ao cap kids) D _ (HL.out.below HB4.out) (HP4.out (by first | rfl | trivial)).1 (HP4.out (by first | rfl | trivial)).2).mono ?_
  rintro e w5 ⟨rfl, hb5⟩
  rw [show nameOf (Nd.kind (.mk k t m u ao cap kids)) = nm from HNM.out]
  obtain ⟨k4, -⟩ := bblk hb5 (b := w.heap.size) (by omega)
  have HB5 := Lib.hid (HB4.out.trans (hb5.mono HB4.out.size))
  have hz5 : w.heap.size < w5.heap.size := by have := hb5.size; omega
  clear hb5
  go_wp2_with fail
  refine (specName_any k _ HKW.out).mono ?_
  rintro e w6 ⟨rfl, hb6⟩
  rw [HNM.out]
  have HB6 := Lib.hid (HB5.out.trans (hb6.mono HB5.out.size))
  clear hb6
  go_wp2_with fail
  go_ret
  exact ⟨rfl, HB6.out⟩

set_option maxRecDepth 100000 in
theorem lifted (os : Os) (started : os.Started) (H : Type) (enc : TypeId × Value → H) :
    ReturnsInHanded {} Tryz.checked os 3 .any (fun w args => (Rows.fnTypeNameSpec.pre enc Tryz.prog Tryz.f3 Rows.fnTypeNameRow.domain false w args ∧ laidMetH Tryz.prog Rows.fnTypeNameRow.laid w) ∧ sizedMet enc Tryz.prog Tryz.f3 (OpenSpec.ofChange Rows.fnTypeNameSpec) false w args)
      (Rows.fnTypeNameSpec.post enc Tryz.prog Tryz.f3 false true false false) := by
  refine returnsInHanded_of_change_and (C := Tryz.checked) (X := fun w _ => laidMetH Tryz.prog Rows.fnTypeNameRow.laid w) (fun _ _ _ hh h => h.of_heap hh) own started (by kernel_rfl) Tryz.func3
    (ChangeSpec.witness_shaped (enc := enc) (C := Tryz.checked) (os := os) (X := fun w _ => laidMetH Tryz.prog Rows.fnTypeNameRow.laid w) false (World.laidAll Tryz.prog os Rows.fnTypeNameRow.laid) #[.agg #[.int .i64 0, .string ByteArray.empty, .string ByteArray.empty, .int .u64 0, .slice none 0 0]] 8 (World.laidAll_os _ _ _)
      (World.shaped_of_ZipB (by kernel_rfl) (by kernel_rfl)) (by kernel_rfl) (by kernel_rfl) (by kernel_rfl)
      (by rw [MakeChecks.laidMetH_plain _ _ _ (by kernel_rfl)]; exact laidMet_laidAll _ (by kernel_rfl) (by kernel_rfl))) ?_
  intro W base args ds gs before hval0 hW hc _ hL _
  have hval : ∀ (j : Nat) t v, Tryz.f3.params[j]? = some t → args[j]? = some v → Value.okWide Tryz.prog W .any base t v := hval0
  have hW' := hW
  obtain ⟨p, q, hA0, hV, rfl, _, _⟩ := hW
  have hA : DataW.TrodAll enc Tryz.prog W 0 (fun _ => true) true Tryz.f3.params.toList args.toList ds p := hA0
  rw [Tryz.params3] at hA hval
  obtain ⟨v0, vs0, d0, ds0, p0, q0, hargs, rfl, rfl, h0, r0⟩ := trodAll_cons hA
  obtain ⟨rfl, rfl, rfl⟩ := trodAll_nil r0
  obtain rfl : args = #[v0] := by cases args; simp_all
  obtain ⟨rfl, rfl⟩ := trodVars_none hV
  have k0 := h0
  have lt0 : ∀ x ∈ p0, x.block < W.heap.size := by obtain ⟨m, hm⟩ := k0; exact DataW.trod_lt m _ _ _ hm
  obtain ⟨D, n, rfl, hLn, hRn⟩ := open_node (hval 0 25 v0 rfl rfl) h0
  clear hA0 hval0
  rw [MakeChecks.laidMetH_plain _ _ _ (by kernel_rfl)] at hL
  refine (walk D n W hLn hRn (tabs_of hL (by simp [Rows.fnTypeNameRow, Rows.laid_unicode_utf8_first]) (by simp [Rows.fnTypeNameRow]))).mono fun e W' ⟨he, bel⟩ => ?_
  subst he
  exact ⟨_, rfl, _, _, _, [], _, [], hW', trodAll_mk1 (shut_bool Tryz.underlying4 _), (trodAll_cons_mk (Below.trod laidOut (by kernel_rfl) (of_decide_eq_true (by kernel_rfl)) k0 bel lt0) trodAll_mk0), rfl, bel.frame _, fun h => by cases h⟩

theorem j1 : (Rows.fnTypeNameRow.inPlace == Tryz.prog.inPlace 3) = true := by kernel_rfl
theorem j2 : (Rows.fnTypeNameRow.unfollowed == Tryz.prog.unfollowed 3) = true := by kernel_rfl
theorem j3 : (Rows.fnTypeNameRow.recurses == Tryz.prog.recurses 3) = true := by kernel_rfl
theorem j4 : (Rows.fnTypeNameRow.named == Tryz.prog.varsNamed 3) = true := by kernel_rfl
theorem j5 : (Tryz.prog.stops == []) = true := by kernel_rfl
theorem j6 : (Tryz.prog.stopKnobs == []) = true := by kernel_rfl

theorem facts : joinedFacts Tryz.prog 3 Tryz.f3 Rows.fnTypeNameSpec Rows.fnTypeNameRow = true := by
  unfold joinedFacts
  rw [j1, j2, j3, j4, j5, j6]
  kernel_rfl

theorem fnm : Tryz.pinned.checked.prog.funcNamed Rows.fnTypeNameRow.func = some 3 := by kernel_rfl
theorem inst : Tryz.f3.isInstance Tryz.pinned.checked.prog Rows.fnTypeNameRow.origin Rows.fnTypeNameRow.targs := of_decide_eq_true (by kernel_rfl)
theorem wrp : Tryz.f3.isWrapper Tryz.pinned.checked.prog Rows.fnTypeNameRow.wrapper Rows.fnTypeNameRow.mainSum := by unfold Func.isWrapper; first | (rw [if_pos (by decide +kernel)]; kernel_rfl) | (rw [if_neg (by decide +kernel)]; exact ⟨rfl, rfl⟩)

theorem said : Rows.FnTypeNameSaid :=
  OpenClaim.holds_of_wide 3 Tryz.f3 rfl rfl rfl rfl rfl rfl rfl ⟨rfl, rfl, rfl, rfl, rfl⟩ rfl rfl rfl rfl rfl fnm Tryz.func3 facts inst wrp
    (fun os started H enc _ => lifted os started H enc)

theorem plain (f : FuncId) (fn : Func) (hf : Tryz.pinned.checked.prog.funcNamed "given.example/pub-brazing/laws.FnTypeName" = some f) (hfn : Tryz.pinned.checked.prog.funcs[f]? = some fn) :
    true = Tryz.pinned.checked.prog.looks [] ∧ ∀ (j : Nat) t, fn.params[j]? = some t → Tryz.pinned.checked.prog.wantsStandIn t = false := by
  obtain rfl : f = 3 := Option.some.inj ((show Tryz.prog.funcNamed "given.example/pub-brazing/laws.FnTypeName" = some 3 by kernel_rfl).symm.trans hf) |>.symm
  obtain rfl : fn = Tryz.f3 := (Option.some.inj (Tryz.func3.symm.trans hfn)).symm
  refine ⟨by kernel_rfl, fun j t ht => ?_⟩
  rw [Tryz.params3] at ht
  have hm : t ∈ [25] := by simpa using Array.mem_of_getElem? ht
  have hall : ([25].all fun u => !Tryz.prog.wantsStandIn u) = true := by kernel_rfl
  exact (show Tryz.prog.wantsStandIn t = false by simpa using List.all_eq_true.1 hall t hm)

/-- THE CARD. -/
theorem card : Rows.FnTypeNameCardSaid :=
  Claim7.holds_tied_plain_at .later [] _ _ _ _ said (fun _ h => by cases h) (by kernel_rfl) (fun _ h => by cases h) fnTypeName_row_tie rfl ⟨rfl, rfl⟩ (by kernel_rfl) rfl plain (by kernel_rfl)
#print axioms card
end Go.Proofs.YtongafghllkomaaGreatDoor.fnTypeName
