/-
  FnFormatTextPart: for every text the law returns true. Conditions: the list's tables.
-/
import Derived.Test.YteecbmhkfnlecaaGreatDoorFm
import Derived.Test.YteecbmhkfnlecaaGreatDoorLaid
import Derived.Test.YteecbmhkfnlecaaGreatDoorTx
import Derived.Test.YteecbmhkfnlecaaGreatDoorTn
import Derived.Test.YteecbmhkfnlecaaGreatDoorLg
import Derived.Test.YteecbmhkfnlecaaGreatDoorRdP
import Derived.Lib.Hide
import Derived.OpenShut
namespace Go.Proofs.YteecbmhkfnlecaaGreatDoor.fnFormatTextPart
open Go.ChangeShapes Go.WideShapes Go.ChangeAt Go.RowKit Go.Lib
open Go.ChangeMaps (open_string shut_string)
set_option linter.unusedVariables false
set_option linter.unusedSimpArgs false

theorem cells_of (s : ByteArray) : Lib.strCells s = Lib.byteCells s.data.toList := by simp [Lib.strCells, Lib.byteCells]

theorem builder_below {b : Nat} {W W1 : World} (h : Lib.IsBuilderF 70 5 b b [] W) (hb : Below W.heap.size W W1) : Lib.IsBuilderF 70 5 b b [] W1 := by
  have key : ∀ p, Lib.BuilderAtF 70 5 b b p [] W → Lib.BuilderAtF 70 5 b b p [] W1 := by
    rintro p ⟨h1, v, h2, h3, h4⟩
    exact ⟨h1, v, (hb.block b (Array.getElem?_eq_some_iff.1 h2).1).trans h2, h3.kept ⟨hb.os, hb.tape, hb.output, hb.size, fun i hi _ => hb.block i hi⟩ (row := none) (Classical.em _), h4⟩
  exact h.elim (fun x => .inl (key _ x)) (fun x => .inr (key _ x))

theorem others_below {b : Nat} {W W1 : World} (hb : Below W.heap.size W W1) : Lib.OthersKept 5 (some b) W W1 := fun k o h _ _ => (hb.block k (Array.getElem?_eq_some_iff.1 h).1).trans h

theorem writes (s : ByteArray) (hs : s.size ≤ 1000000) (hv : validD s.data.toList = true) (c p : Addr) (w : World) (hc : w.cell? c = some (.pointer (some ⟨p.block, 0, none⟩))) (hp0 : w.cell? ⟨p.block, 3, none⟩ = some (.string s)) (lc : c.block < w.heap.size) (lp : p.block < w.heap.size) : Writes 20 c (escB s.data.toList) w := by
  intro W b f hb hB hbs hf hcf hI
  have h1 : W.cell? c = some (.pointer (some ⟨p.block, 0, none⟩)) := by rw [hb.cell lc]; exact hc
  have g0 : W.cell? ⟨p.block, 3, none⟩ = some (.string s) := by rw [hb.cell (p := ⟨p.block, 3, none⟩) lp]; exact hp0
  obtain ⟨cb, co, cs⟩ := c
  obtain rfl : cs = none := World.cell?_spot h1
  have HF := Lib.hid (escape_any s W hs hv)
  have hel := escB_len s.data.toList
  have hsl : s.data.toList.length = s.size := by simp
  clear hc hp0 hv
  go_enter Tryz.func20, Tryz.ntmps20
  go_wp2_with fail
  go_in
  go_wp2_with fail
  refine HF.out.mono ?_
  rintro e w1 ⟨rfl, hb1⟩
  have hsz := hb1.size
  have hcf1 := (hb1.cell (p := ⟨f, 0, none⟩) hf).trans hcf
  have hds : (⟨(escB s.data.toList).toArray⟩ : ByteArray).size ≤ 2000000 := by rw [bsize]; show (escB s.data.toList).length ≤ _; omega
  have HW := Lib.hid (fmtWrite b b f [] ⟨(escB s.data.toList).toArray⟩ w1 hcf1 (builder_below hI hb1) (by simp; omega) (by omega))
  have HO := Lib.hid (others_below (b := b) hb1)
  have HB1 := Lib.hid (hb1.mono (B' := b) (by omega))
  clear hb1 hI hcf1 hcf h1 g0 hds hsz hel hsl
  go_wp2_with fail
  refine HW.out.mono ?_
  rintro e w2 ⟨rfl, h3, h4, h5⟩
  go_wp2_with fail
  go_end0
  go_wp2_with fail
  go_end0
  refine ⟨rfl, ?_, HB1.out.trans h4, HO.out.trans h5⟩
  rw [List.nil_append, cells_of] at h3
  exact .inr h3

theorem form_any (s : ByteArray) (hs : s.size ≤ 1000000) (hv : validD s.data.toList = true) (w : World) :
    Calls Tryz.prog 4 #[.string s] w fun e w' => e = .returned (.string ⟨(escB s.data.toList).toArray⟩) ∧ Below w.heap.size w w' := by
  have HV := Lib.hid hv
  clear hv
  go_enter Tryz.func4, Tryz.ntmps4
  go_wp2_with fail
  go_in
  go_wp2_with fail
  refine (written_of _ (escB s.data.toList) _ (writes s hs HV.out _ ⟨w.heap.size, 0, none⟩ _ (by simp [go_sem]) (by simp [go_sem]) (by simp) (by simp; omega))).mono ?_
  rintro e w1 ⟨rfl, hb⟩
  go_wp2_with fail
  go_ret
  exact ⟨rfl, (((Below.refl _ _).alloc (Nat.le_refl _) _).alloc (by simp) _).trans (hb.mono (by simp; omega))⟩

/-- A text of one token, read. -/
theorem read_text (l : List UInt8) (s : ByteArray) (hs : s.data.toList = 34 :: (escB l ++ [34])) (hl : l.length ≤ 300) (hp : PT l) (w : World) (hT : Tabs w) :
    Calls Tryz.prog 8 #[.string s] w fun e w' => e = .returned (.tuple #[leafV 34 ⟨l.toArray⟩ 0, .bool true]) ∧ Below w.heap.size w w' := by
  have hsz : s.size ≤ 200002 := by
    have := escB_len l
    rw [bsize, hs]; simp; omega
  exact read_expr s ⟨l.toArray⟩ ⟨l.toArray⟩ 4 34 0 (by decide) (by decide) ⟨next_text s l hs (by omega) hp, pri_text s _ (by omega)⟩ w hT

set_option maxRecDepth 100000 in
set_option maxHeartbeats 1000000 in
theorem walk (s : ByteArray) (w : World) (hT : Tabs w) :
    Calls Tryz.prog 3 #[.string s] w fun e w' => e = .returned (.bool true) ∧ Below w.heap.size w w' := by
  have HT := Lib.hid hT
  clear hT
  by_cases hs : 2147483647 < s.size
  · have hz : (2147483647 : Int) < (s.size : Int) := by omega
    go_enter Tryz.func3, Tryz.ntmps3
    go_wp2_with fail
    go_ret
    exact ⟨rfl, Below.refl _ _⟩
  have hz : ¬ (2147483647 : Int) < (s.size : Int) := by omega
  have hF0 := form_any ⟨#[97]⟩ (by decide) (by decide) w
  have e0 : (⟨(escB (⟨#[97]⟩ : ByteArray).data.toList).toArray⟩ : ByteArray) = ⟨#[97]⟩ := rfl
  rw [e0] at hF0
  have HF0 := Lib.hid hF0
  have he : ((⟨#[97]⟩ : ByteArray).toList == (⟨#[97]⟩ : ByteArray).toList) = true := by simp
  clear hF0 e0
  go_enter Tryz.func3, Tryz.ntmps3
  go_wp2_with fail
  refine HF0.out.mono ?_
  rintro e w1 ⟨rfl, hb1⟩
  have HB1 := Lib.hid hb1
  clear hb1
  go_wp2_with fail
  refine (tree_str s w1).mono ?_
  rintro e w2 ⟨rfl, hb2⟩
  have HB2 := Lib.hid (HB1.out.trans (hb2.mono HB1.out.size))
  clear hb2
  have HFT := Lib.hid (fun W (hW : Below w.heap.size w W) => Fits_str s W (by omega) (tabs_keep HT.out hW))
  go_wp2_with fail
  have HB3 := Lib.hid (HB2.out.alloc HB2.out.size (.cells #[.int .i64 34, .string s, .string ⟨#[]⟩, .int .u64 0, .slice none 0 0] 26))
  refine (HFT.out _ HB3.out).mono ?_
  rintro e w3 ⟨b, rfl, hb, hb3⟩
  have HB4 := Lib.hid (HB3.out.trans (hb3.mono HB3.out.size))
  obtain ⟨k0, -⟩ := oblk hb3 (b := w2.heap.size) (by simp)
  have hz3 : w2.heap.size < w3.heap.size := by have := hb3.size; simp at this; omega
  have HPl := Lib.hid hb
  clear hb hb3
  cases b
  · go_wp2_with fail
    go_ret
    exact ⟨rfl, HB4.out⟩
  obtain ⟨hval, h300⟩ := HPl.out (by first | rfl | trivial)
  have HVAL := Lib.hid hval
  clear hval
  go_wp2_with fail
  refine (Writable_str s w3 (by omega)).mono ?_
  rintro e w4 ⟨b, rfl, hb, hb4⟩
  have HB5 := Lib.hid (HB4.out.trans (hb4.mono HB4.out.size))
  obtain ⟨k1, -⟩ := oblk hb4 (b := w2.heap.size) hz3
  have hz4 : w2.heap.size < w4.heap.size := by have := hb4.size; omega
  have HPt := Lib.hid hb
  clear hb hb4
  cases b
  · go_wp2_with fail
    go_ret
    exact ⟨rfl, HB5.out⟩
  have hpt := HPt.out (by first | rfl | trivial)
  have HPT := Lib.hid hpt
  clear hpt
  have HFM := Lib.hid (form_any s (by omega) HVAL.out w4)
  have hlen : s.data.toList.length = s.size := by simp
  obtain ⟨E, hE⟩ : ∃ E : ByteArray, E = ⟨(escB s.data.toList).toArray⟩ := ⟨_, rfl⟩
  rw [← hE] at HFM
  have hEz : E.size ≤ 600 := by
    have := escB_len s.data.toList
    rw [hE, bsize]; show (escB s.data.toList).length ≤ _; omega
  have HED := Lib.hid (show E.data.toList = escB s.data.toList by rw [hE])
  have HLEN := Lib.hid hlen
  clear hE hlen
  go_wp2_with fail
  refine HFM.out.mono ?_
  rintro e w5 ⟨rfl, hb5⟩
  have HB6 := Lib.hid (HB5.out.trans (hb5.mono HB5.out.size))
  obtain ⟨k2, -⟩ := oblk hb5 (b := w2.heap.size) hz4
  have hz5 : w2.heap.size < w5.heap.size := by have := hb5.size; omega
  clear hb5 HFM
  have hse : (⟨s.data.toList.toArray⟩ : ByteArray) = s := by simp
  have hRD := read_text s.data.toList ((⟨#[34]⟩ : ByteArray) ++ E ++ ⟨#[34]⟩) (by simp [ByteArray.data_append, HED.out]) (by rw [HLEN.out]; exact h300) HPT.out w5 (tabs_keep HT.out HB6.out)
  rw [hse] at hRD
  have HRD := Lib.hid hRD
  clear hRD hse
  go_wp2_with fail
  refine HRD.out.mono ?_
  rintro e w6 ⟨rfl, hb6⟩
  have HB7 := Lib.hid (HB6.out.trans (hb6.mono HB6.out.size))
  obtain ⟨k3, -⟩ := oblk hb6 (b := w2.heap.size) hz5
  have hz6 : w2.heap.size < w6.heap.size := by have := hb6.size; omega
  clear hb6 HRD
  go_wp2_with fail
  refine (same_str s _).mono ?_
  rintro e w7 ⟨rfl, hb7⟩
  have HB8 := Lib.hid ((HB7.out.alloc HB7.out.size (.cells #[.int .i64 34, .string s, .string ⟨#[]⟩, .int .u64 0, .slice none 0 0] 26)).trans (hb7.mono (by have := HB7.out.size; simp; omega)))
  clear hb7
  go_wp2_with fail
  go_ret
  exact ⟨rfl, HB8.out⟩

set_option maxRecDepth 100000 in
theorem lifted (os : Os) (started : os.Started) (H : Type) (enc : TypeId × Value → H) :
    ReturnsInHanded {} Tryz.checked os 3 .any (fun w args => (Rows.fnFormatTextPartSpec.pre enc Tryz.prog Tryz.f3 Rows.fnFormatTextPartRow.domain false w args ∧ laidMetH Tryz.prog Rows.fnFormatTextPartRow.laid w) ∧ sizedMet enc Tryz.prog Tryz.f3 (OpenSpec.ofChange Rows.fnFormatTextPartSpec) false w args)
      (Rows.fnFormatTextPartSpec.post enc Tryz.prog Tryz.f3 false true false false) := by
  refine returnsInHanded_of_change_and (C := Tryz.checked) (X := fun w _ => laidMetH Tryz.prog Rows.fnFormatTextPartRow.laid w) (fun _ _ _ hh h => h.of_heap hh) own started (by kernel_rfl) Tryz.func3
    (ChangeSpec.witness_shaped (enc := enc) (C := Tryz.checked) (os := os) (X := fun w _ => laidMetH Tryz.prog Rows.fnFormatTextPartRow.laid w) false (World.laidAll Tryz.prog os Rows.fnFormatTextPartRow.laid) #[.string ByteArray.empty] 8 (World.laidAll_os _ _ _)
      (World.shaped_of_ZipB (by kernel_rfl) (by kernel_rfl)) (by kernel_rfl) (by kernel_rfl) (by kernel_rfl)
      (by rw [MakeChecks.laidMetH_plain _ _ _ (by kernel_rfl)]; exact laidMet_laidAll _ (by kernel_rfl) (by kernel_rfl))) ?_
  intro W base args ds gs before hval0 hW hc _ hL _
  have hval : ∀ (j : Nat) t v, Tryz.f3.params[j]? = some t → args[j]? = some v → Value.okWide Tryz.prog W .any base t v := hval0
  have hW' := hW
  obtain ⟨p, q, hA0, hV, rfl, _, _⟩ := hW
  have hA : DataW.TrodAll enc Tryz.prog W 0 (fun _ => true) true Tryz.f3.params.toList args.toList ds p := hA0
  rw [Tryz.params3] at hA hval
  obtain ⟨v0, vs0, d0, ds0, p0, q0, hargs, rfl, rfl, h0, r0⟩ := trodAll_cons hA
  obtain ⟨rfl, rfl, rfl⟩ := trodAll_nil r0
  obtain rfl : args = #[v0] := by cases args; simp_all
  obtain ⟨rfl, rfl⟩ := trodVars_none hV
  have k0 := h0
  have lt0 : ∀ x ∈ p0, x.block < W.heap.size := by obtain ⟨m, hm⟩ := k0; exact DataW.trod_lt m _ _ _ hm
  obtain ⟨s, rfl, -, -, -⟩ := open_string Tryz.underlying9 (hval 0 9 v0 rfl rfl) h0
  clear hA0 hval0
  rw [MakeChecks.laidMetH_plain _ _ _ (by kernel_rfl)] at hL
  refine (walk s W (tabs_of hL (by simp [Rows.fnFormatTextPartRow, Rows.laid_unicode_utf8_first]) (by simp [Rows.fnFormatTextPartRow]))).mono fun e W' ⟨he, bel⟩ => ?_
  subst he
  exact ⟨_, rfl, _, _, _, [], _, [], hW', trodAll_mk1 (shut_bool Tryz.underlying4 _), (trodAll_cons_mk (Below.trod laidOut (by kernel_rfl) (of_decide_eq_true (by kernel_rfl)) k0 bel lt0) trodAll_mk0), rfl, bel.frame _, fun h => by cases h⟩

theorem j1 : (Rows.fnFormatTextPartRow.inPlace == Tryz.prog.inPlace 3) = true := by kernel_rfl
theorem j2 : (Rows.fnFormatTextPartRow.unfollowed == Tryz.prog.unfollowed 3) = true := by kernel_rfl
theorem j3 : (Rows.fnFormatTextPartRow.recurses == Tryz.prog.recurses 3) = true := by kernel_rfl
theorem j4 : (Rows.fnFormatTextPartRow.named == Tryz.prog.varsNamed 3) = true := by kernel_rfl
theorem j5 : (Tryz.prog.stops == []) = true := by kernel_rfl
theorem j6 : (Tryz.prog.stopKnobs == []) = true := by kernel_rfl

theorem facts : joinedFacts Tryz.prog 3 Tryz.f3 Rows.fnFormatTextPartSpec Rows.fnFormatTextPartRow = true := by
  unfold joinedFacts
  rw [j1, j2, j3, j4, j5, j6]
  kernel_rfl

theorem fnm : Tryz.pinned.checked.prog.funcNamed Rows.fnFormatTextPartRow.func = some 3 := by kernel_rfl
theorem inst : Tryz.f3.isInstance Tryz.pinned.checked.prog Rows.fnFormatTextPartRow.origin Rows.fnFormatTextPartRow.targs := of_decide_eq_true (by kernel_rfl)
theorem wrp : Tryz.f3.isWrapper Tryz.pinned.checked.prog Rows.fnFormatTextPartRow.wrapper Rows.fnFormatTextPartRow.mainSum := by unfold Func.isWrapper; first | (rw [if_pos (by decide +kernel)]; kernel_rfl) | (rw [if_neg (by decide +kernel)]; exact ⟨rfl, rfl⟩)

theorem said : Rows.FnFormatTextPartSaid :=
  OpenClaim.holds_of_wide 3 Tryz.f3 rfl rfl rfl rfl rfl rfl rfl ⟨rfl, rfl, rfl, rfl, rfl⟩ rfl rfl rfl rfl rfl fnm Tryz.func3 facts inst wrp
    (fun os started H enc _ => lifted os started H enc)

theorem plain (f : FuncId) (fn : Func) (hf : Tryz.pinned.checked.prog.funcNamed "given.example/pub-brazing/laws.FnFormatTextPart" = some f) (hfn : Tryz.pinned.checked.prog.funcs[f]? = some fn) :
    false = Tryz.pinned.checked.prog.looks [] ∧ ∀ (j : Nat) t, fn.params[j]? = some t → Tryz.pinned.checked.prog.wantsStandIn t = false := by
  obtain rfl : f = 3 := Option.some.inj ((show Tryz.prog.funcNamed "given.example/pub-brazing/laws.FnFormatTextPart" = some 3 by kernel_rfl).symm.trans hf) |>.symm
  obtain rfl : fn = Tryz.f3 := (Option.some.inj (Tryz.func3.symm.trans hfn)).symm
  refine ⟨by kernel_rfl, fun j t ht => ?_⟩
  rw [Tryz.params3] at ht
  have hm : t ∈ [9] := by simpa using Array.mem_of_getElem? ht
  have hall : ([9].all fun u => !Tryz.prog.wantsStandIn u) = true := by kernel_rfl
  exact (show Tryz.prog.wantsStandIn t = false by simpa using List.all_eq_true.1 hall t hm)

/-- THE CARD. -/
theorem card : Rows.FnFormatTextPartCardSaid :=
  Claim7.holds_tied_plain_at .later [] _ _ _ _ said (fun _ h => by cases h) (by kernel_rfl) (fun _ h => by cases h) fnFormatTextPart_row_tie rfl ⟨rfl, rfl⟩ (by kernel_rfl) rfl plain (by kernel_rfl)
#print axioms card
end Go.Proofs.YteecbmhkfnlecaaGreatDoor.fnFormatTextPart
