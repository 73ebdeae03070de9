/-
  FnFormatUnsigned: for every unsigned number the text of the literal is its decimal digits. Conditions: the list's tables.
-/
import Derived.Test.YteecbmhkfnlecaaDoorFmt
import Derived.Test.YteecbmhkfnlecaaDoorLaid
import Derived.Test.YteecbmhkfnlecaaDoorShelf
import Derived.Lib.Hide
import Derived.Lib.AppendIntMem
import Derived.Lib.LaidTab
import Derived.Deep.LoopGhost
namespace Go.Proofs.YteecbmhkfnlecaaDoor.fnFormatUnsigned
open Go.ChangeShapes Go.WideShapes Go.ChangeAt Go.RowKit Go.Lib Go.Sort
open Go.ChangeMaps (open_string shut_string)
set_option linter.unusedVariables false

abbrev Tab (W : World) : Prop := Lib.TabIs Tryd.prog W "internal/strconv.uint64pow10" .u64 Lib.pow10Tab

theorem pow_eq : (Rows.laid_internal_strconv_uint64pow10 : DataW Unit) = tabData .u64 Lib.pow10Tab := by kernel_rfl

theorem pow_of {L : List (String × DataW Unit)} {W : World} (h : laidMet Tryd.prog L W) (m : ("internal/strconv.uint64pow10", (Rows.laid_internal_strconv_uint64pow10 : DataW Unit)) ∈ L) : Tab W := by
  obtain ⟨g, t, cs, fuel, p, hg, hty, hvar, hd⟩ := laidMet.reads h m
  rw [pow_eq] at hd
  obtain rfl := Option.some.inj ((show Tryd.prog.globalNamed "internal/strconv.uint64pow10" = some 2 by kernel_rfl).symm.trans hg)
  obtain rfl := Option.some.inj ((show (Tryd.prog.globals[2]?).map (·.type) = some 147 by kernel_rfl).symm.trans hty)
  show Lib.TabIs Tryd.prog W "internal/strconv.uint64pow10" .u64 Lib.pow10Tab
  unfold TabIs
  rw [hvar, ← cells_of_tab Tryd.underlying147 Tryd.underlying26 (by kernel_rfl) (by kernel_rfl) hd]

theorem tab_below {W W' : World} (h : Tab W) (hb : Below W.heap.size W W') : Tab W' := tabBelow_of_tabIs h W' hb

set_option maxHeartbeats 1600000 in
set_option maxRecDepth 100000 in
theorem uint_any (u : Nat) (hu64 : u < 18446744073709551616) (w : World) (htab : Tab w) :
    Calls Tryd.prog 61 #[.int .u64 u, .int .i64 10] w fun e w' => e = .returned (.string ⟨(Lib.decDigits u).toArray⟩) ∧ Below w.heap.size w w' := by
  by_cases hs : u < 100
  · have hz : (u : Int) < 100 := by omega
    go_enter Tryd.func61, Tryd.ntmps61
    go_wp2_with fail
    refine (Tryd.internal_strconv_small u hs _).mono ?_
    rintro e w' ⟨rfl, rfl⟩
    go_wp2_with fail
    go_ret
    exact ⟨rfl, Below.refl _ _⟩
  · have hz : ¬ (u : Int) < 100 := by omega
    have hu1 : 1 ≤ u := by omega
    have hnd20 : Lib.nDigits u ≤ 20 := by have := Lib.numDigits_eq u hu1 hu64; split at this <;> omega
    have hsl1 : ∀ W, (Instr.sliceAt 128 (.pointer (some ⟨w.heap.size, 0, none⟩)) none (some (.int .i64 (Lib.nDigits u : Int))) none).run Tryd.prog W = .ok (.slice (some ⟨w.heap.size, 0, none⟩) (Lib.nDigits u) 24) W := fun W => by
      rw [run_sliceAt_array_h W 128 ⟨w.heap.size, 0, none⟩ (by simp [Program.arrayLen, Program.elem, Tryd.underlying128]) .i64 (Lib.nDigits u : Int) (by omega) (by simp [Program.arrayLen, Tryd.underlying128]; omega)]
      go_simp
    have hH0 := Lib.holds_zero0 w 128 (Lib.nDigits u) (by omega)
    have hfmt := Tryd.internal_strconv_formatBase10 w.heap.size 0 24 u (Array.replicate (Lib.nDigits u) 0) (w.alloc (.cells Lib.zeros24 128)) hH0 (by rw [Array.size_replicate]; exact Lib.lt_pow_nDigits u) hu64 (by rw [Array.size_replicate]; omega)
    rw [Array.size_replicate] at hfmt
    have HH0 := Lib.hid hH0
    have HF := Lib.hid hfmt
    clear hH0 hfmt
    have ht2 := Lib.hid (Lib.tabIs_alloc htab (.cells Lib.zeros24 128))
    clear htab
    go_enter Tryd.func61, Tryd.ntmps61
    go_wp2_with fail
    refine (Tryd.internal_strconv_numDigits u hu1 hu64 _ ht2.out).mono ?_
    rintro e w' ⟨rfl, rfl⟩
    go_wp2_with fail
    refine HF.out.mono ?_
    rintro e w' ⟨rfl, k, v', dk, rfl, hF⟩
    have hcv : (convert 67 9 (.slice (some ⟨w.heap.size, 0, none⟩) (Lib.nDigits u) 24)).run Tryd.prog ((putRow (fun (b : UInt8) => Value.int .u8 (b.toNat : Int)) (w.alloc (.cells Lib.zeros24 128)) w.heap.size 0 dk).drewN k) = .ok (.string ⟨(Lib.decDigits u).toArray⟩) ((putRow (fun (b : UInt8) => Value.int .u8 (b.toNat : Int)) (w.alloc (.cells Lib.zeros24 128)) w.heap.size 0 dk).drewN k) := by
      have h := run_convert_bytes_back (P := Tryd.prog) ((putRow (fun (b : UInt8) => Value.int .u8 (b.toNat : Int)) (w.alloc (.cells Lib.zeros24 128)) w.heap.size 0 dk).drewN k) 67 9 5 ⟨w.heap.size, 0, none⟩ 24 (Lib.decDigits u) Tryd.underlying67 Tryd.underlying5 Tryd.underlying9 (fun j hj => by
        rw [Lib.row_is_numeral hF j hj, Lib.add_plain, World.cell?_drewN]
        exact cell?_putRow (fun (b : UInt8) => Value.int .u8 (b.toNat : Int)) _ w.heap.size 0 _ dk HH0.out (by rw [hF.size, Array.size_replicate]) j (by rw [hF.size]; rw [Lib.decDigits_length] at hj; exact hj))
      rw [Lib.decDigits_length] at h
      exact h
    obtain ⟨os, eo⟩ := Lib.fin_at w (.cells Lib.zeros24 128) dk k 0
    have EO := Lib.hid eo
    clear eo
    go_wp2_with fail
    go_ret
    refine ⟨rfl, ?_⟩
    rw [EO.out]
    exact ⟨rfl, rfl, rfl, by simp [grow], fun g hg => Lib.heap_grow_old w k os g hg⟩

theorem format_any (u : Nat) (hu64 : u < 18446744073709551616) (w : World) (htab : Tab w) :
    Calls Tryd.prog 51 #[.int .u64 u, .int .i64 10] w fun e w' => e = .returned (.string ⟨(Lib.decDigits u).toArray⟩) ∧ Below w.heap.size w w' := by
  have HU := Lib.hid (uint_any u hu64 w htab)
  clear htab
  go_enter Tryd.func51, Tryd.ntmps51
  go_wp2_with fail
  refine HU.out.mono ?_
  rintro e w' ⟨rfl, hb⟩
  go_wp2_with fail
  go_ret
  exact ⟨rfl, hb⟩

theorem cells_of (s : ByteArray) : Lib.strCells s = Lib.byteCells s.data.toList := by simp [Lib.strCells, Lib.byteCells]

theorem builder_below {b : Nat} {W W1 : World} (h : Lib.IsBuilderF 102 5 b b [] W) (hb : Below W.heap.size W W1) : Lib.IsBuilderF 102 5 b b [] W1 := by
  have key : ∀ p, Lib.BuilderAtF 102 5 b b p [] W → Lib.BuilderAtF 102 5 b b p [] W1 := by
    rintro p ⟨h1, v, h2, h3, h4⟩
    exact ⟨h1, v, (hb.block b (Array.getElem?_eq_some_iff.1 h2).1).trans h2, h3.kept ⟨hb.os, hb.tape, hb.output, hb.size, fun i hi _ => hb.block i hi⟩ (row := none) (Classical.em _), h4⟩
  exact h.elim (fun x => .inl (key _ x)) (fun x => .inr (key _ x))

theorem others_below {b : Nat} {W W1 : World} (hb : Below W.heap.size W W1) : Lib.OthersKept 5 (some b) W W1 := fun k o h _ _ => (hb.block k (Array.getElem?_eq_some_iff.1 h).1).trans h

theorem dec_len (u : Nat) (hu : u < 18446744073709551616) : (Lib.decDigits u).length ≤ 20 := by
  by_cases h0 : 1 ≤ u
  · rw [Lib.decDigits_length]
    have := Lib.numDigits_eq u h0 hu
    split at this <;> omega
  · obtain rfl : u = 0 := by omega
    rw [Lib.decDigits_one (by omega)]
    simp

theorem writes (u : Nat) (hu : u < 18446744073709551616) (c p : Addr) (w : World) (ht : Tab w) (hc : w.cell? c = some (.pointer (some ⟨p.block, 0, none⟩))) (hp : w.cell? ⟨p.block, 3, none⟩ = some (.int .u64 u)) (lc : c.block < w.heap.size) (lp : p.block < w.heap.size) : Writes 37 c (Lib.decDigits u) w := by
  intro W b f hb hB hbs hf hcf hI
  have h1 : W.cell? c = some (.pointer (some ⟨p.block, 0, none⟩)) := by rw [hb.cell lc]; exact hc
  have h2 : W.cell? ⟨p.block, 3, none⟩ = some (.int .u64 u) := by rw [hb.cell (p := ⟨p.block, 3, none⟩) lp]; exact hp
  obtain ⟨cb, co, cs⟩ := c
  obtain rfl : cs = none := World.cell?_spot h1
  have HT := Lib.hid (tab_below ht hb)
  clear hc hp ht
  go_enter Tryd.func37, Tryd.ntmps37
  go_wp2_with fail
  go_in
  go_wp2_with fail
  refine (format_any u hu W HT.out).mono ?_
  rintro e w1 ⟨rfl, hb1⟩
  have hsz := hb1.size
  have hcf1 := (hb1.cell (p := ⟨f, 0, none⟩) hf).trans hcf
  have hnd := dec_len u hu
  have hds : (⟨(Lib.decDigits u).toArray⟩ : ByteArray).size ≤ 20 := by simpa [ByteArray.size] using hnd
  have HW := Lib.hid (fmtWrite b b f [] ⟨(Lib.decDigits u).toArray⟩ w1 hcf1 (builder_below hI hb1) (by simp; omega) (by omega))
  have HO := Lib.hid (others_below (b := b) hb1)
  have HB1 := Lib.hid (hb1.mono (B' := b) (by omega))
  clear hb1 hI hcf1 hcf h1 h2 hds hnd hsz
  go_wp2_with fail
  refine HW.out.mono ?_
  rintro e w2 ⟨rfl, h3, h4, h5⟩
  go_wp2_with fail
  go_end0
  go_wp2_with fail
  go_end0
  refine ⟨rfl, ?_, HB1.out.trans h4, HO.out.trans h5⟩
  rw [List.nil_append, cells_of] at h3
  exact .inr h3

theorem form_any (u : Nat) (hu : u < 18446744073709551616) (w : World) (ht : Tab w) :
    Calls Tryd.prog 12 #[.int .u64 u] w fun e w' => e = .returned (.string ⟨(Lib.decDigits u).toArray⟩) ∧ Below w.heap.size w w' := by
  have HT := Lib.hid ht
  clear ht
  go_enter Tryd.func12, Tryd.ntmps12
  go_wp2_with fail
  go_in
  go_wp2_with fail
  refine (written_37 _ (Lib.decDigits u) _ (writes u hu _ ⟨w.heap.size, 0, none⟩ _ (tab_below HT.out (((Below.refl _ _).alloc (Nat.le_refl _) _).alloc (by simp) _)) (by simp [go_sem]) (by simp [go_sem]) (by simp) (by simp; omega))).mono ?_
  rintro e w1 ⟨rfl, hb⟩
  go_wp2_with fail
  go_ret
  exact ⟨rfl, (((Below.refl _ _).alloc (Nat.le_refl _) _).alloc (by simp) _).trans (hb.mono (by simp; omega))⟩

set_option maxHeartbeats 400000 in
set_option maxRecDepth 100000 in
theorem digits_any (u : Nat) (hu : u < 18446744073709551616) (w : World) :
    Calls Tryd.prog 13 #[.int .u64 u] w fun e w' => e = .returned (.string ⟨(Lib.decDigits u).toArray⟩) ∧ Below w.heap.size w w' := by
  go_enter Tryd.func13, Tryd.ntmps13
  go_wp2_with fail
  go_loopg [0, 3] u (fun gk x a wr => ∃ (v : Nat) (acc : ByteArray), gk = v ∧ v < 18446744073709551616 ∧ x = .int .u64 (v : Int) ∧ a = .string acc ∧ Hid (Lib.decDigits u = Lib.decDigits v ++ acc.data.toList) ∧ Hid (Below w.heap.size w wr))
  case atStart => exact ⟨u, _, rfl, hu, rfl, rfl, Lib.hid (by simp), Lib.hid (Below.refl _ _)⟩
  case round =>
    obtain ⟨v, acc, rfl, hv, rfl, rfl, HD, HB⟩ := hrel
    have hcv := run_convert_bytes_back (P := Tryd.prog) (wr.alloc (.cells #[.int .u8 (48 + (gk : Int) % 10)] 5)) 67 9 5 ⟨wr.heap.size, 0, none⟩ 1 [UInt8.ofNat (48 + gk % 10)] Tryd.underlying67 Tryd.underlying5 Tryd.underlying9 (fun j hj => by
      obtain rfl : j = 0 := by simp at hj; omega
      have : (UInt8.ofNat (48 + gk % 10)).toNat = 48 + gk % 10 := by
        rw [UInt8.toNat_ofNat']
        omega
      simp [Addr.add]
      omega)
    have has : acc.size ≤ 20 := by
      have h1 := dec_len u hu
      rw [HD.out, List.length_append] at h1
      have h2 : acc.data.toList.length = acc.size := by simp
      omega
    have HB2 := Lib.hid (HB.out.alloc HB.out.size (.cells #[.int .u8 (48 + (gk : Int) % 10)] 5))
    have hos : (⟨[UInt8.ofNat (48 + gk % 10)].toArray⟩ : ByteArray).size = 1 := rfl
    have hol : (⟨[UInt8.ofNat (48 + gk % 10)].toArray⟩ : ByteArray).data.toList = [UInt8.ofNat (48 + gk % 10)] := rfl
    replace hcv : (convert 67 9 (.slice (some ⟨wr.heap.size, 0, none⟩) 1 1)).run Tryd.prog (wr.alloc (.cells #[.int .u8 (48 + (gk : Int) % 10)] 5)) = .ok (.string ⟨[UInt8.ofNat (48 + gk % 10)].toArray⟩) (wr.alloc (.cells #[.int .u8 (48 + (gk : Int) % 10)] 5)) := hcv
    have HOL := Lib.hid hol
    generalize (⟨[UInt8.ofNat (48 + gk % 10)].toArray⟩ : ByteArray) = one at hcv hos HOL
    clear hol
    by_cases h10 : gk < 10
    · have h0 : ((gk : Int) / 10 == 0) = true := by simp; omega
      go_wp2_with fail
      go_ret
      refine ⟨?_, HB2.out⟩
      show Ending.returned (.string (one ++ acc)) = _
      have e : one ++ acc = ⟨(Lib.decDigits u).toArray⟩ := by
        apply ByteArray.ext
        apply Array.toList_inj.1
        rw [ByteArray.data_append, Array.toList_append, HOL.out]
        show _ = Lib.decDigits u
        rw [HD.out, Lib.decDigits_one h10, Nat.mod_eq_of_lt h10]
      rw [e]
    · have h0 : ((gk : Int) / 10 == 0) = false := by simp; omega
      go_wp2_with fail
      go_roundg (gk / 10)
      case measure => omega
      case rel =>
        refine ⟨gk / 10, _, rfl, by omega, by push_cast; rfl, rfl, Lib.hid ?_, HB2⟩
        rw [HD.out, Lib.decDigits, dif_neg h10]
        simp [ByteArray.data_append, HOL.out]

theorem walk (u : Nat) (hu : u < 18446744073709551616) (w : World) (ht : Tab w) :
    Calls Tryd.prog 5 #[.int .u64 u] w fun e w' => e = .returned (.bool true) ∧ Below w.heap.size w w' := by
  have HT := Lib.hid ht
  clear ht
  have he : ((⟨(Lib.decDigits u).toArray⟩ : ByteArray).toList == (⟨(Lib.decDigits u).toArray⟩ : ByteArray).toList) = true := by simp
  go_enter Tryd.func5, Tryd.ntmps5
  go_wp2_with fail
  refine (form_any u hu w HT.out).mono ?_
  rintro e w1 ⟨rfl, hb1⟩
  have HB1 := Lib.hid hb1
  clear hb1
  go_wp2_with fail
  refine (digits_any u hu w1).mono ?_
  rintro e w2 ⟨rfl, hb2⟩
  generalize (⟨(Lib.decDigits u).toArray⟩ : ByteArray) = S at he
  go_wp2_with fail
  go_ret
  exact ⟨rfl, HB1.out.trans (hb2.mono HB1.out.size)⟩

theorem u64_wf {x : Int} (h : (Lit.int .u64 x).wf = true) : ∃ u : Nat, u < 18446744073709551616 ∧ x = u := by
  have h1 : (decide (IntKind.u64.min ≤ x) && decide (x ≤ IntKind.u64.max)) = true := h
  simp only [Bool.and_eq_true, decide_eq_true_eq, show IntKind.u64.min = 0 from by decide, show IntKind.u64.max = 18446744073709551615 from by decide] at h1
  exact ⟨x.toNat, by omega, by omega⟩

set_option maxRecDepth 100000 in
theorem lifted (os : Os) (started : os.Started) (H : Type) (enc : TypeId × Value → H) :
    ReturnsInHanded {} Tryd.checked os 5 .any (fun w args => (Rows.fnFormatUnsignedSpec.pre enc Tryd.prog Tryd.f5 Rows.fnFormatUnsignedRow.domain false w args ∧ laidMetH Tryd.prog Rows.fnFormatUnsignedRow.laid w) ∧ sizedMet enc Tryd.prog Tryd.f5 (OpenSpec.ofChange Rows.fnFormatUnsignedSpec) false w args)
      (Rows.fnFormatUnsignedSpec.post enc Tryd.prog Tryd.f5 false true false false) := by
  refine returnsInHanded_of_change_and (C := Tryd.checked) (X := fun w _ => laidMetH Tryd.prog Rows.fnFormatUnsignedRow.laid w) (fun _ _ _ hh h => h.of_heap hh) own started (by kernel_rfl) Tryd.func5
    (ChangeSpec.witness_shaped (enc := enc) (C := Tryd.checked) (os := os) (X := fun w _ => laidMetH Tryd.prog Rows.fnFormatUnsignedRow.laid w) false (World.laidAll Tryd.prog os Rows.fnFormatUnsignedRow.laid) #[.int .u64 0] 8 (World.laidAll_os _ _ _)
      (World.shaped_of_ZipB (by kernel_rfl) (by kernel_rfl)) (by kernel_rfl) (by kernel_rfl) (by kernel_rfl)
      (by rw [MakeChecks.laidMetH_plain _ _ _ (by kernel_rfl)]; exact laidMet_laidAll _ (by kernel_rfl) (by kernel_rfl))) ?_
  intro W base args ds gs before hval0 hW hc _ hL _
  have hval : ∀ (j : Nat) t v, Tryd.f5.params[j]? = some t → args[j]? = some v → Value.okWide Tryd.prog W .any base t v := hval0
  have hW' := hW
  obtain ⟨p, q, hA0, hV, rfl, _, _⟩ := hW
  have hA : DataW.TrodAll enc Tryd.prog W 0 (fun _ => true) true Tryd.f5.params.toList args.toList ds p := hA0
  rw [Tryd.params5] at hA hval
  obtain ⟨v0, vs0, d0, ds0, p0, q0, hargs, rfl, rfl, h0, r0⟩ := trodAll_cons hA
  obtain ⟨rfl, rfl, rfl⟩ := trodAll_nil r0
  obtain rfl : args = #[v0] := by cases args; simp_all
  obtain ⟨rfl, rfl⟩ := trodVars_none hV
  have k0 := h0
  have lt0 : ∀ x ∈ p0, x.block < W.heap.size := by obtain ⟨m, hm⟩ := k0; exact DataW.trod_lt m _ _ _ hm
  obtain ⟨x, rfl, -, -, hwf⟩ := open_int Tryd.underlying26 (hval 0 26 v0 rfl rfl) h0
  obtain ⟨u, hu, rfl⟩ := u64_wf hwf
  clear hA0 hval0
  rw [MakeChecks.laidMetH_plain _ _ _ (by kernel_rfl)] at hL
  refine (walk u hu W (pow_of hL (by simp [Rows.fnFormatUnsignedRow]))).mono fun e W' ⟨he, bel⟩ => ?_
  subst he
  exact ⟨_, rfl, _, _, _, [], _, [], hW', trodAll_mk1 (shut_bool Tryd.underlying4 _), (trodAll_cons_mk (Below.trod laidOut (by kernel_rfl) (of_decide_eq_true (by kernel_rfl)) k0 bel lt0) trodAll_mk0), rfl, bel.frame _, fun h => by cases h⟩

theorem said : Rows.FnFormatUnsignedSaid :=
  OpenClaim.holds_of_wide 5 Tryd.f5 rfl rfl rfl rfl rfl rfl rfl ⟨rfl, rfl, rfl, rfl, rfl⟩ rfl rfl rfl rfl rfl (by kernel_rfl) Tryd.func5 (by kernel_rfl)
    (of_decide_eq_true (by kernel_rfl)) (by unfold Func.isWrapper; first | (rw [if_pos (by decide +kernel)]; kernel_rfl) | (rw [if_neg (by decide +kernel)]; exact ⟨rfl, rfl⟩))
    (fun os started H enc _ => lifted os started H enc)

theorem plain (f : FuncId) (fn : Func) (hf : Tryd.pinned.checked.prog.funcNamed "given.example/pub-brazing/laws.FnFormatUnsigned" = some f) (hfn : Tryd.pinned.checked.prog.funcs[f]? = some fn) :
    false = Tryd.pinned.checked.prog.looks [] ∧ ∀ (j : Nat) t, fn.params[j]? = some t → Tryd.pinned.checked.prog.wantsStandIn t = false := by
  obtain rfl : f = 5 := Option.some.inj ((show Tryd.prog.funcNamed "given.example/pub-brazing/laws.FnFormatUnsigned" = some 5 by kernel_rfl).symm.trans hf) |>.symm
  obtain rfl : fn = Tryd.f5 := (Option.some.inj (Tryd.func5.symm.trans hfn)).symm
  refine ⟨by kernel_rfl, fun j t ht => ?_⟩
  rw [Tryd.params5] at ht
  have hm : t ∈ [26] := by simpa using Array.mem_of_getElem? ht
  have hall : ([26].all fun u => !Tryd.prog.wantsStandIn u) = true := by kernel_rfl
  exact (show Tryd.prog.wantsStandIn t = false by simpa using List.all_eq_true.1 hall t hm)

/-- ████ THE CARD ████ -/
theorem card : Rows.FnFormatUnsignedCardSaid :=
  Claim7.holds_tied_plain_at .later [] _ _ _ _ said (fun _ h => by cases h) (by kernel_rfl) (fun _ h => by cases h) fnFormatUnsigned_row_tie rfl ⟨rfl, rfl⟩ (by kernel_rfl) rfl plain (by kernel_rfl)
#print axioms card
end Go.Proofs.YteecbmhkfnlecaaDoor.fnFormatUnsigned
