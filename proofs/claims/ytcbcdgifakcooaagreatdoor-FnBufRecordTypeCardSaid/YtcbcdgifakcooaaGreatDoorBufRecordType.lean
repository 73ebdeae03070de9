/-
  FnBufRecordType: for every tree and either form of the buffer the law returns true. No conditions beyond the tables that its card ties.
-/
import Derived.Test.YtcbcdgifakcooaaGreatDoorTl
import Derived.Test.YtcbcdgifakcooaaGreatDoorFx
import Derived.WalkKit
import Derived.ProofKit
import Derived.OpenShut
import Derived.Lib.Hide
namespace Go.Proofs.YtcbcdgifakcooaaGreatDoor.fnBufRecordType
open Go.ChangeShapes Go.WideShapes Go.ChangeAt Go.RowKit
open Go.ChangeMaps (open_string shut_string)
set_option linter.unusedVariables false

theorem impl (D : Nat) (n : Nd) (hP : TyQ D 49 n) (B : By) (p : Nat) (hR : TyR 12 n B p) (hl : B.length ≤ 1073000000) (h4 : 4 ≤ B.length) (hd : leAt B 0 4 = p) (hp : p < B.length) (w : World) (rb cap K : Nat) (hown : w.ownsRow K 5 1 (.slice (some ⟨rb, 0, none⟩) B.length cap) B.length (bytesV B)) :
    Calls Tryz.prog 12 #[.slice (some ⟨rb, 0, none⟩) B.length cap] w (BufPost n w) := by
  refine implRecordType n (fun W b => RepT (fun _ => True) 12 W n b) B p hl h4 hd hp (fun W tb rb1 cap1 hI => ?_) (fun b W hQ => ?_) w rb cap K hown
  · refine ((readAll 12).f49 n tb rb1 cap1 p B W hP.1 hP.2.1 hR hI).mono ?_
    rintro e w' ⟨k, rfl, hRep, hbel⟩
    exact ⟨k, rfl, hRep.mono fun _ _ => trivial, hbel⟩
  · have h := tyNode 12 (fun _ => True) n b W hP.2.1 hQ
    rw [hP.1, show nTy 49 = 66 from rfl] at h
    exact h

set_option maxHeartbeats 1000000 in
set_option maxRecDepth 100000 in
theorem walk (D : Nat) (n : Nd) (bs : Bool) (w : World) (hL : LiesD D w n) (hR : RoomD D n) (hT : Lib.Utf8Tabs 1 2 w) :
    Calls Tryz.prog 5 #[n.val, .bool bs] w fun e w' => e = .returned (.bool true) ∧ Below w.heap.size w w' := by
  have HNW := Lib.hid (fun (W : World) (hP : TyQ D 49 n) (hLW : LiesD D W n) => tyNodeW bs hP hLW hR)
  have HIM := Lib.hid (fun (hP : TyQ D 49 n) => impl D n hP)
  have HTM := Lib.hid (fun (h : FitsP D n) (hk : n.kind = 49) => tyTame 12 n (tyQ_of hL hR (by decide) (by decide) h hk).2.1 D)
  have HQ := Lib.hid (fun (h : FitsP D n) (hk : n.kind = 49) => tyQ_of hL hR (by decide) (by decide) h hk)
  obtain ⟨k, t, m, u, ao, cap, kids⟩ := n
  have HL := Lib.hid hL
  have HR := Lib.hid hR
  have HT := Lib.hid hT
  clear hL hT hR
  show Calls _ _ #[.agg #[.int .i64 k, .string t, .string m, .int .u64 u, .slice ao kids.length cap], _] w _
  go_enter Tryz.func5, Tryz.ntmps5
  go_wp2_with fail
  refine (fits1_any k t m u ao kids.length cap _).mono ?_
  rintro e w1 ⟨b1, rfl, -, hb1⟩
  obtain ⟨k0, -⟩ := bblk hb1 (b := w.heap.size) (by simp)
  have HB1 := Lib.hid (((Below.refl w.heap.size w).alloc (Nat.le_refl _) (.cells #[.int .i64 k, .string t, .string m, .int .u64 u, .slice ao kids.length cap] 25)).trans (hb1.mono (by simp)))
  have hz1 : w.heap.size < w1.heap.size := by have := hb1.size; simp at this; omega
  clear hb1
  cases b1
  · go_wp2_with fail
    go_ret
    exact ⟨rfl, HB1.out⟩
  go_wp2_with fail
  show Calls _ _ #[Nd.val (.mk k t m u ao cap kids), _] _ _
  refine (bufd_any (TyQ D 49 (.mk k t m u ao cap kids)) D (.mk k t m u ao cap kids) 49 HQ.out _ (HL.out.below HB1.out) HR.out (tabs_below HT.out HB1.out) HTM.out).mono ?_
  rintro e w2 ⟨b2, rfl, hp2, hb2⟩
  obtain ⟨k1, -⟩ := bblk hb2 (b := w.heap.size) (by omega)
  have HP2 := Lib.hid hp2
  have HB2 := Lib.hid (HB1.out.trans (hb2.mono HB1.out.size))
  have hz2 : w.heap.size < w2.heap.size := by have := hb2.size; omega
  clear hb2 hp2
  cases b2
  · go_wp2_with fail
    go_ret
    exact ⟨rfl, HB2.out⟩
  have HBP := Lib.hid (show TyQ D 49 (.mk k t m u ao cap kids) from HP2.out (by first | rfl | trivial))
  go_wp2_with fail
  show Calls _ _ #[Nd.val (.mk k t m u ao cap kids), _] _ _
  refine (buffer_any bs 120000000 (.mk k t m u ao cap kids) _ (by decide) w2 (HNW.out w2 HBP.out (HL.out.below HB2.out))).mono ?_
  rintro e w3 ⟨B, rb, cap3, p, rfl, hown, hb3, h4, hl, hd, hp, hRB⟩
  obtain ⟨k2, -⟩ := bblk hb3 (b := w.heap.size) (by omega)
  have HB3 := Lib.hid (HB2.out.trans (hb3.mono HB2.out.size))
  have hz3 : w.heap.size < w3.heap.size := by have := hb3.size; omega
  have HI := Lib.hid (HIM.out HBP.out B p hRB hl h4 hd hp w3 rb cap3 _ hown)
  clear hb3 h4 hl hd hp hRB hown
  go_wp2_with fail
  refine HI.out.mono ?_
  rintro e w4 ⟨E, m2, rfl, hS, hl2, hb4⟩
  obtain ⟨k3, -⟩ := bblk hb4 (b := w.heap.size) (by omega)
  have HB4 := Lib.hid (HB3.out.trans (hb4.mono HB3.out.size))
  have hz4 : w.heap.size < w4.heap.size := by have := hb4.size; omega
  have HS := Lib.hid hS
  have HL2 := Lib.hid hl2
  clear hb4 hS hl2
  go_wp2_with fail
  show Calls _ _ #[Nd.val (.mk k t m u ao cap kids), Nd.val m2] _ _
  refine (same_all E D E (.mk k t m u ao cap kids) m2 _ HS.out (HL.out.below (HB4.out.alloc (by have := HB4.out.size; omega) _)) (HL2.out.below ((Below.refl _ _).alloc (Nat.le_refl _) _))).mono ?_
  rintro e w5 ⟨rfl, hb5⟩
  have HB5 := Lib.hid ((HB4.out.alloc HB4.out.size _).trans (hb5.mono (by have := HB4.out.size; simp; omega)))
  clear hb5
  go_wp2_with fail
  go_ret
  exact ⟨rfl, HB5.out⟩

set_option maxRecDepth 100000 in
theorem lifted (os : Os) (started : os.Started) (H : Type) (enc : TypeId × Value → H) :
    ReturnsInHanded {} Tryz.checked os 5 .any (fun w args => (Rows.fnBufRecordTypeSpec.pre enc Tryz.prog Tryz.f5 Rows.fnBufRecordTypeRow.domain false w args ∧ laidMetH Tryz.prog Rows.fnBufRecordTypeRow.laid w) ∧ sizedMet enc Tryz.prog Tryz.f5 (OpenSpec.ofChange Rows.fnBufRecordTypeSpec) false w args)
      (Rows.fnBufRecordTypeSpec.post enc Tryz.prog Tryz.f5 false true false false) := by
  refine returnsInHanded_of_change_and (C := Tryz.checked) (X := fun w _ => laidMetH Tryz.prog Rows.fnBufRecordTypeRow.laid w) (fun _ _ _ hh h => h.of_heap hh) own started (by kernel_rfl) Tryz.func5
    (ChangeSpec.witness_shaped (enc := enc) (C := Tryz.checked) (os := os) (X := fun w _ => laidMetH Tryz.prog Rows.fnBufRecordTypeRow.laid w) false (World.laidAll Tryz.prog os Rows.fnBufRecordTypeRow.laid) #[.agg #[.int .i64 0, .string ByteArray.empty, .string ByteArray.empty, .int .u64 0, .slice none 0 0], .bool false] 8 (World.laidAll_os _ _ _)
      (World.shaped_of_ZipB (by kernel_rfl) (by kernel_rfl)) (by kernel_rfl) (by kernel_rfl) (by kernel_rfl)
      (by rw [MakeChecks.laidMetH_plain _ _ _ (by kernel_rfl)]; exact laidMet_laidAll _ (by kernel_rfl) (by kernel_rfl))) ?_
  intro W base args ds gs before hval0 hW hc _ hL _
  have hval : ∀ (j : Nat) t v, Tryz.f5.params[j]? = some t → args[j]? = some v → Value.okWide Tryz.prog W .any base t v := hval0
  have hW' := hW
  obtain ⟨p, q, hA0, hV, rfl, _, _⟩ := hW
  have hA : DataW.TrodAll enc Tryz.prog W 0 (fun _ => true) true Tryz.f5.params.toList args.toList ds p := hA0
  rw [Tryz.params5] at hA hval
  obtain ⟨v0, vs0, d0, ds0, p0, q0, hargs, rfl, rfl, h0, r0⟩ := trodAll_cons hA
  obtain ⟨v1, vs1, d1, ds1, p1, q1, rfl, rfl, rfl, h1, r1⟩ := trodAll_cons r0
  obtain ⟨rfl, rfl, rfl⟩ := trodAll_nil r1
  obtain rfl : args = #[v0, v1] := by cases args; simp_all
  obtain ⟨rfl, rfl⟩ := trodVars_none hV
  have k0 := h0
  have lt0 : ∀ x ∈ p0, x.block < W.heap.size := by obtain ⟨m, hm⟩ := k0; exact DataW.trod_lt m _ _ _ hm
  obtain ⟨D, n, rfl, hLn, hRn⟩ := open_node (hval 0 25 v0 rfl rfl) h0
  have k1 := h1
  have lt1 : ∀ x ∈ p1, x.block < W.heap.size := by obtain ⟨m, hm⟩ := k1; exact DataW.trod_lt m _ _ _ hm
  obtain ⟨bs, rfl, -, -⟩ := open_bool Tryz.underlying4 (hval 1 4 v1 rfl rfl) h1
  clear hA0 hval0
  rw [MakeChecks.laidMetH_plain _ _ _ (by kernel_rfl)] at hL
  refine (walk D n bs W hLn hRn (tabs_of hL (by simp [Rows.fnBufRecordTypeRow, Rows.laid_unicode_utf8_first]) (by simp [Rows.fnBufRecordTypeRow]))).mono fun e W' ⟨he, bel⟩ => ?_
  subst he
  exact ⟨_, rfl, _, _, _, [], _, [], hW', trodAll_mk1 (shut_bool Tryz.underlying4 _), (trodAll_cons_mk (Below.trod laidOut (by kernel_rfl) (of_decide_eq_true (by kernel_rfl)) k0 bel lt0) (trodAll_cons_mk (Below.trod laidOut (by kernel_rfl) (of_decide_eq_true (by kernel_rfl)) k1 bel lt1) trodAll_mk0)), rfl, bel.frame _, fun h => by cases h⟩

theorem j1 : (Rows.fnBufRecordTypeRow.inPlace == Tryz.prog.inPlace 5) = true := by kernel_rfl
theorem j2 : (Rows.fnBufRecordTypeRow.unfollowed == Tryz.prog.unfollowed 5) = true := by kernel_rfl
theorem j3 : (Rows.fnBufRecordTypeRow.recurses == Tryz.prog.recurses 5) = true := by kernel_rfl
theorem j4 : (Rows.fnBufRecordTypeRow.named == Tryz.prog.varsNamed 5) = true := by kernel_rfl
theorem a1 : Rows.fnBufRecordTypeRow.wf (OpenSpec.ofChange Rows.fnBufRecordTypeSpec) = true := by kernel_rfl
theorem a2 : Tryz.f5.params.all (Tryz.prog.readableRec ·) = true := by kernel_rfl
theorem a3 : namedTie Tryz.prog Rows.fnBufRecordTypeRow.named Rows.fnBufRecordTypeSpec.vars = true := by kernel_rfl
theorem a4 : (Rows.fnBufRecordTypeRow.maps == (Tryz.f5.params.toList ++ Rows.fnBufRecordTypeSpec.plain.varTypes Tryz.prog).any (Tryz.prog.mapsRec ·)) = true := by kernel_rfl
theorem a5 : (Rows.fnBufRecordTypeRow.ifaces == (Tryz.f5.params.toList ++ Rows.fnBufRecordTypeSpec.plain.varTypes Tryz.prog).any (Tryz.prog.ifacesRec ·)) = true := by kernel_rfl
theorem a6 : (Rows.fnBufRecordTypeRow.mapsOut == Tryz.prog.mapsAmong Tryz.f5.resultTypes.toList) = true := by kernel_rfl
theorem a7 : (Rows.fnBufRecordTypeRow.loops == (Tryz.f5.params.toList ++ Rows.fnBufRecordTypeSpec.plain.varTypes Tryz.prog).any (Tryz.prog.loopsFrom ·)) = true := by kernel_rfl
theorem a8 : (Rows.fnBufRecordTypeRow.wideKeys == (Tryz.f5.params.toList ++ Rows.fnBufRecordTypeSpec.plain.varTypes Tryz.prog ++ Tryz.f5.resultTypes.toList).any (Tryz.prog.wideKeysFrom ·)) = true := by kernel_rfl
theorem a9 : (Rows.fnBufRecordTypeRow.plainKeys == Tryz.prog.plainKeys) = true := by kernel_rfl
theorem b1 : (Rows.fnBufRecordTypeRow.lifted == Tryz.prog.liftsFinal) = true := by kernel_rfl
theorem b2 : (Tryz.prog.make == some Rows.fnBufRecordTypeRow.make) = true := by kernel_rfl
theorem b3 : (Rows.fnBufRecordTypeRow.pinned == Rows.fnBufRecordTypeRow.pinnedBy) = true := by kernel_rfl
theorem b4 : (Rows.fnBufRecordTypeRow.veiled == (Tryz.f5.params.toList ++ Rows.fnBufRecordTypeSpec.plain.varTypes Tryz.prog ++ Tryz.f5.resultTypes.toList).any (Tryz.prog.veiledRec ·)) = true := by kernel_rfl
theorem b5 : Rows.fnBufRecordTypeRow.veiledFits Tryz.prog Tryz.f5.params.toList (Tryz.f5.params.toList ++ Rows.fnBufRecordTypeSpec.plain.varTypes Tryz.prog ++ Tryz.f5.resultTypes.toList) = true := by kernel_rfl

theorem facts : joinedFacts Tryz.prog 5 Tryz.f5 Rows.fnBufRecordTypeSpec Rows.fnBufRecordTypeRow = true := by
  unfold joinedFacts
  rw [j1, j2, j3, j4, pf1, pf2, pf3, pf4, pf5, pf6, a1, a2, a3, a4, a5, a6, a7, a8, a9, b1, b2, b3, b4, b5]
  kernel_rfl

theorem fnm : Tryz.pinned.checked.prog.funcNamed Rows.fnBufRecordTypeRow.func = some 5 := by kernel_rfl
theorem inst : Tryz.f5.isInstance Tryz.pinned.checked.prog Rows.fnBufRecordTypeRow.origin Rows.fnBufRecordTypeRow.targs := of_decide_eq_true (by kernel_rfl)
theorem wrp : Tryz.f5.isWrapper Tryz.pinned.checked.prog Rows.fnBufRecordTypeRow.wrapper Rows.fnBufRecordTypeRow.mainSum := by unfold Func.isWrapper; first | (rw [if_pos (by decide +kernel)]; kernel_rfl) | (rw [if_neg (by decide +kernel)]; exact ⟨rfl, rfl⟩)

theorem said : Rows.FnBufRecordTypeSaid :=
  OpenClaim.holds_of_wide 5 Tryz.f5 rfl rfl rfl rfl rfl rfl rfl ⟨rfl, rfl, rfl, rfl, rfl⟩ rfl rfl rfl rfl rfl fnm Tryz.func5 facts inst wrp
    (fun os started H enc _ => lifted os started H enc)

theorem plain (f : FuncId) (fn : Func) (hf : Tryz.pinned.checked.prog.funcNamed "given.example/pub-brazing/laws.FnBufRecordType" = some f) (hfn : Tryz.pinned.checked.prog.funcs[f]? = some fn) :
    true = Tryz.pinned.checked.prog.looks [] ∧ ∀ (j : Nat) t, fn.params[j]? = some t → Tryz.pinned.checked.prog.wantsStandIn t = false := by
  obtain rfl : f = 5 := Option.some.inj ((show Tryz.prog.funcNamed "given.example/pub-brazing/laws.FnBufRecordType" = some 5 by kernel_rfl).symm.trans hf) |>.symm
  obtain rfl : fn = Tryz.f5 := (Option.some.inj (Tryz.func5.symm.trans hfn)).symm
  refine ⟨by kernel_rfl, fun j t ht => ?_⟩
  rw [Tryz.params5] at ht
  have hm : t ∈ [25, 4] := by simpa using Array.mem_of_getElem? ht
  have hall : ([25, 4].all fun u => !Tryz.prog.wantsStandIn u) = true := by kernel_rfl
  exact (show Tryz.prog.wantsStandIn t = false by simpa using List.all_eq_true.1 hall t hm)

theorem c1 : Rows.fnBufRecordTypeRow.wfByText (OpenSpec.ofChange Rows.fnBufRecordTypeSpec) = true := by kernel_rfl
theorem c2 : Tryz.pinned.checked.prog.mainIs = some (Rows.fnBufRecordTypeCard.stood.harness.1, Rows.fnBufRecordTypeCard.stood.harness.2.toList) := by kernel_rfl
theorem c3 : false = Rows.fnBufRecordTypeRow.goesBy Tryz.pinned.checked.prog := by kernel_rfl

/-- THE CARD. -/
theorem card : Rows.FnBufRecordTypeCardSaid :=
  Claim7.holds_tied_plain_at .later [] _ _ _ _ said (fun _ h => by cases h) c1 (fun _ h => by cases h) fnBufRecordType_row_tie rfl ⟨rfl, rfl⟩ c2 rfl plain c3
end Go.Proofs.YtcbcdgifakcooaaGreatDoor.fnBufRecordType
