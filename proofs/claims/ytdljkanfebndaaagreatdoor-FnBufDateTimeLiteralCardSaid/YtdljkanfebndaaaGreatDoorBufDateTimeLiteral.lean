/-
  FnBufDateTimeLiteral: for every tree and either form of the buffer the law returns true. No conditions beyond the tables that its card ties.
-/
import Derived.Test.YtdljkanfebndaaaGreatDoorLw
import Derived.Test.YtdljkanfebndaaaGreatDoorDat
import Derived.Test.YtdljkanfebndaaaGreatDoorFx
import Derived.WalkKit
import Derived.ProofKit
import Derived.OpenShut
import Derived.Lib.Hide
namespace Go.Proofs.YtdljkanfebndaaaGreatDoor.fnBufDateTimeLiteral
open Go.ChangeShapes Go.WideShapes Go.ChangeAt Go.RowKit
open Go.ChangeMaps (open_string shut_string)
set_option linter.unusedVariables false

/-- What the bytes tell of a date. -/
def R (n : Nd) (B : By) (p : Nat) : Prop := ∃ (ps : List Nat) (y z : Nat), BaseOf B p ps ∧ TabAt B p ps ∧ (ps.getD 1 0 = y ∧ y ≠ 0 ∧ y < 65536 ∧ y + p + 8 ≤ B.length) ∧ (ps.getD 2 0 = z ∧ z ≠ 0 ∧ z < 65536 ∧ z + p + 4 ≤ B.length) ∧ ps.getD 3 0 = 0 ∧ IntKind.i64.wrap ((leAt B (y + p) 8 : Nat) : Int) = secOf n.num ∧ ((leAt B (z + p) 4 : Nat) : Int) = nsecOf n.num

abbrev sls (U N : Nat) : List Sl := [⟨1, 8, U, none, fun _ _ => True, 0⟩, ⟨2, 4, N, none, fun _ _ => True, 0⟩]

theorem fine (n : Nd) (U N : Nat) (hU : U < 18446744073709551616) (hN : N < 1000000000) (hs : IntKind.i64.wrap (U : Int) = secOf n.num) (hn : (N : Int) = nsecOf n.num) (bs : Bool) (sl : List Sl) (h : sl = sls U N) : Fine bs sl 300000 (R n) := by
  subst h
  have hw4 : ∀ t ∈ sls U N, t.ref ≠ none → t.wid = 4 := fun t ht hr => by
    simp only [sls, List.mem_cons, List.not_mem_nil, or_false] at ht
    rcases ht with rfl | rfl
    · exact absurd rfl hr
    · rfl
  have h8 : (256 : Nat) ^ 8 = 18446744073709551616 := by decide
  have h4 : (256 : Nat) ^ 4 = 4294967296 := by decide
  have hul : ∀ t ∈ sls U N, t.u < 256 ^ t.wid := fun t ht => by
    simp only [sls, List.mem_cons, List.not_mem_nil, or_false] at ht
    rcases ht with rfl | rfl
    · show U < 256 ^ 8
      omega
    · show N < 256 ^ 4
      omega
  cases bs with
  | false =>
    have hok : okPat (patOf (withBase false (sls U N))) = true := show okPat [(1, 8), (2, 4)] = true from by decide
    refine ⟨hok, hw4, hul, by simp [sls], by simp [withBase, sls], fun B p hT => ?_⟩
    obtain ⟨a, b, c, d⟩ := num_of hT (i := 0) (s := ⟨1, 8, U, none, fun _ _ => True, 0⟩) rfl rfl hok rfl
    obtain ⟨a2, b2, c2, d2⟩ := num_of hT (i := 1) (s := ⟨2, 4, N, none, fun _ _ => True, 0⟩) rfl rfl hok rfl
    exact ⟨_, _, _, .none (show (plOf [(1, 8), (2, 4)]).getD 0 0 = 0 from by decide), hT.tab, ⟨rfl, a, b, c⟩, ⟨rfl, a2, b2, c2⟩, (show (plOf [(1, 8), (2, 4)]).getD 3 0 = 0 from by decide), by rw [← hs]; exact congrArg (fun x : Nat => IntKind.i64.wrap (x : Int)) d, by rw [← hn]; exact congrArg Nat.cast d2⟩
  | true =>
    have hok : okPat (patOf (withBase true (sls U N))) = true := show okPat [(1, 8), (2, 4), (0, 4)] = true from by decide
    refine ⟨hok, hw4, hul, by simp [sls], by simp [withBase, baseSl, sls], fun B p hT => ?_⟩
    obtain ⟨a, b, c, d⟩ := num_of hT (i := 0) (s := ⟨1, 8, U, none, fun _ _ => True, 0⟩) rfl rfl hok rfl
    obtain ⟨a2, b2, c2, d2⟩ := num_of hT (i := 1) (s := ⟨2, 4, N, none, fun _ _ => True, 0⟩) rfl rfl hok rfl
    exact ⟨_, _, _, baseOf_some hT (i := 2) (s := baseSl) rfl rfl (by simp [baseSl]) rfl hok rfl, hT.tab, ⟨rfl, a, b, c⟩, ⟨rfl, a2, b2, c2⟩, (show (plOf [(1, 8), (2, 4), (0, 4)]).getD 3 0 = 0 from by decide), by rw [← hs]; exact congrArg (fun x : Nat => IntKind.i64.wrap (x : Int)) d, by rw [← hn]; exact congrArg Nat.cast d2⟩

theorem leaf (n : Nd) (h : FitP 12 n) (hk : n.kind = 41) : n.kids = [] := leaf_kids h hk (by decide) (by decide) (by decide) (by decide)
theorem tame (n : Nd) (h : FitP 12 n) (hk : n.kind = 41) (D : Nat) : TameD D n := leaf_tame (leaf n h hk) (by rw [hk]; decide) D

theorem wrap_in (x : Int) (h : -9223372036854775808 ≤ x ∧ x ≤ 9223372036854775807) : IntKind.i64.wrap x = x := by rw [IntWalk.i64_left]; exact IntWalk.wrap64_in x h
theorem w64_rng (u : Int) : -9223372036854775808 ≤ wrap64 u ∧ wrap64 u ≤ 9223372036854775807 := by unfold wrap64; omega
theorem u64_nat (s : Int) (h : -9223372036854775808 ≤ s ∧ s ≤ 9223372036854775807) : ∃ U : Nat, IntKind.u64.wrap s = (U : Int) ∧ U < 18446744073709551616 ∧ IntKind.i64.wrap (U : Int) = s ∧ (0 ≤ s → (U : Int) = s) := by
  have hu : IntKind.u64.wrap s = s % 18446744073709551616 := by
    simp only [IntKind.wrap, IntKind.bits, IntKind.signed]
    simp
  refine ⟨(s % 18446744073709551616).toNat, by rw [hu]; omega, by omega, ?_, fun h0 => by omega⟩
  rw [IntWalk.i64_left]
  unfold wrap64
  omega

theorem nodeW (D : Nat) (W : World) (bs : Bool) (n : Nd) (hP : BufP 41 n) (hL : LiesD D W n) : NodeW W bs 300000 n (R n) := by
  have hr := w64_rng n.num
  have h1 : -9223372036854775808 ≤ secOf n.num * 1000000000 ∧ secOf n.num * 1000000000 ≤ 9223372036854775807 ∨ True := Or.inr trivial
  obtain ⟨U, hU, hUl, hUs, -⟩ := u64_nat (secOf n.num) (by unfold secOf; omega)
  obtain ⟨N, hN, hNl, -, hNs⟩ := u64_nat (nsecOf n.num) (by unfold nsecOf; omega)
  have hN0 := hNs (by unfold nsecOf; omega)
  have hN9 : N < 1000000000 := by unfold nsecOf at hN0; omega
  refine node_any W bs n _ 300000 (R n) (by rw [hP.1]; decide) (slC_41 W bs n hP.1 (wrap64 n.num) (secOf n.num) (nsecOf n.num) (IntKind.i64.wrap (secOf n.num * 1000000000)) U N (IntWalk.i64_left _) hr rfl rfl ?_ hU hN) (fine n U N hUl hN9 hUs hN0 bs)
  rw [IntWalk.i64_left, IntWalk.i64_left]
  unfold secOf nsecOf
  generalize wrap64 n.num = a at hr ⊢
  unfold wrap64
  omega

theorem impl (D : Nat) (n : Nd) (w0 : World) (hP : BufP 41 n) (hL : LiesD D w0 n) (B : By) (p : Nat) (hR : R n B p) (hl : B.length ≤ 1073000000) (h4 : 4 ≤ B.length) (hd : leAt B 0 4 = p) (hp : p < B.length) (w : World) (rb cap K : Nat) (hown : w.ownsRow K 5 1 (.slice (some ⟨rb, 0, none⟩) B.length cap) B.length (bytesV B)) :
    Calls Tryz.prog 21 #[.slice (some ⟨rb, 0, none⟩) B.length cap] w (BufPost n w) := by
  have hkids := leaf n hP.2.1 hP.1
  obtain ⟨ps, y, z, hb, ht, ⟨hy, y0, yl, yq⟩, ⟨hz, z0, zl, zq⟩, h3, hs, hn⟩ := hR
  refine implDateTimeLiteral n (fun W b => RepD (fun _ => True) 1 W n b) B p hl h4 hd hp (fun W tb rb1 cap1 hI => ?_) (fun b W hRep => ?_) w rb cap K hown
  · have hr := w64_rng n.num
    refine (dateBuf_any tb rb1 cap1 p B ps hb W hI ht y hy y0 yl yq z hz z0 zl zq h3 (secOf n.num) (nsecOf n.num) hs (by unfold secOf; omega) hn (by unfold nsecOf; omega)).mono ?_
    rintro e w' ⟨k, rfl, hk, hc, hbel⟩
    refine ⟨k, rfl, ⟨trivial, _, by rw [hP.1]; exact hc, ?_⟩, hbel⟩
    rw [slots_41 n hP.1]
    exact ⟨rfl, rfl, rfl, rfl, rfl, rfl, trivial⟩
  · have h := nd_41 0 nodeC_zero 11 _ n b W ⟨hP.2.1, leaf_none13 hkids (by rw [hP.1]; decide) 12, hP.2.2 12⟩ ⟨D, w0, hL⟩ hRep hP.1
    rw [hP.1] at h
    exact h

set_option maxHeartbeats 1000000 in
set_option maxRecDepth 100000 in
theorem walk (D : Nat) (n : Nd) (bs : Bool) (w : World) (hL : LiesD D w n) (hR : RoomD D n) (hT : Lib.Utf8Tabs 1 2 w) :
    Calls Tryz.prog 9 #[n.val, .bool bs] w fun e w' => e = .returned (.bool true) ∧ Below w.heap.size w w' := by
  have HNW := Lib.hid (fun (W : World) (hP : BufP 41 n) (hLW : LiesD D W n) => nodeW D W bs n hP hLW)
  have HIM := Lib.hid (fun (hP : BufP 41 n) => impl D n w hP hL)
  have HTM := Lib.hid (fun (h : FitP 12 n) (hk : n.kind = 41) => tame n h hk D)
  obtain ⟨k, t, m, u, ao, cap, kids⟩ := n
  have HL := Lib.hid hL
  have HR := Lib.hid hR
  have HT := Lib.hid hT
  clear hL hT hR
  show Calls _ _ #[.agg #[.int .i64 k, .string t, .string m, .int .u64 u, .slice ao kids.length cap], _] w _
  go_enter Tryz.func9, Tryz.ntmps9
  go_wp2_with fail
  refine (fits1_any k t m u ao kids.length cap _).mono ?_
  rintro e w1 ⟨b1, rfl, -, hb1⟩
  obtain ⟨k0, -⟩ := bblk hb1 (b := w.heap.size) (by simp)
  have HB1 := Lib.hid (((Below.refl w.heap.size w).alloc (Nat.le_refl _) (.cells #[.int .i64 k, .string t, .string m, .int .u64 u, .slice ao kids.length cap] 25)).trans (hb1.mono (by simp)))
  have hz1 : w.heap.size < w1.heap.size := by have := hb1.size; simp at this; omega
  clear hb1
  cases b1
  · go_wp2_with fail
    go_ret
    exact ⟨rfl, HB1.out⟩
  go_wp2_with fail
  show Calls _ _ #[Nd.val (.mk k t m u ao cap kids), _] _ _
  refine (bufd_any D (.mk k t m u ao cap kids) 41 _ (HL.out.below HB1.out) HR.out (tabs_below HT.out HB1.out) HTM.out).mono ?_
  rintro e w2 ⟨b2, rfl, hp2, hb2⟩
  obtain ⟨k1, -⟩ := bblk hb2 (b := w.heap.size) (by omega)
  have HP2 := Lib.hid hp2
  have HB2 := Lib.hid (HB1.out.trans (hb2.mono HB1.out.size))
  have hz2 : w.heap.size < w2.heap.size := by have := hb2.size; omega
  clear hb2 hp2
  cases b2
  · go_wp2_with fail
    go_ret
    exact ⟨rfl, HB2.out⟩
  have HBP := Lib.hid (show BufP 41 (.mk k t m u ao cap kids) from HP2.out (by first | rfl | trivial))
  go_wp2_with fail
  show Calls _ _ #[Nd.val (.mk k t m u ao cap kids), _] _ _
  refine (buffer_any bs 300000 (.mk k t m u ao cap kids) _ (by decide) w2 (HNW.out w2 HBP.out (HL.out.below HB2.out))).mono ?_
  rintro e w3 ⟨B, rb, cap3, p, rfl, hown, hb3, h4, hl, hd, hp, hRB⟩
  obtain ⟨k2, -⟩ := bblk hb3 (b := w.heap.size) (by omega)
  have HB3 := Lib.hid (HB2.out.trans (hb3.mono HB2.out.size))
  have hz3 : w.heap.size < w3.heap.size := by have := hb3.size; omega
  have HI := Lib.hid (HIM.out HBP.out B p hRB hl h4 hd hp w3 rb cap3 _ hown)
  clear hb3 h4 hl hd hp hRB hown
  go_wp2_with fail
  refine HI.out.mono ?_
  rintro e w4 ⟨E, m2, rfl, hS, hl2, hb4⟩
  obtain ⟨k3, -⟩ := bblk hb4 (b := w.heap.size) (by omega)
  have HB4 := Lib.hid (HB3.out.trans (hb4.mono HB3.out.size))
  have hz4 : w.heap.size < w4.heap.size := by have := hb4.size; omega
  have HS := Lib.hid hS
  have HL2 := Lib.hid hl2
  clear hb4 hS hl2
  go_wp2_with fail
  show Calls _ _ #[Nd.val (.mk k t m u ao cap kids), Nd.val m2] _ _
  refine (same_all E D E (.mk k t m u ao cap kids) m2 _ HS.out (HL.out.below (HB4.out.alloc (by have := HB4.out.size; omega) _)) (HL2.out.below ((Below.refl _ _).alloc (Nat.le_refl _) _))).mono ?_
  rintro e w5 ⟨rfl, hb5⟩
  have HB5 := Lib.hid ((HB4.out.alloc HB4.out.size _).trans (hb5.mono (by have := HB4.out.size; simp; omega)))
  clear hb5
  go_wp2_with fail
  go_ret
  exact ⟨rfl, HB5.out⟩

set_option maxRecDepth 100000 in
theorem lifted (os : Os) (started : os.Started) (H : Type) (enc : TypeId × Value → H) :
    ReturnsInHanded {} Tryz.checked os 9 .any (fun w args => (Rows.fnBufDateTimeLiteralSpec.pre enc Tryz.prog Tryz.f9 Rows.fnBufDateTimeLiteralRow.domain false w args ∧ laidMetH Tryz.prog Rows.fnBufDateTimeLiteralRow.laid w) ∧ sizedMet enc Tryz.prog Tryz.f9 (OpenSpec.ofChange Rows.fnBufDateTimeLiteralSpec) false w args)
      (Rows.fnBufDateTimeLiteralSpec.post enc Tryz.prog Tryz.f9 false true false false) := by
  refine returnsInHanded_of_change_and (C := Tryz.checked) (X := fun w _ => laidMetH Tryz.prog Rows.fnBufDateTimeLiteralRow.laid w) (fun _ _ _ hh h => h.of_heap hh) own started (by kernel_rfl) Tryz.func9
    (ChangeSpec.witness_shaped (enc := enc) (C := Tryz.checked) (os := os) (X := fun w _ => laidMetH Tryz.prog Rows.fnBufDateTimeLiteralRow.laid w) false (World.laidAll Tryz.prog os Rows.fnBufDateTimeLiteralRow.laid) #[.agg #[.int .i64 0, .string ByteArray.empty, .string ByteArray.empty, .int .u64 0, .slice none 0 0], .bool false] 8 (World.laidAll_os _ _ _)
      (World.shaped_of_ZipB (by kernel_rfl) (by kernel_rfl)) (by kernel_rfl) (by kernel_rfl) (by kernel_rfl)
      (by rw [MakeChecks.laidMetH_plain _ _ _ (by kernel_rfl)]; exact laidMet_laidAll _ (by kernel_rfl) (by kernel_rfl))) ?_
  intro W base args ds gs before hval0 hW hc _ hL _
  have hval : ∀ (j : Nat) t v, Tryz.f9.params[j]? = some t → args[j]? = some v → Value.okWide Tryz.prog W .any base t v := hval0
  have hW' := hW
  obtain ⟨p, q, hA0, hV, rfl, _, _⟩ := hW
  have hA : DataW.TrodAll enc Tryz.prog W 0 (fun _ => true) true Tryz.f9.params.toList args.toList ds p := hA0
  rw [Tryz.params9] at hA hval
  obtain ⟨v0, vs0, d0, ds0, p0, q0, hargs, rfl, rfl, h0, r0⟩ := trodAll_cons hA
  obtain ⟨v1, vs1, d1, ds1, p1, q1, rfl, rfl, rfl, h1, r1⟩ := trodAll_cons r0
  obtain ⟨rfl, rfl, rfl⟩ := trodAll_nil r1
  obtain rfl : args = #[v0, v1] := by cases args; simp_all
  obtain ⟨rfl, rfl⟩ := trodVars_none hV
  have k0 := h0
  have lt0 : ∀ x ∈ p0, x.block < W.heap.size := by obtain ⟨m, hm⟩ := k0; exact DataW.trod_lt m _ _ _ hm
  obtain ⟨D, n, rfl, hLn, hRn⟩ := open_node (hval 0 25 v0 rfl rfl) h0
  have k1 := h1
  have lt1 : ∀ x ∈ p1, x.block < W.heap.size := by obtain ⟨m, hm⟩ := k1; exact DataW.trod_lt m _ _ _ hm
  obtain ⟨bs, rfl, -, -⟩ := open_bool Tryz.underlying4 (hval 1 4 v1 rfl rfl) h1
  clear hA0 hval0
  rw [MakeChecks.laidMetH_plain _ _ _ (by kernel_rfl)] at hL
  refine (walk D n bs W hLn hRn (tabs_of hL (by simp [Rows.fnBufDateTimeLiteralRow, Rows.laid_unicode_utf8_first]) (by simp [Rows.fnBufDateTimeLiteralRow]))).mono fun e W' ⟨he, bel⟩ => ?_
  subst he
  exact ⟨_, rfl, _, _, _, [], _, [], hW', trodAll_mk1 (shut_bool Tryz.underlying4 _), (trodAll_cons_mk (Below.trod laidOut (by kernel_rfl) (of_decide_eq_true (by kernel_rfl)) k0 bel lt0) (trodAll_cons_mk (Below.trod laidOut (by kernel_rfl) (of_decide_eq_true (by kernel_rfl)) k1 bel lt1) trodAll_mk0)), rfl, bel.frame _, fun h => by cases h⟩

theorem j1 : (Rows.fnBufDateTimeLiteralRow.inPlace == Tryz.prog.inPlace 9) = true := by kernel_rfl
theorem j2 : (Rows.fnBufDateTimeLiteralRow.unfollowed == Tryz.prog.unfollowed 9) = true := by kernel_rfl
theorem j3 : (Rows.fnBufDateTimeLiteralRow.recurses == Tryz.prog.recurses 9) = true := by kernel_rfl
theorem j4 : (Rows.fnBufDateTimeLiteralRow.named == Tryz.prog.varsNamed 9) = true := by kernel_rfl
theorem a1 : Rows.fnBufDateTimeLiteralRow.wf (OpenSpec.ofChange Rows.fnBufDateTimeLiteralSpec) = true := by kernel_rfl
theorem a2 : Tryz.f9.params.all (Tryz.prog.readableRec ·) = true := by kernel_rfl
theorem a3 : namedTie Tryz.prog Rows.fnBufDateTimeLiteralRow.named Rows.fnBufDateTimeLiteralSpec.vars = true := by kernel_rfl
theorem a4 : (Rows.fnBufDateTimeLiteralRow.maps == (Tryz.f9.params.toList ++ Rows.fnBufDateTimeLiteralSpec.plain.varTypes Tryz.prog).any (Tryz.prog.mapsRec ·)) = true := by kernel_rfl
theorem a5 : (Rows.fnBufDateTimeLiteralRow.ifaces == (Tryz.f9.params.toList ++ Rows.fnBufDateTimeLiteralSpec.plain.varTypes Tryz.prog).any (Tryz.prog.ifacesRec ·)) = true := by kernel_rfl
theorem a6 : (Rows.fnBufDateTimeLiteralRow.mapsOut == Tryz.prog.mapsAmong Tryz.f9.resultTypes.toList) = true := by kernel_rfl
theorem a7 : (Rows.fnBufDateTimeLiteralRow.loops == (Tryz.f9.params.toList ++ Rows.fnBufDateTimeLiteralSpec.plain.varTypes Tryz.prog).any (Tryz.prog.loopsFrom ·)) = true := by kernel_rfl
theorem a8 : (Rows.fnBufDateTimeLiteralRow.wideKeys == (Tryz.f9.params.toList ++ Rows.fnBufDateTimeLiteralSpec.plain.varTypes Tryz.prog ++ Tryz.f9.resultTypes.toList).any (Tryz.prog.wideKeysFrom ·)) = true := by kernel_rfl
theorem a9 : (Rows.fnBufDateTimeLiteralRow.plainKeys == Tryz.prog.plainKeys) = true := by kernel_rfl
theorem b1 : (Rows.fnBufDateTimeLiteralRow.lifted == Tryz.prog.liftsFinal) = true := by kernel_rfl
theorem b2 : (Tryz.prog.make == some Rows.fnBufDateTimeLiteralRow.make) = true := by kernel_rfl
theorem b3 : (Rows.fnBufDateTimeLiteralRow.pinned == Rows.fnBufDateTimeLiteralRow.pinnedBy) = true := by kernel_rfl
theorem b4 : (Rows.fnBufDateTimeLiteralRow.veiled == (Tryz.f9.params.toList ++ Rows.fnBufDateTimeLiteralSpec.plain.varTypes Tryz.prog ++ Tryz.f9.resultTypes.toList).any (Tryz.prog.veiledRec ·)) = true := by kernel_rfl
theorem b5 : Rows.fnBufDateTimeLiteralRow.veiledFits Tryz.prog Tryz.f9.params.toList (Tryz.f9.params.toList ++ Rows.fnBufDateTimeLiteralSpec.plain.varTypes Tryz.prog ++ Tryz.f9.resultTypes.toList) = true := by kernel_rfl

theorem facts : joinedFacts Tryz.prog 9 Tryz.f9 Rows.fnBufDateTimeLiteralSpec Rows.fnBufDateTimeLiteralRow = true := by
  unfold joinedFacts
  rw [j1, j2, j3, j4, pf1, pf2, pf3, pf4, pf5, pf6, a1, a2, a3, a4, a5, a6, a7, a8, a9, b1, b2, b3, b4, b5]
  kernel_rfl

theorem fnm : Tryz.pinned.checked.prog.funcNamed Rows.fnBufDateTimeLiteralRow.func = some 9 := by kernel_rfl
theorem inst : Tryz.f9.isInstance Tryz.pinned.checked.prog Rows.fnBufDateTimeLiteralRow.origin Rows.fnBufDateTimeLiteralRow.targs := of_decide_eq_true (by kernel_rfl)
theorem wrp : Tryz.f9.isWrapper Tryz.pinned.checked.prog Rows.fnBufDateTimeLiteralRow.wrapper Rows.fnBufDateTimeLiteralRow.mainSum := by unfold Func.isWrapper; first | (rw [if_pos (by decide +kernel)]; kernel_rfl) | (rw [if_neg (by decide +kernel)]; exact ⟨rfl, rfl⟩)

theorem said : Rows.FnBufDateTimeLiteralSaid :=
  OpenClaim.holds_of_wide 9 Tryz.f9 rfl rfl rfl rfl rfl rfl rfl ⟨rfl, rfl, rfl, rfl, rfl⟩ rfl rfl rfl rfl rfl fnm Tryz.func9 facts inst wrp
    (fun os started H enc _ => lifted os started H enc)

theorem plain (f : FuncId) (fn : Func) (hf : Tryz.pinned.checked.prog.funcNamed "given.example/pub-brazing/laws.FnBufDateTimeLiteral" = some f) (hfn : Tryz.pinned.checked.prog.funcs[f]? = some fn) :
    true = Tryz.pinned.checked.prog.looks [] ∧ ∀ (j : Nat) t, fn.params[j]? = some t → Tryz.pinned.checked.prog.wantsStandIn t = false := by
  obtain rfl : f = 9 := Option.some.inj ((show Tryz.prog.funcNamed "given.example/pub-brazing/laws.FnBufDateTimeLiteral" = some 9 by kernel_rfl).symm.trans hf) |>.symm
  obtain rfl : fn = Tryz.f9 := (Option.some.inj (Tryz.func9.symm.trans hfn)).symm
  refine ⟨by kernel_rfl, fun j t ht => ?_⟩
  rw [Tryz.params9] at ht
  have hm : t ∈ [25, 4] := by simpa using Array.mem_of_getElem? ht
  have hall : ([25, 4].all fun u => !Tryz.prog.wantsStandIn u) = true := by kernel_rfl
  exact (show Tryz.prog.wantsStandIn t = false by simpa using List.all_eq_true.1 hall t hm)

theorem c1 : Rows.fnBufDateTimeLiteralRow.wfByText (OpenSpec.ofChange Rows.fnBufDateTimeLiteralSpec) = true := by kernel_rfl
theorem c2 : Tryz.pinned.checked.prog.mainIs = some (Rows.fnBufDateTimeLiteralCard.stood.harness.1, Rows.fnBufDateTimeLiteralCard.stood.harness.2.toList) := by kernel_rfl
theorem c3 : false = Rows.fnBufDateTimeLiteralRow.goesBy Tryz.pinned.checked.prog := by kernel_rfl

/-- THE CARD. -/
theorem card : Rows.FnBufDateTimeLiteralCardSaid :=
  Claim7.holds_tied_plain_at .later [] _ _ _ _ said (fun _ h => by cases h) c1 (fun _ h => by cases h) fnBufDateTimeLiteral_row_tie rfl ⟨rfl, rfl⟩ c2 rfl plain c3
end Go.Proofs.YtdljkanfebndaaaGreatDoor.fnBufDateTimeLiteral
