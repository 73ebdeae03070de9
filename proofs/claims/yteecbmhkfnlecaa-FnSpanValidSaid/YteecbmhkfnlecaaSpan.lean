/-
  FnSpanValid: for every span the law returns true. No conditions.
-/
import Derived.Test.YteecbmhkfnlecaaRows
import Derived.WalkKit
import Derived.ProofKit
import Derived.OpenShut
import Derived.Lib.SmallJoins
import Derived.Lib.Hide
import Derived.Deep.RegionHeld3
import Derived.BigQuiet
import Derived.Lib.QuietBelow
import Derived.Deep.Strs
namespace Go.Proofs.Yteecbmhkfnlecaa.fnSpanValid
open Go.ChangeShapes Go.WideShapes Go.ChangeAt Go.RowKit
set_option linter.unusedVariables false

theorem bcell {W w1 : World} (hb : Below W.heap.size W w1) : (∀ b o, b < W.heap.size → w1.cell? ⟨b, o, none⟩ = W.cell? ⟨b, o, none⟩) ∧ (∀ b o, b < W.heap.size → w1.frozen? ⟨b, o, none⟩ = W.frozen? ⟨b, o, none⟩) :=
  ⟨fun b o h => hb.cell (p := ⟨b, o, none⟩) h, fun b o h => hb.frozen (p := ⟨b, o, none⟩) h⟩

theorem bblk {W w1 : World} (hb : Below W.heap.size W w1) {b : Nat} (h : b < W.heap.size) : (∀ o, w1.cell? ⟨b, o, none⟩ = W.cell? ⟨b, o, none⟩) ∧ (∀ o, w1.frozen? ⟨b, o, none⟩ = W.frozen? ⟨b, o, none⟩) :=
  ⟨fun o => hb.cell (p := ⟨b, o, none⟩) h, fun o => hb.frozen (p := ⟨b, o, none⟩) h⟩

/-- A place is one. -/
def vp (l c : Int) : Bool := decide (0 < l) && decide (0 < c)

theorem place_any (l c : Int) (w : World) :
    Calls Try.prog 21 #[.agg #[.int .i64 l, .int .i64 c]] w fun e w' => e = .returned (.agg #[.int .i64 l, .int .i64 c]) ∧ Below w.heap.size w w' := by
  go_enter Try.func21, Try.ntmps21
  go_wp2
  exact bodyPost_ret (v := .agg #[.int .i64 l, .int .i64 c]) (by simp [results, Try.results21, go_sem]) rfl ⟨rfl, ((Below.refl _ _).alloc (Nat.le_refl _) _).alloc (by simp) _⟩

theorem vp_any (l c : Int) (w : World) :
    Calls Try.prog 34 #[.agg #[.int .i64 l, .int .i64 c]] w fun e w' => e = .returned (.bool (vp l c)) ∧ Below w.heap.size w w' := by
  by_cases h : 0 < l
  · have hd : decide (0 < l) = true := by simpa using h
    have hl : vp l c = decide (0 < c) := by simp [vp, h]
    have H := Lib.hid hl
    clear hl h
    go_enter Try.func34, Try.ntmps34
    go_wp2
    go_ret
    exact ⟨by rw [H.out]; rfl, (Below.refl _ _).alloc (Nat.le_refl _) _⟩
  · have hd : decide (0 < l) = false := by simpa using h
    have hl : vp l c = false := by simp [vp, h]
    have H := Lib.hid hl
    clear hl h
    go_enter Try.func34, Try.ntmps34
    go_wp2
    go_ret
    exact ⟨by rw [H.out]; rfl, (Below.refl _ _).alloc (Nat.le_refl _) _⟩

theorem isValid_any (f : ByteArray) (a b c d : Int) (w : World) :
    Calls Try.prog 24 #[.agg #[.string f, .int .i64 a, .int .i64 b, .int .i64 c, .int .i64 d, .string ⟨#[]⟩]] w fun e w' => e = .returned (.bool (vp a b && vp c d)) ∧ Below w.heap.size w w' := by
  cases h : vp a b
  · go_enter Try.func24, Try.ntmps24
    go_wp2_with (go_at_call 34; refine (vp_any _ _ _).mono ?_; rintro e w1 ⟨rfl, hb1⟩)
    go_ret
    exact ⟨rfl, ((Below.refl w.heap.size w).alloc (Nat.le_refl _) _).trans (hb1.mono (by simp))⟩
  · go_enter Try.func24, Try.ntmps24
    go_wp2_with (go_at_call 34; refine (vp_any _ _ _).mono ?_; rintro e w1 ⟨rfl, hb1⟩; have hz := hb1.size; (try simp at hz); obtain ⟨hc1, hf1⟩ := bcell hb1)
    go_ret
    exact ⟨rfl, ((Below.refl w.heap.size w).alloc (Nat.le_refl _) _).trans ((Below.mono ‹Below _ _ _› (by simp)).trans (Below.mono ‹Below _ _ _› (by omega)))⟩

theorem span_any (f : ByteArray) (a b c d : Int) (w : World) :
    Calls Try.prog 23 #[.agg #[.string f, .int .i64 a, .int .i64 b, .int .i64 c, .int .i64 d]] w fun e w' => e = .returned (.agg #[.string f, .int .i64 a, .int .i64 b, .int .i64 c, .int .i64 d, .string ⟨#[]⟩]) ∧ Below w.heap.size w w' := by
  go_enter Try.func23, Try.ntmps23
  go_wp2
  go_region_held3 (fun w' => (w'.cell? ⟨w.heap.size, 0, none⟩ = some (.string f) ∧ w'.cell? ⟨w.heap.size, 1, none⟩ = some (.int .i64 a) ∧ w'.cell? ⟨w.heap.size, 2, none⟩ = some (.int .i64 b) ∧ w'.cell? ⟨w.heap.size, 3, none⟩ = some (.int .i64 c) ∧ w'.cell? ⟨w.heap.size, 4, none⟩ = some (.int .i64 d))) (go_keep) (first | (go_at_call 21; refine (place_any _ _ _).mono ?_; rintro e w1 ⟨rfl, hb1⟩; have hz : w.heap.size + 2 ≤ w1.heap.size := (by have hh := hb1.size; (try simp at hh); omega); have B : Below w.heap.size w w1 := (by first | exact Below.trans ‹Below w.heap.size w _› (hb1.mono (by omega)) | exact Below.trans ((((Below.refl _ _).alloc (Nat.le_refl _) _).alloc (by simp) _).drew) (hb1.mono (by simp; omega))); obtain ⟨k0, -⟩ := bblk hb1 (b := w.heap.size) (by first | omega | (simp; done) | (simp; omega)); obtain ⟨k1, f1⟩ := bblk hb1 (b := w.heap.size + 1) (by first | omega | (simp; done) | (simp; omega))))
  go_wp2
  refine bodyPost_ret (v := .agg #[.string f, .int .i64 a, .int .i64 b, .int .i64 c, .int .i64 d, .string ⟨#[]⟩]) ?_ rfl ⟨rfl, ?_⟩
  · simp [results, Try.results23, go_sem, *]
  · repeat (refine Below.setCell ?_ (by simp) _)
    assumption

theorem spanValid_any (f : ByteArray) (a b c d : Int) (w : World) :
    Calls Try.prog 12 #[.agg #[.string f, .int .i64 a, .int .i64 b, .int .i64 c, .int .i64 d]] w fun e w' => e = .returned (.bool (vp a b && vp c d)) ∧ Below w.heap.size w w' := by
  go_enter Try.func12, Try.ntmps12
  go_wp2_with (first | (go_at_call 23; refine (span_any _ _ _ _ _ _).mono ?_; rintro e w1 ⟨rfl, hb1⟩) | (go_at_call 24; refine (isValid_any _ _ _ _ _ _).mono ?_; rintro e w2 ⟨rfl, hb2⟩))
  go_ret
  exact ⟨rfl, ((Below.refl w.heap.size w).alloc (Nat.le_refl _) _).trans ((hb1.mono (by simp)).trans (hb2.mono (by have := hb1.size; simp at this; omega)))⟩

theorem fits_any (f : ByteArray) (a b c d : Int) (w : World) (hf : f.size ≤ 2147483647) :
    Calls Try.prog 11 #[.agg #[.string f, .int .i64 a, .int .i64 b, .int .i64 c, .int .i64 d]] w fun e w' => e = .returned (.bool true) ∧ Below w.heap.size w w' := by
  go_enter Try.func11, Try.ntmps11
  go_wp2
  go_ret
  exact ⟨rfl, (Below.refl w.heap.size w).alloc (Nat.le_refl _) _⟩

theorem fits_no (f : ByteArray) (a b c d : Int) (w : World) (hf : 2147483647 < f.size) :
    Calls Try.prog 11 #[.agg #[.string f, .int .i64 a, .int .i64 b, .int .i64 c, .int .i64 d]] w fun e w' => e = .returned (.bool false) ∧ Below w.heap.size w w' := by
  go_enter Try.func11, Try.ntmps11
  go_wp2
  go_ret
  exact ⟨rfl, (Below.refl w.heap.size w).alloc (Nat.le_refl _) _⟩

theorem walk_a (f : ByteArray) (a b c d : Int) (w : World) (hf : f.size ≤ 2147483647) (h : ¬ 0 < a) :
    Calls Try.prog 5 #[.agg #[.string f, .int .i64 a, .int .i64 b, .int .i64 c, .int .i64 d]] w fun e w' => e = .returned (.bool true) ∧ Below w.heap.size w w' := by
  have hv2 : (vp 1 1 && vp 1 1) = true := by decide
  have hV : (vp a b && vp c d) = false := by simp [vp, h]
  go_enter Try.func5, Try.ntmps5
  go_wp2_with (first | (go_at_call 11; refine (fits_any _ _ _ _ _ _ hf).mono ?_; rintro e w1 ⟨rfl, hb1⟩; obtain ⟨k0, -⟩ := bblk hb1 (b := w.heap.size) (by simp)) | (go_at_call 12; refine (spanValid_any _ _ _ _ _ _).mono ?_; rintro e w2 ⟨rfl, hb2⟩))
  go_ret
  exact ⟨by first | rfl | simp, ((Below.refl w.heap.size w).alloc (Nat.le_refl _) _).trans ((hb1.mono (by simp)).trans ((Below.mono ‹Below w1.heap.size w1 _› (by have := hb1.size; simp at this; omega)).trans (hb2.mono (by have h1 := hb1.size; have h2 := Below.size ‹Below w1.heap.size w1 _›; simp at h1; omega))))⟩

theorem walk_b (f : ByteArray) (a b c d : Int) (w : World) (hf : f.size ≤ 2147483647) (h0 : 0 < a) (h : ¬ 0 < b) :
    Calls Try.prog 5 #[.agg #[.string f, .int .i64 a, .int .i64 b, .int .i64 c, .int .i64 d]] w fun e w' => e = .returned (.bool true) ∧ Below w.heap.size w w' := by
  have hv2 : (vp 1 1 && vp 1 1) = true := by decide
  have hV : (vp a b && vp c d) = false := by simp [vp, h]
  go_enter Try.func5, Try.ntmps5
  go_wp2_with (first | (go_at_call 11; refine (fits_any _ _ _ _ _ _ hf).mono ?_; rintro e w1 ⟨rfl, hb1⟩; obtain ⟨k0, -⟩ := bblk hb1 (b := w.heap.size) (by simp)) | (go_at_call 12; refine (spanValid_any _ _ _ _ _ _).mono ?_; rintro e w2 ⟨rfl, hb2⟩))
  go_ret
  exact ⟨by first | rfl | simp, ((Below.refl w.heap.size w).alloc (Nat.le_refl _) _).trans ((hb1.mono (by simp)).trans ((Below.mono ‹Below w1.heap.size w1 _› (by have := hb1.size; simp at this; omega)).trans (hb2.mono (by have h1 := hb1.size; have h2 := Below.size ‹Below w1.heap.size w1 _›; simp at h1; omega))))⟩

theorem walk_c (f : ByteArray) (a b c d : Int) (w : World) (hf : f.size ≤ 2147483647) (h0 : 0 < a) (h1 : 0 < b) (h : ¬ 0 < c) :
    Calls Try.prog 5 #[.agg #[.string f, .int .i64 a, .int .i64 b, .int .i64 c, .int .i64 d]] w fun e w' => e = .returned (.bool true) ∧ Below w.heap.size w w' := by
  have hv2 : (vp 1 1 && vp 1 1) = true := by decide
  have hV : (vp a b && vp c d) = false := by simp [vp, h]
  go_enter Try.func5, Try.ntmps5
  go_wp2_with (first | (go_at_call 11; refine (fits_any _ _ _ _ _ _ hf).mono ?_; rintro e w1 ⟨rfl, hb1⟩; obtain ⟨k0, -⟩ := bblk hb1 (b := w.heap.size) (by simp)) | (go_at_call 12; refine (spanValid_any _ _ _ _ _ _).mono ?_; rintro e w2 ⟨rfl, hb2⟩))
  go_ret
  exact ⟨by first | rfl | simp, ((Below.refl w.heap.size w).alloc (Nat.le_refl _) _).trans ((hb1.mono (by simp)).trans ((Below.mono ‹Below w1.heap.size w1 _› (by have := hb1.size; simp at this; omega)).trans (hb2.mono (by have h1 := hb1.size; have h2 := Below.size ‹Below w1.heap.size w1 _›; simp at h1; omega))))⟩

theorem walk_d (f : ByteArray) (a b c d : Int) (w : World) (hf : f.size ≤ 2147483647) (h0 : 0 < a) (h1 : 0 < b) (h2 : 0 < c) :
    Calls Try.prog 5 #[.agg #[.string f, .int .i64 a, .int .i64 b, .int .i64 c, .int .i64 d]] w fun e w' => e = .returned (.bool true) ∧ Below w.heap.size w w' := by
  have hv2 : (vp 1 1 && vp 1 1) = true := by decide
  have hV : (vp a b && vp c d) = decide (0 < d) := by simp [vp, h0, h1, h2]
  go_enter Try.func5, Try.ntmps5
  go_wp2_with (first | (go_at_call 11; refine (fits_any _ _ _ _ _ _ hf).mono ?_; rintro e w1 ⟨rfl, hb1⟩; obtain ⟨k0, -⟩ := bblk hb1 (b := w.heap.size) (by simp)) | (go_at_call 12; refine (spanValid_any _ _ _ _ _ _).mono ?_; rintro e w2 ⟨rfl, hb2⟩))
  go_ret
  exact ⟨by first | rfl | simp, ((Below.refl w.heap.size w).alloc (Nat.le_refl _) _).trans ((hb1.mono (by simp)).trans ((Below.mono ‹Below w1.heap.size w1 _› (by have := hb1.size; simp at this; omega)).trans (hb2.mono (by have h1 := hb1.size; have h2 := Below.size ‹Below w1.heap.size w1 _›; simp at h1; omega))))⟩

theorem walk (f : ByteArray) (a b c d : Int) (w : World) :
    Calls Try.prog 5 #[.agg #[.string f, .int .i64 a, .int .i64 b, .int .i64 c, .int .i64 d]] w fun e w' => e = .returned (.bool true) ∧ Below w.heap.size w w' := by
  by_cases hf : 2147483647 < f.size
  · go_enter Try.func5, Try.ntmps5
    go_wp2_with (go_at_call 11; refine (fits_no _ _ _ _ _ _ hf).mono ?_; rintro e w1 ⟨rfl, hb1⟩)
    go_ret
    exact ⟨rfl, ((Below.refl w.heap.size w).alloc (Nat.le_refl _) _).trans (hb1.mono (by simp))⟩
  · have hf' : f.size ≤ 2147483647 := by omega
    by_cases h0 : 0 < a
    · by_cases h1 : 0 < b
      · by_cases h2 : 0 < c
        · exact walk_d f a b c d w hf' h0 h1 h2
        · exact walk_c f a b c d w hf' h0 h1 h2
      · exact walk_b f a b c d w hf' h0 h1
    · exact walk_a f a b c d w hf' h0

theorem own : ownKnob Try.prog.godebug = none := by kernel_rfl
theorem laidOut : laidOutB Try.prog = true := by kernel_rfl
theorem cells24 : Try.prog.cellsOf 24 = 2 := by kernel_rfl
theorem cells27 : Try.prog.cellsOf 27 = 5 := by kernel_rfl
theorem cells9 : Try.prog.cellsOf 9 = 1 := by kernel_rfl
theorem cells3 : Try.prog.cellsOf 3 = 1 := by kernel_rfl

theorem array5 {α : Type} {cs : Array α} (h : cs.size = 5) : ∃ c0 c1 c2 c3 c4, cs = #[c0, c1, c2, c3, c4] := by
  obtain ⟨l⟩ := cs
  match l, h with
  | [c0, c1, c2, c3, c4], _ => exact ⟨c0, c1, c2, c3, c4, rfl⟩

set_option maxRecDepth 100000 in
/-- A span that came in: its text and its four numbers. -/
theorem open_span {H : Type} {enc : TypeId × Value → H} {w : World} {r : Reach} {b0 base : Nat} {spare : Nat → Bool} {held : Bool} {v : Value} {d : DataW H} {p : List MemPlace}
    (hv : Value.okWide Try.prog w r b0 27 v) (h : DataW.Trod enc Try.prog w base spare held 27 v d p) :
    ∃ (f : ByteArray) (a b c d : Int), v = .agg #[.string f, .int .i64 a, .int .i64 b, .int .i64 c, .int .i64 d] := by
  obtain ⟨cs, rfl, hsz⟩ := okWide_struct Try.underlying27 hv
  obtain ⟨c0, c1, c2, c3, c4, rfl⟩ := array5 (hsz.trans cells27)
  obtain ⟨fuel, hf⟩ := h
  obtain ⟨y0, y1, y2, n, -, -, h0, h1, h2⟩ := Deep.trod_struct3 Try.underlying27 hf
  simp [Value.cells, cells9, cells24] at h0 h1 h2
  obtain ⟨f, e0, -, -⟩ := DataW.trod_string Try.underlying9 h0
  obtain ⟨z0, z1, n1, -, -, h3, h4⟩ := trod_struct2 Try.underlying24 h1
  obtain ⟨z2, z3, n2, -, -, h5, h6⟩ := trod_struct2 Try.underlying24 h2
  simp [cells3] at h3 h4 h5 h6
  obtain ⟨a, e1, -, -⟩ := DataW.trod_int Try.underlying3 h3
  obtain ⟨b, e2, -, -⟩ := DataW.trod_int Try.underlying3 h4
  obtain ⟨c, e3, -, -⟩ := DataW.trod_int Try.underlying3 h5
  obtain ⟨d, e4, -, -⟩ := DataW.trod_int Try.underlying3 h6
  simp at e0 e1 e2 e3 e4
  subst e0 e1 e2 e3 e4
  exact ⟨f, a, b, c, d, rfl⟩

set_option maxRecDepth 100000 in
theorem lifted (os : Os) (started : os.Started) (H : Type) (enc : TypeId × Value → H) :
    ReturnsInHanded {} Try.checked os 5 .any (Rows.fnSpanValidSpec.pre6 enc Try.prog Try.f5 Rows.fnSpanValidRow.domain false) (Rows.fnSpanValidSpec.post enc Try.prog Try.f5 false true false false) := by
  refine returnsInHanded_of_change (C := Try.checked) own started (by kernel_rfl) Try.func5
    (ChangeSpec.witness6 (enc := enc) (C := Try.checked) false ⟨#[], #[.agg #[.string ByteArray.empty, .int .i64 0, .int .i64 0, .int .i64 0, .int .i64 0]], []⟩ 8 (by kernel_rfl) (by kernel_rfl) (by kernel_rfl) (by kernel_rfl)) ?_
  intro W base args ds gs before hval0 hW hcnd _
  have hval : ∀ (j : Nat) t v, Try.f5.params[j]? = some t → args[j]? = some v → Value.okWide Try.prog W .any base t v := hval0
  have hW' := hW
  obtain ⟨p, q, hA0, hV, rfl, hfz, hnd⟩ := hW
  have hA : DataW.TrodAll enc Try.prog W 0 (fun _ => true) true Try.f5.params.toList args.toList ds p := hA0
  rw [Try.params5] at hA hval
  obtain ⟨v0, vs0, d0, ds0, p0, q0, hargs, rfl, rfl, h0, r0⟩ := trodAll_cons hA
  obtain ⟨rfl, rfl, rfl⟩ := trodAll_nil r0
  obtain rfl : args = #[v0] := by cases args; simp_all
  obtain ⟨rfl, rfl⟩ := trodVars_none hV
  have k0 := h0
  have lt0 : ∀ x ∈ p0, x.block < W.heap.size := by obtain ⟨m, hm⟩ := k0; exact DataW.trod_lt m _ _ _ hm
  obtain ⟨f, a, b, c, d, rfl⟩ := open_span (hval 0 27 v0 rfl rfl) h0
  clear hA0 hval0
  refine (walk f a b c d W).mono fun e W' ⟨he, bel⟩ => ?_
  subst he
  exact ⟨_, rfl, _, _, _, [], _, [], hW', trodAll_mk1 (shut_bool Try.underlying4 _), (trodAll_cons_mk (Below.trod laidOut (by kernel_rfl) (of_decide_eq_true (by kernel_rfl)) k0 bel lt0) trodAll_mk0), rfl, bel.frame _, fun h => by cases h⟩

theorem over : Rows.fnSpanValidRow.holds Try.pinned (OpenSpec.ofChange Rows.fnSpanValidSpec) :=
  OpenClaim.holds_of_wide 5 Try.f5 rfl rfl rfl rfl rfl rfl rfl ⟨rfl, rfl, rfl, rfl, rfl⟩ rfl rfl rfl rfl rfl (by kernel_rfl) Try.func5 (by kernel_rfl)
    (of_decide_eq_true (by kernel_rfl)) (by unfold Func.isWrapper; first | (rw [if_pos (by decide +kernel)]; kernel_rfl) | (rw [if_neg (by decide +kernel)]; exact ⟨rfl, rfl⟩))
    (fun os started H enc _ => lifted os started H enc)

/-- ████ THE STATEMENT ████ -/
theorem proved : Rows.FnSpanValidSaid := over
#print axioms proved
end Go.Proofs.Yteecbmhkfnlecaa.fnSpanValid
