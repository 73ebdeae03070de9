/-
  The reader of Flux over a text of one token: unary and expression, which count their depth and defer. Abstract in the literal. No conditions.
-/
import Derived.Test.YteecbmhkfnlecaaGreatDoorRdA
import Derived.Lib.Hide
import Derived.Deep.LoopGhost
import Derived.Defers
import Derived.Recover
namespace Go.Proofs.YteecbmhkfnlecaaGreatDoor
open Go.RowKit
set_option linter.unusedVariables false
set_option linter.unusedSimpArgs false

theorem RdAt.deeper {w : World} {b : Nat} {s : ByteArray} {i k : Nat} {t : ByteArray} {d : Nat} (h : RdAt w b s i k t d) (d' : Nat) : RdAt (w.setCell ⟨b, 5, none⟩ (.int .i64 d')) b s i k t d' := by
  obtain ⟨c0, c1, c2, c3, c4, c5, f⟩ := h
  exact ⟨by simp [go_sem, c0], by simp [go_sem, c1], by simp [go_sem, c2], by simp [go_sem, c3], by simp [go_sem, c4], by simp [go_sem, c5], by intro o; simp [go_sem, f]⟩

/-- The world behind a reader's function's first steps. -/
abbrev deepW (w : World) (b d : Nat) : World := ((w.setCell ⟨b, 5, none⟩ (.int .i64 ((d : Int) + 1))).alloc (.cells #[.pointer (some ⟨b, 0, none⟩)] 46)).alloc (.cells #[.int .i64 0, .string ⟨#[]⟩, .string ⟨#[]⟩, .int .u64 0, .slice none 0 0] 26)

theorem deepW_at {w : World} {b : Nat} {s : ByteArray} {i k : Nat} {t : ByteArray} {d : Nat} (h : RdAt w b s i k t d) : RdAt (deepW w b d) b s i k t (d + 1) := by
  have h1 := h.deeper (d + 1)
  refine h1.below ?_
  exact ((Below.refl _ _).alloc (Nat.le_refl _) _).alloc (by simp) _

theorem deepW_but (w : World) (b d : Nat) : But b w (deepW w b d) := (((But.refl b w).setCell (p := ⟨b, 5, none⟩) (Or.inl rfl) _).alloc _).alloc _

set_option maxRecDepth 100000 in
theorem una_any (s t nt : ByteArray) (i k nk nu m : Nat) (hm : m ≤ 100) (hk : k ≠ 9) (hC : ReadC pri #[] (m + 1) s i k t nk nt nu) : ReadC una #[] m s i k t nk nt nu := by
  intro w b d h hT nb hd
  have hlt := h.lt
  have c4 := h.c4
  have c5 := h.c5
  have f := h.f
  have HC := Lib.hid hC
  have HT := Lib.hid hT
  have H := Lib.hid h
  have HK := Lib.hid hk
  show Calls _ _ #[.pointer (some ⟨b, 0, none⟩)] w _
  clear hC hT h hk
  have hdz : ¬ (200 : Int) < (d : Int) + 1 := by omega
  go_enter_defers Tryz.func59, Tryz.ntmps59
  go_wp2_with fail
  refine (mark_no _ s t b i k (d + 1) _ (deepW_at H.out) HK.out).mono ?_
  rintro e w0 ⟨rfl, rfl⟩
  go_wp2_with fail
  refine (mark_no _ s t b i k (d + 1) _ (deepW_at H.out) HK.out).mono ?_
  rintro e w0 ⟨rfl, rfl⟩
  go_wp2_with fail
  refine (HC.out _ b (d + 1) (deepW_at H.out) (tabs_but HT.out (deepW_but w b d) nb.1 nb.2) nb (by omega)).mono ?_
  rintro e w1 ⟨rfl, hR, hb⟩
  have HB := Lib.hid ((deepW_but w b d).trans hb)
  obtain ⟨kA, fA⟩ := hb.blk (c := w.heap.size) (by simp; omega) (by omega)
  obtain ⟨kB, fB⟩ := hb.blk (c := w.heap.size + 1) (by simp) (by omega)
  have hsz : w.heap.size + 2 ≤ w1.heap.size := by have := hb.size; simpa using this
  have A0 := kA 0
  have B0 := kB 0; have B1 := kB 1; have B2 := kB 2; have B3 := kB 3; have B4 := kB 4
  simp [go_sem] at A0 B0 B1 B2 B3 B4 fA fB
  have HR := Lib.hid hR
  have q4 := hR.c4
  have hl1 := hR.lt
  clear hb hR kA kB c4 c5 f
  go_wp2_with fail
  go_loopg [] 1 (fun _ wr => wr = w1.alloc (.cells #[.int .i64 nk, .string nt, .string ⟨#[]⟩, .int .u64 nu, .slice none 0 0] 26))
  case atStart => rfl
  case round =>
    subst hrel
    have hB1 := (Below.refl w1.heap.size w1).alloc (Nat.le_refl _) (.cells #[.int .i64 nk, .string nt, .string ⟨#[]⟩, .int .u64 nu, .slice none 0 0] 26)
    have HB1 := Lib.hid hB1
    obtain ⟨kw, fw⟩ := oblk hB1 (b := w.heap.size) (by omega)
    obtain ⟨kv, fv⟩ := oblk hB1 (b := w.heap.size + 1) (by omega)
    obtain ⟨kb, fb⟩ := oblk hB1 (b := b) (by omega)
    clear hB1
    go_wp2_with fail
    refine (mark_no _ s ⟨#[]⟩ b s.size 0 (d + 1) _ (HR.out.below HB1.out) (by decide)).mono ?_
    rintro e w0 ⟨rfl, rfl⟩
    go_wp2_with fail
    refine (mark_no _ s ⟨#[]⟩ b s.size 0 (d + 1) _ (HR.out.below HB1.out) (by decide)).mono ?_
    rintro e w0 ⟨rfl, rfl⟩
    go_wp2_with fail
    refine (mark_no _ s ⟨#[]⟩ b s.size 0 (d + 1) _ (HR.out.below HB1.out) (by decide)).mono ?_
    rintro e w0 ⟨rfl, rfl⟩
    go_wp2_with fail
    refine leaves_cons (f := 79) (args := #[.pointer (some ⟨w.heap.size, 0, none⟩)]) (by simp) (by simp [go_sem]) ?_
    refine (un_less w.heap.size b d _ ?_ ?_ ?_ (by omega)).mono ?_
    · simp [go_sem, kw, A0]
    · simp [go_sem, kb, HR.out.c5]
    · intro o
      simp [go_sem, fb, HR.out.f]
    rintro e u2 w4 ⟨rfl, rfl, rfl⟩
    simp [Leaves, settle, results, Tryz.results59, go_sem, kv, B0, B1, B2, B3, B4]
    refine ⟨(((((((HR.out.below HB1.out).set (by simp; omega) _).set (by simp; omega) _).set (by simp; omega) _).set (by simp; omega) _).set (by simp; omega) _).deeper d), ?_⟩
    exact ((((((HB.out.trans (.of HB1.out)).setCell (Or.inr (by simp)) _).setCell (Or.inr (by simp)) _).setCell (Or.inr (by simp)) _).setCell (Or.inr (by simp)) _).setCell (Or.inr (by simp)) _).setCell (Or.inl rfl) _

/-- Behind a reader's function the depth is as it was. -/
theorem ex_less (c b d : Nat) (w : World) (hc : w.cell? ⟨c, 0, none⟩ = some (.pointer (some ⟨b, 0, none⟩))) (h5 : w.cell? ⟨b, 5, none⟩ = some (.int .i64 (d + 1 : Nat))) (f : ∀ o, w.frozen? ⟨b, o, none⟩ = false) (hd : d ≤ 1000) :
    CallsD Tryz.prog 35 #[.pointer (some ⟨c, 0, none⟩)] .returning w fun e u' w' => u' = .returning ∧ (e = .returned (.tuple #[]) ∧ w' = w.setCell ⟨b, 5, none⟩ (.int .i64 d)) := by
  refine callsD_of_wp Tryz.func35 rfl ?_
  rw [Tryz.ntmps35]
  simp only [Array.replicate]
  go_wp2_with fail
  go_end0
  exact ⟨rfl, rfl⟩

set_option maxRecDepth 100000 in
theorem exp_any (s t nt : ByteArray) (i k nk nu m : Nat) (hm : m ≤ 100) (hk : k ≠ 1) (hC : ReadC bin #[.int .i64 (0 : Nat)] (m + 1) s i k t nk nt nu) : ReadC expn #[] m s i k t nk nt nu := by
  intro w b d h hT nb hd
  have hlt := h.lt
  have c4 := h.c4
  have c5 := h.c5
  have f := h.f
  have HC := Lib.hid hC
  have HT := Lib.hid hT
  have H := Lib.hid h
  have HK := Lib.hid hk
  show Calls _ _ #[.pointer (some ⟨b, 0, none⟩)] w _
  clear hC hT h hk
  have hdz : ¬ (200 : Int) < (d : Int) + 1 := by omega
  go_enter_defers Tryz.func18, Tryz.ntmps18
  go_wp2_with fail
  refine (word_no _ s t b i k (d + 1) _ (deepW_at H.out) HK.out).mono ?_
  rintro e w0 ⟨rfl, rfl⟩
  go_wp2_with fail
  refine (HC.out _ b (d + 1) (deepW_at H.out) (tabs_but HT.out (deepW_but w b d) nb.1 nb.2) nb (by omega)).mono ?_
  rintro e w1 ⟨rfl, hR, hb⟩
  have HB := Lib.hid ((deepW_but w b d).trans hb)
  obtain ⟨kA, fA⟩ := hb.blk (c := w.heap.size) (by simp; omega) (by omega)
  obtain ⟨kB, fB⟩ := hb.blk (c := w.heap.size + 1) (by simp) (by omega)
  have hsz : w.heap.size + 2 ≤ w1.heap.size := by have := hb.size; simpa using this
  have A0 := kA 0
  have B0 := kB 0; have B1 := kB 1; have B2 := kB 2; have B3 := kB 3; have B4 := kB 4
  simp [go_sem] at A0 B0 B1 B2 B3 B4 fA fB
  have HR := Lib.hid hR
  clear hb hR kA kB c4 c5 f
  go_wp2_with fail
  refine leaves_cons (f := 35) (args := #[.pointer (some ⟨w.heap.size, 0, none⟩)]) (by simp) (by simp [go_sem]) ?_
  refine (ex_less w.heap.size b d _ ?_ ?_ ?_ (by omega)).mono ?_
  · simp [go_sem, A0]
  · simp [go_sem, HR.out.c5]
  · intro o
    simp [go_sem, HR.out.f]
  rintro e u2 w4 ⟨rfl, rfl, rfl⟩
  simp [Leaves, settle, results, Tryz.results18, go_sem, B0, B1, B2, B3, B4]
  refine ⟨((((((HR.out.set (by simp; omega) _).set (by simp; omega) _).set (by simp; omega) _).set (by simp; omega) _).set (by simp; omega) _).deeper d), ?_⟩
  exact (((((HB.out.setCell (Or.inr (by simp)) _).setCell (Or.inr (by simp)) _).setCell (Or.inr (by simp)) _).setCell (Or.inr (by simp)) _).setCell (Or.inr (by simp)) _).setCell (Or.inl rfl) _

/-- All the levels. -/
theorem bin_zero (s t nt : ByteArray) (i k nk nu m : Nat) (hk : k ≠ 1) (hC : ReadC una #[] m s i k t nk nt nu) : ∀ j, j ≤ 7 → ReadC bin #[.int .i64 ((7 - j : Nat) : Int)] m s i k t nk nt nu
  | 0, _ => bin_top s t nt i k nk nu m hC
  | j + 1, h => by
    have h1 := bin_zero s t nt i k nk nu m hk hC j (by omega)
    rw [show 7 - j = 7 - (j + 1) + 1 by omega] at h1
    exact bin_step s t nt i k nk nu (7 - (j + 1)) m hk (by omega) h1

theorem exp_of (s t nt : ByteArray) (i k nk nu : Nat) (hk : k ≠ 1) (hk9 : k ≠ 9) (hC : ReadC pri #[] 2 s i k t nk nt nu) : ReadC expn #[] 0 s i k t nk nt nu :=
  exp_any s t nt i k nk nu 0 (by omega) hk (bin_zero s t nt i k nk nu 1 hk (una_any s t nt i k nk nu 1 (by omega) hk9 hC) 7 (by omega))

/-- A text of one token and its literal: what spec.ReadExpression answers. -/
def OneC (s : ByteArray) (k : Nat) (t : ByteArray) (nk : Nat) (nt : ByteArray) (nu : Nat) : Prop := NextC s 0 true s.size k t ∧ ReadC pri #[] 2 s s.size k t nk nt nu

theorem tabs_keep {w w' : World} (hT : Tabs w) (hb : Below w.heap.size w w') : Tabs w' := by
  have l0 : 0 < w.heap.size := block_lt_of_cell (hT.1 0 (by omega))
  have l1 : 1 < w.heap.size := block_lt_of_cell (hT.2 0 (by omega)).1
  obtain ⟨k0, -⟩ := oblk hb l0
  obtain ⟨k1, -⟩ := oblk hb l1
  exact ⟨fun c hc => (k0 c).trans (hT.1 c hc), fun i hi => ⟨(k1 _).trans (hT.2 i hi).1, (k1 _).trans (hT.2 i hi).2⟩⟩

set_option maxRecDepth 100000 in
theorem read_one (s t nt : ByteArray) (k nk nu : Nat) (hk : k ≠ 1) (hk9 : k ≠ 9) (hC : OneC s k t nk nt nu) (w : World) (hT : Tabs w) :
    Calls Tryz.prog 17 #[.string s] w fun e w' => ∃ b, w.heap.size ≤ b ∧ e = .returned (.pointer (some ⟨b, 0, none⟩)) ∧ RdAt w' b s s.size k t 0 ∧ Below w.heap.size w w' := by
  have HC := Lib.hid hC
  have HT := Lib.hid hT
  have nb : w.heap.size ≠ 0 ∧ w.heap.size ≠ 1 := by
    have l0 : 0 < w.heap.size := block_lt_of_cell (hT.1 0 (by omega))
    have l1 : 1 < w.heap.size := block_lt_of_cell (hT.2 0 (by omega)).1
    omega
  clear hC hT
  go_enter Tryz.func17, Tryz.ntmps17
  go_wp2_with fail
  refine (step_any s ⟨#[]⟩ t w.heap.size 0 0 0 s.size k true _ HC.out.1 ⟨?_, ?_, ?_, ?_, ?_, ?_, ?_⟩ (tabs_keep HT.out ((Below.refl _ _).alloc (Nat.le_refl _) _)) nb).mono ?_
  · simp [go_sem]
  · simp [go_sem]
  · simp [go_sem]
  · simp [go_sem]
  · simp [go_sem]
  · simp [go_sem]
  · intro o
    simp [go_sem]
  rintro e w1 ⟨rfl, hR, hb⟩
  have HB := Lib.hid (((Below.refl w.heap.size w).alloc (Nat.le_refl _) _).trans (hb.below (Nat.le_refl _) (by simp)))
  have HR := Lib.hid hR
  clear hb hR
  go_wp2_with fail
  go_ret
  exact ⟨w.heap.size, Nat.le_refl _, rfl, HR.out, HB.out⟩

set_option maxRecDepth 100000 in
theorem read_expr (s t nt : ByteArray) (k nk nu : Nat) (hk : k ≠ 1) (hk9 : k ≠ 9) (hC : OneC s k t nk nt nu) (w : World) (hT : Tabs w) :
    Calls Tryz.prog 8 #[.string s] w fun e w' => e = .returned (.tuple #[leafV nk nt nu, .bool true]) ∧ Below w.heap.size w w' := by
  have HC := Lib.hid hC
  have HT := Lib.hid hT
  clear hC hT
  have hB0 := (Below.refl w.heap.size w).alloc (Nat.le_refl _) (.cells #[.int .i64 0, .string ⟨#[]⟩, .string ⟨#[]⟩, .int .u64 0, .slice none 0 0] 26)
  have HB0 := Lib.hid hB0
  go_enter Tryz.func8, Tryz.ntmps8
  go_wp2_with fail
  refine (read_one s t nt k nk nu hk hk9 HC.out _ (tabs_keep HT.out HB0.out)).mono ?_
  rintro e w1 ⟨b, hbs, rfl, hR, hb⟩
  obtain ⟨kA, fA⟩ := oblk hb (b := w.heap.size) (by simp)
  have A0 := kA 0; have A1 := kA 1; have A2 := kA 2; have A3 := kA 3; have A4 := kA 4
  simp [go_sem] at A0 A1 A2 A3 A4 fA hbs
  have HB1 := Lib.hid (HB0.out.trans (hb.mono (by simp)))
  have hsz : w.heap.size + 1 ≤ w1.heap.size := by have := hb.size; simpa using this
  have hlt := hR.lt
  have HR := Lib.hid hR
  have nb : b ≠ 0 ∧ b ≠ 1 := by
    have l0 : 0 < w.heap.size := block_lt_of_cell (HT.out.1 0 (by omega))
    have l1 : 1 < w.heap.size := block_lt_of_cell (HT.out.2 0 (by omega)).1
    omega
  clear hB0 hb kA hR
  go_wp2_with fail
  refine (exp_of s t nt s.size k nk nu hk hk9 HC.out.2 w1 b 0 HR.out (tabs_keep HT.out HB1.out) nb (by omega)).mono ?_
  rintro e w2 ⟨rfl, hR2, hb2⟩
  obtain ⟨kB, fB⟩ := hb2.blk (c := w.heap.size) (by omega) (by omega)
  have HB2 := Lib.hid (HB1.out.trans (hb2.below (by omega) (by omega)))
  have q1 := hR2.c4
  have q2 := hR2.c2
  have q3 := hR2.lt
  have hsz2 := hb2.size
  clear hb2 hR2
  go_wp2_with fail
  have hB3 := (Below.refl w2.heap.size w2).alloc (Nat.le_refl _) (.cells #[.int .i64 nk, .string nt, .string ⟨#[]⟩, .int .u64 nu, .slice none 0 0] 26)
  obtain ⟨kC, fC⟩ := oblk hB3 (b := w.heap.size) (by omega)
  obtain ⟨kD, -⟩ := oblk hB3 (b := b) (by omega)
  have C0 := (kC 0).trans ((kB 0).trans A0); have C1 := (kC 1).trans ((kB 1).trans A1); have C2 := (kC 2).trans ((kB 2).trans A2); have C3 := (kC 3).trans ((kB 3).trans A3); have C4 := (kC 4).trans ((kB 4).trans A4)
  have fD := fun o => (fC o).trans ((fB o).trans (fA o))
  have D4 := (kD 4).trans q1
  have D2 : _ = some (Value.int .i64 0) := (kD 2).trans q2
  have E0 : (w2.alloc (.cells #[.int .i64 nk, .string nt, .string ⟨#[]⟩, .int .u64 nu, .slice none 0 0] 26)).cell? ⟨w2.heap.size, 0, none⟩ = some (.int .i64 nk) := by simp [go_sem]
  have E1 : (w2.alloc (.cells #[.int .i64 nk, .string nt, .string ⟨#[]⟩, .int .u64 nu, .slice none 0 0] 26)).cell? ⟨w2.heap.size, 1, none⟩ = some (.string nt) := by simp [go_sem]
  have E2 : (w2.alloc (.cells #[.int .i64 nk, .string nt, .string ⟨#[]⟩, .int .u64 nu, .slice none 0 0] 26)).cell? ⟨w2.heap.size, 2, none⟩ = some (.string ⟨#[]⟩) := by simp [go_sem]
  have E3 : (w2.alloc (.cells #[.int .i64 nk, .string nt, .string ⟨#[]⟩, .int .u64 nu, .slice none 0 0] 26)).cell? ⟨w2.heap.size, 3, none⟩ = some (.int .u64 nu) := by simp [go_sem]
  have E4 : (w2.alloc (.cells #[.int .i64 nk, .string nt, .string ⟨#[]⟩, .int .u64 nu, .slice none 0 0] 26)).cell? ⟨w2.heap.size, 4, none⟩ = some (.slice none 0 0) := by simp [go_sem]
  have HB3 := Lib.hid (HB2.out.trans (hB3.mono (by omega)))
  have hn1 : w.heap.size ≠ w2.heap.size := by omega
  have hn2 : w.heap.size ≠ b := by omega
  clear hB3 kB fB A0 A1 A2 A3 A4 fA q1 q2 kC fC kD
  generalize w2.alloc (.cells #[.int .i64 nk, .string nt, .string ⟨#[]⟩, .int .u64 nu, .slice none 0 0] 26) = W3 at *
  generalize w2.heap.size = z at *
  go_region
  go_wp2_with fail
  refine bodyPost_ret (v := .tuple #[leafV nk nt nu, .bool true]) ?_ rfl ⟨rfl, ?_⟩
  · simp [results, Tryz.results8, go_sem, C0, C1, C2, C3, C4]
  · exact Below.drew (((((HB3.out.setCell (Nat.le_refl _) _).setCell (Nat.le_refl _) _).setCell (Nat.le_refl _) _).setCell (Nat.le_refl _) _).setCell (Nat.le_refl _) _)
end Go.Proofs.YteecbmhkfnlecaaGreatDoor
