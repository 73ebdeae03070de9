/-
  The reader of Flux over a text of one token: its small functions where nothing follows the token. Abstract in the token and in the literal that it is. No conditions.
-/
import Derived.Test.YteecbmhkfnlecaaGreatDoorProg
import Derived.WalkKit
import Derived.Lib.Hide
import Derived.Deep.LoopGhost
import Derived.Defers
import Derived.Recover
import Derived.Shelf.Unicode.DecodeSlow
namespace Go.Proofs.YteecbmhkfnlecaaGreatDoor
open Go.RowKit
set_option linter.unusedVariables false
set_option linter.unusedSimpArgs false

/-- All blocks but one are as they were. -/
structure But (b : Nat) (w w' : World) : Prop where
  os : w'.os = w.os
  tape : w'.tape = w.tape
  output : w'.output = w.output
  size : w.heap.size ≤ w'.heap.size
  block : ∀ k, k < w.heap.size → k ≠ b → w'.heap[k]? = w.heap[k]?

theorem But.refl (b : Nat) (w : World) : But b w w := ⟨rfl, rfl, rfl, Nat.le_refl _, fun _ _ _ => rfl⟩
theorem But.trans {b : Nat} {w w1 w2 : World} (h : But b w w1) (g : But b w1 w2) : But b w w2 :=
  ⟨g.os.trans h.os, g.tape.trans h.tape, g.output.trans h.output, Nat.le_trans h.size g.size, fun k hk hb => (g.block k (Nat.lt_of_lt_of_le hk h.size) hb).trans (h.block k hk hb)⟩
theorem But.of {b : Nat} {w w' : World} (h : Below w.heap.size w w') : But b w w' := ⟨h.os, h.tape, h.output, h.size, fun k hk _ => h.block k hk⟩
theorem But.alloc {b : Nat} {w w1 : World} (h : But b w w1) (o : Obj) : But b w (w1.alloc o) := h.trans (.of ((Below.refl _ _).alloc (Nat.le_refl _) o))
theorem But.setCell {b : Nat} {w w1 : World} (h : But b w w1) {p : Addr} (hp : p.block = b ∨ w.heap.size ≤ p.block) (u : Value) : But b w (w1.setCell p u) :=
  ⟨h.os, h.tape, h.output, by simpa [World.setCell] using h.size, fun k hk hb => (Below.heap_setCell _ _ _ _ (by rcases hp with e | e <;> omega)).trans (h.block k hk hb)⟩
theorem But.drew {b : Nat} {w w1 : World} (h : But b w w1) : But b w w1.drew := ⟨h.os, h.tape, h.output, h.size, h.block⟩
theorem But.drewN {b : Nat} {w w1 : World} (h : But b w w1) : ∀ n, But b w (w1.drewN n)
  | 0 => h
  | n + 1 => (But.drewN h n).drew
theorem But.blk {b : Nat} {w w1 : World} (h : But b w w1) {c : Nat} (hc : c < w.heap.size) (hb : c ≠ b) : (∀ o, w1.cell? ⟨c, o, none⟩ = w.cell? ⟨c, o, none⟩) ∧ (∀ o, w1.frozen? ⟨c, o, none⟩ = w.frozen? ⟨c, o, none⟩) :=
  ⟨fun o => World.cell?_of_block (h.block c hc hb), fun o => World.frozen?_of_block (h.block c hc hb)⟩
theorem But.below {b B : Nat} {w w1 : World} (h : But b w w1) (hb : B ≤ b) (hB : B ≤ w.heap.size) : Below B w w1 := ⟨h.os, h.tape, h.output, h.size, fun k hk => h.block k (by omega) (by omega)⟩

theorem oblk {W w1 : World} (hb : Below W.heap.size W w1) {b : Nat} (h : b < W.heap.size) : (∀ o, w1.cell? ⟨b, o, none⟩ = W.cell? ⟨b, o, none⟩) ∧ (∀ o, w1.frozen? ⟨b, o, none⟩ = W.frozen? ⟨b, o, none⟩) :=
  ⟨fun o => hb.cell (p := ⟨b, o, none⟩) h, fun o => hb.frozen (p := ⟨b, o, none⟩) h⟩

/-- A reader stands at a place of its text, a token before it. -/
structure RdAt (w : World) (b : Nat) (s : ByteArray) (i k : Nat) (t : ByteArray) (deep : Nat) : Prop where
  c0 : w.cell? ⟨b, 0, none⟩ = some (.string s)
  c1 : w.cell? ⟨b, 1, none⟩ = some (.int .i64 i)
  c2 : w.cell? ⟨b, 2, none⟩ = some (.int .i64 k)
  c3 : w.cell? ⟨b, 3, none⟩ = some (.string t)
  c4 : w.cell? ⟨b, 4, none⟩ = some (.bool false)
  c5 : w.cell? ⟨b, 5, none⟩ = some (.int .i64 deep)
  f : ∀ o, w.frozen? ⟨b, o, none⟩ = false

theorem RdAt.lt {w : World} {b : Nat} {s : ByteArray} {i k : Nat} {t : ByteArray} {deep : Nat} (h : RdAt w b s i k t deep) : b < w.heap.size := block_lt_of_cell h.c0

theorem RdAt.below {w w1 : World} {b : Nat} {s : ByteArray} {i k : Nat} {t : ByteArray} {deep : Nat} (h : RdAt w b s i k t deep) (hb : Below w.heap.size w w1) : RdAt w1 b s i k t deep := by
  obtain ⟨kb, fb⟩ := oblk hb h.lt
  exact ⟨(kb 0).trans h.c0, (kb 1).trans h.c1, (kb 2).trans h.c2, (kb 3).trans h.c3, (kb 4).trans h.c4, (kb 5).trans h.c5, fun o => (fb o).trans (h.f o)⟩

theorem RdAt.set {w : World} {b : Nat} {s : ByteArray} {i k : Nat} {t : ByteArray} {deep : Nat} (h : RdAt w b s i k t deep) {p : Addr} (hp : p.block ≠ b) (u : Value) : RdAt (w.setCell p u) b s i k t deep := by
  have hk : ∀ o, (w.setCell p u).cell? ⟨b, o, none⟩ = w.cell? ⟨b, o, none⟩ := fun o => World.cell?_of_block (Below.heap_setCell _ _ _ _ (Ne.symm hp))
  have hf : ∀ o, (w.setCell p u).frozen? ⟨b, o, none⟩ = w.frozen? ⟨b, o, none⟩ := fun o => World.frozen?_of_block (Below.heap_setCell _ _ _ _ (Ne.symm hp))
  exact ⟨(hk 0).trans h.c0, (hk 1).trans h.c1, (hk 2).trans h.c2, (hk 3).trans h.c3, (hk 4).trans h.c4, (hk 5).trans h.c5, fun o => (hf o).trans (h.f o)⟩

abbrev Tabs (w : World) : Prop := Lib.Utf8Tabs 0 1 w

/-- What reading a token does to the reader: its place alone. -/
def NextW (b i : Nat) (w w' : World) : Prop := But b w w' ∧ w'.cell? ⟨b, 1, none⟩ = some (.int .i64 i) ∧ (∀ o, o ≠ 1 → w'.cell? ⟨b, o, none⟩ = w.cell? ⟨b, o, none⟩) ∧ (∀ o, w'.frozen? ⟨b, o, none⟩ = w.frozen? ⟨b, o, none⟩)

/-- The lexer's next token from a place on. -/
def NextC (s : ByteArray) (i : Nat) (op : Bool) (j k : Nat) (t : ByteArray) : Prop :=
  ∀ (w : World) (b : Nat), w.cell? ⟨b, 0, none⟩ = some (.string s) → w.cell? ⟨b, 1, none⟩ = some (.int .i64 i) → (∀ o, w.frozen? ⟨b, o, none⟩ = false) → Tabs w →
    Calls Tryz.prog 57 #[.pointer (some ⟨b, 0, none⟩), .bool op] w fun e w' => e = .returned (.agg #[.int .i64 k, .string t]) ∧ NextW b j w w'

theorem tabs_but {b : Nat} {w w' : World} (hT : Tabs w) (h : But b w w') (h0 : b ≠ 0) (h1 : b ≠ 1) : Tabs w' := by
  have l0 : 0 < w.heap.size := block_lt_of_cell (hT.1 0 (by omega))
  have l1 : 1 < w.heap.size := block_lt_of_cell (hT.2 0 (by omega)).1
  obtain ⟨k0, -⟩ := h.blk l0 (Ne.symm h0)
  obtain ⟨k1, -⟩ := h.blk l1 (Ne.symm h1)
  exact ⟨fun c hc => (k0 c).trans (hT.1 c hc), fun i hi => ⟨(k1 _).trans (hT.2 i hi).1, (k1 _).trans (hT.2 i hi).2⟩⟩

theorem word_no (x s t : ByteArray) (b i k d : Nat) (w : World) (h : RdAt w b s i k t d) (hk : k ≠ 1) :
    Calls Tryz.prog 37 #[.pointer (some ⟨b, 0, none⟩), .string x] w fun e w' => e = .returned (.bool false) ∧ w' = w := by
  have hk1 : ((k : Int) == 1) = false := by simp; omega
  obtain ⟨c0, c1, c2, c3, c4, c5, f⟩ := h
  clear hk
  go_enter Tryz.func37, Tryz.ntmps37
  go_wp2_with fail
  go_ret
  exact ⟨rfl, rfl⟩

theorem mark_no (x s t : ByteArray) (b i k d : Nat) (w : World) (h : RdAt w b s i k t d) (hk : k ≠ 9) :
    Calls Tryz.prog 80 #[.pointer (some ⟨b, 0, none⟩), .string x] w fun e w' => e = .returned (.bool false) ∧ w' = w := by
  have hk1 : ((k : Int) == 9) = false := by simp; omega
  obtain ⟨c0, c1, c2, c3, c4, c5, f⟩ := h
  clear hk
  go_enter Tryz.func80, Tryz.ntmps80
  go_wp2_with fail
  go_ret
  exact ⟨rfl, rfl⟩

theorem level_no (s t : ByteArray) (b i k d : Nat) (w : World) (h : RdAt w b s i k t d) (hk : k ≠ 1) (hk9 : k ≠ 9) :
    Calls Tryz.prog 60 #[.pointer (some ⟨b, 0, none⟩)] w fun e w' => e = .returned (.tuple #[.int .i64 (-1), .int .i64 0]) ∧ w' = w := by
  have hk1 : ((k : Int) == 1) = false := by simp; omega
  have hk2 : ((k : Int) == 9) = false := by simp; omega
  obtain ⟨c0, c1, c2, c3, c4, c5, f⟩ := h
  clear hk hk9
  go_enter Tryz.func60, Tryz.ntmps60
  go_wp2_with fail
  go_ret2
  exact ⟨rfl, rfl⟩

set_option maxRecDepth 100000 in
theorem step_any (s t t1 : ByteArray) (b i k d j k1 : Nat) (op : Bool) (w : World) (hN : NextC s i op j k1 t1) (h : RdAt w b s i k t d) (hT : Tabs w) (nb : b ≠ 0 ∧ b ≠ 1) :
    Calls Tryz.prog 34 #[.pointer (some ⟨b, 0, none⟩), .bool op] w fun e w' => e = .returned (.agg #[.int .i64 k, .string t]) ∧ RdAt w' b s j k1 t1 d ∧ But b w w' := by
  have hlt := h.lt
  obtain ⟨c0, c1, c2, c3, c4, c5, f⟩ := h
  have HN := Lib.hid hN
  have HT := Lib.hid hT
  clear hN hT
  go_enter Tryz.func34, Tryz.ntmps34
  go_wp2_with fail
  have hB0 := (((Below.refl w.heap.size w).alloc (Nat.le_refl _) (.cells #[.int .i64 0, .string ⟨#[]⟩] 52)).alloc (by simp) (.cells #[.int .i64 k, .string t] 52))
  obtain ⟨kb, fb⟩ := oblk hB0 hlt
  have HB0 := Lib.hid (But.of (b := b) hB0)
  refine (HN.out _ b ((kb 0).trans c0) ((kb 1).trans c1) (fun o => (fb o).trans (f o)) (tabs_but HT.out HB0.out nb.1 nb.2)).mono ?_
  rintro e w1 ⟨rfl, hb, h1, ho, hf⟩
  obtain ⟨kA, fA⟩ := hb.blk (c := w.heap.size) (by simp; omega) (by omega)
  obtain ⟨kB, fB⟩ := hb.blk (c := w.heap.size + 1) (by simp) (by omega)
  have d0 : w1.cell? ⟨b, 0, none⟩ = some (.string s) := (ho 0 (by decide)).trans ((kb 0).trans c0)
  have d4 : w1.cell? ⟨b, 4, none⟩ = some (.bool false) := (ho 4 (by decide)).trans ((kb 4).trans c4)
  have d5 : w1.cell? ⟨b, 5, none⟩ = some (.int .i64 d) := (ho 5 (by decide)).trans ((kb 5).trans c5)
  have d2 : ∃ v, w1.cell? ⟨b, 2, none⟩ = some v := ⟨_, (ho 2 (by decide)).trans ((kb 2).trans c2)⟩
  have d3 : ∃ v, w1.cell? ⟨b, 3, none⟩ = some v := ⟨_, (ho 3 (by decide)).trans ((kb 3).trans c3)⟩
  obtain ⟨v2, d2⟩ := d2
  obtain ⟨v3, d3⟩ := d3
  have g : ∀ o, w1.frozen? ⟨b, o, none⟩ = false := fun o => (hf o).trans ((fb o).trans (f o))
  have B2 := kB 0; have B3 := kB 1; have A0 := kA 0; have A1 := kA 1
  simp [go_sem] at B2 B3 A0 A1
  have hsz : w.heap.size + 2 ≤ w1.heap.size := by have := hb.size; simpa using this
  have HB := Lib.hid (HB0.out.trans hb)
  clear hb ho hf kB kA kb fb hB0
  go_wp2_with fail
  have hne : b ≠ w.heap.size := by omega
  refine bodyPost_ret (v := .agg #[.int .i64 k, .string t]) ?_ rfl ⟨rfl, ⟨?_, ?_, ?_, ?_, ?_, ?_, ?_⟩, ?_⟩
  · simp [results, Tryz.results34, go_sem, A0, A1]
  · simp [go_sem, d0]
  · simp [go_sem, h1]
  · simp [go_sem, d2]
  · simp [go_sem, d3]
  · simp [go_sem, d4]
  · simp [go_sem, d5]
  · intro o
    simp [go_sem, g]
  · exact (((HB.out.setCell (Or.inl rfl) _).setCell (Or.inl rfl) _).setCell (Or.inr (Nat.le_refl _)) _).setCell (Or.inr (Nat.le_refl _)) _

/-- A node without kids, as a value. -/
abbrev leafV (k : Nat) (t : ByteArray) (u : Nat) : Value := .agg #[.int .i64 k, .string t, .string ⟨#[]⟩, .int .u64 u, .slice none 0 0]

/-- A function of the reader that reads the one token as a literal. -/
def ReadC (F : Nat) (more : Array Value) (m : Nat) (s : ByteArray) (i k : Nat) (t : ByteArray) (nk : Nat) (nt : ByteArray) (nu : Nat) : Prop :=
  ∀ (w : World) (b d : Nat), RdAt w b s i k t d → Tabs w → (b ≠ 0 ∧ b ≠ 1) → d ≤ m →
    Calls Tryz.prog F (#[.pointer (some ⟨b, 0, none⟩)] ++ more) w fun e w' => e = .returned (leafV nk nt nu) ∧ RdAt w' b s s.size 0 ⟨#[]⟩ d ∧ But b w w'

abbrev bin : Nat := 38
abbrev una : Nat := 59
abbrev pri : Nat := 81
abbrev expn : Nat := 18

set_option maxRecDepth 100000 in
theorem bin_step (s t nt : ByteArray) (i k nk nu lv m : Nat) (hk : k ≠ 1) (hlv : lv ≤ 6) (hC : ReadC bin #[.int .i64 (lv + 1 : Nat)] m s i k t nk nt nu) : ReadC bin #[.int .i64 lv] m s i k t nk nt nu := by
  intro w b d h hT nb hd
  have hlt := h.lt
  have h6 : ¬ (6 : Int) < (lv : Int) := by omega
  have hneg : ((-1 : Int) == (lv : Int)) = false := by simp
  have HC := Lib.hid hC
  have HT := Lib.hid hT
  have H := Lib.hid h
  have HK := Lib.hid hk
  show Calls _ _ #[.pointer (some ⟨b, 0, none⟩), .int .i64 lv] w _
  clear hC hT h hlv hk
  go_enter Tryz.func38, Tryz.ntmps38
  by_cases h2 : lv = 2
  · subst h2
    go_wp2_with fail
    refine (word_no _ s t b i k d _ (H.out.below ((Below.refl w.heap.size w).alloc (Nat.le_refl _) _)) HK.out).mono ?_
    rintro e w0 ⟨rfl, rfl⟩
    go_wp2_with fail
    refine (word_no _ s t b i k d _ (H.out.below ((Below.refl w.heap.size w).alloc (Nat.le_refl _) _)) HK.out).mono ?_
    rintro e w0 ⟨rfl, rfl⟩
    go_wp2_with fail
    have hB0 := ((Below.refl w.heap.size w).alloc (Nat.le_refl _) (.cells #[.int .i64 0, .string ⟨#[]⟩, .string ⟨#[]⟩, .int .u64 0, .slice none 0 0] 26))
    have HB0 := Lib.hid (But.of (b := b) hB0)
    refine (HC.out _ b d (H.out.below hB0) (tabs_but HT.out HB0.out nb.1 nb.2) nb hd).mono ?_
    rintro e w1 ⟨rfl, hR, hb⟩
    obtain ⟨kA, fA⟩ := hb.blk (c := w.heap.size) (by simp) (by omega)
    have A0 := kA 0; have A1 := kA 1; have A2 := kA 2; have A3 := kA 3; have A4 := kA 4
    simp [go_sem] at A0 A1 A2 A3 A4 fA
    have hsz : w.heap.size + 1 ≤ w1.heap.size := by have := hb.size; simpa using this
    have HR := Lib.hid hR
    have HB := Lib.hid (HB0.out.trans hb)
    have q4 := hR.c4
    have hl1 := hR.lt
    clear hb hR kA hB0
    go_wp2_with fail
    go_loopg [] 1 (fun _ wr => wr = w1.alloc (.cells #[.int .i64 nk, .string nt, .string ⟨#[]⟩, .int .u64 nu, .slice none 0 0] 26))
    case atStart => rfl
    case round =>
      subst hrel
      have hB1 := (Below.refl w1.heap.size w1).alloc (Nat.le_refl _) (.cells #[.int .i64 nk, .string nt, .string ⟨#[]⟩, .int .u64 nu, .slice none 0 0] 26)
      have HB1 := Lib.hid hB1
      obtain ⟨kw, fw⟩ := oblk hB1 (b := w.heap.size) (by omega)
      clear hB1
      go_wp2_with fail
      refine (level_no s ⟨#[]⟩ b s.size 0 d _ (HR.out.below HB1.out) (by decide) (by decide)).mono ?_
      rintro e w0 ⟨rfl, rfl⟩
      go_wp2_with fail
      refine bodyPost_ret (v := leafV nk nt nu) ?_ rfl ⟨rfl, ?_, ?_⟩
      · simp [results, Tryz.results38, go_sem, kw, A0, A1, A2, A3, A4]
      · exact ((((((HR.out.below HB1.out).set (by simp; omega) _).set (by simp; omega) _).set (by simp; omega) _).set (by simp; omega) _).set (by simp; omega) _)
      · exact (((((HB.out.trans (.of HB1.out)).setCell (Or.inr (Nat.le_refl _)) _).setCell (Or.inr (Nat.le_refl _)) _).setCell (Or.inr (Nat.le_refl _)) _).setCell (Or.inr (Nat.le_refl _)) _).setCell (Or.inr (Nat.le_refl _)) _

  · have h2z : ((lv : Int) == 2) = false := by simp; omega
    go_wp2_with fail
    have hB0 := ((Below.refl w.heap.size w).alloc (Nat.le_refl _) (.cells #[.int .i64 0, .string ⟨#[]⟩, .string ⟨#[]⟩, .int .u64 0, .slice none 0 0] 26))
    have HB0 := Lib.hid (But.of (b := b) hB0)
    refine (HC.out _ b d (H.out.below hB0) (tabs_but HT.out HB0.out nb.1 nb.2) nb hd).mono ?_
    rintro e w1 ⟨rfl, hR, hb⟩
    obtain ⟨kA, fA⟩ := hb.blk (c := w.heap.size) (by simp) (by omega)
    have A0 := kA 0; have A1 := kA 1; have A2 := kA 2; have A3 := kA 3; have A4 := kA 4
    simp [go_sem] at A0 A1 A2 A3 A4 fA
    have hsz : w.heap.size + 1 ≤ w1.heap.size := by have := hb.size; simpa using this
    have HR := Lib.hid hR
    have HB := Lib.hid (HB0.out.trans hb)
    have q4 := hR.c4
    have hl1 := hR.lt
    clear hb hR kA hB0
    go_wp2_with fail
    go_loopg [] 1 (fun _ wr => wr = w1.alloc (.cells #[.int .i64 nk, .string nt, .string ⟨#[]⟩, .int .u64 nu, .slice none 0 0] 26))
    case atStart => rfl
    case round =>
      subst hrel
      have hB1 := (Below.refl w1.heap.size w1).alloc (Nat.le_refl _) (.cells #[.int .i64 nk, .string nt, .string ⟨#[]⟩, .int .u64 nu, .slice none 0 0] 26)
      have HB1 := Lib.hid hB1
      obtain ⟨kw, fw⟩ := oblk hB1 (b := w.heap.size) (by omega)
      clear hB1
      go_wp2_with fail
      refine (level_no s ⟨#[]⟩ b s.size 0 d _ (HR.out.below HB1.out) (by decide) (by decide)).mono ?_
      rintro e w0 ⟨rfl, rfl⟩
      go_wp2_with fail
      refine bodyPost_ret (v := leafV nk nt nu) ?_ rfl ⟨rfl, ?_, ?_⟩
      · simp [results, Tryz.results38, go_sem, kw, A0, A1, A2, A3, A4]
      · exact ((((((HR.out.below HB1.out).set (by simp; omega) _).set (by simp; omega) _).set (by simp; omega) _).set (by simp; omega) _).set (by simp; omega) _)
      · exact (((((HB.out.trans (.of HB1.out)).setCell (Or.inr (Nat.le_refl _)) _).setCell (Or.inr (Nat.le_refl _)) _).setCell (Or.inr (Nat.le_refl _)) _).setCell (Or.inr (Nat.le_refl _)) _).setCell (Or.inr (Nat.le_refl _)) _


set_option maxRecDepth 100000 in
theorem bin_top (s t nt : ByteArray) (i k nk nu m : Nat) (hC : ReadC una #[] m s i k t nk nt nu) : ReadC bin #[.int .i64 (7 : Nat)] m s i k t nk nt nu := by
  intro w b d h hT nb hd
  have hlt := h.lt
  have HC := Lib.hid hC
  have HT := Lib.hid hT
  have H := Lib.hid h
  show Calls _ _ #[.pointer (some ⟨b, 0, none⟩), .int .i64 7] w _
  clear hC hT h
  go_enter Tryz.func38, Tryz.ntmps38
  go_wp2_with fail
  have hB0 := ((Below.refl w.heap.size w).alloc (Nat.le_refl _) (.cells #[.int .i64 0, .string ⟨#[]⟩, .string ⟨#[]⟩, .int .u64 0, .slice none 0 0] 26))
  have HB0 := Lib.hid (But.of (b := b) hB0)
  refine (HC.out _ b d (H.out.below hB0) (tabs_but HT.out HB0.out nb.1 nb.2) nb hd).mono ?_
  rintro e w1 ⟨rfl, hR, hb⟩
  obtain ⟨kA, fA⟩ := hb.blk (c := w.heap.size) (by simp) (by omega)
  have A0 := kA 0; have A1 := kA 1; have A2 := kA 2; have A3 := kA 3; have A4 := kA 4
  simp [go_sem] at A0 A1 A2 A3 A4 fA
  have HR := Lib.hid hR
  have HB := Lib.hid (HB0.out.trans hb)
  clear hb hR kA hB0
  go_wp2_with fail
  refine bodyPost_ret (v := leafV nk nt nu) ?_ rfl ⟨rfl, ?_, ?_⟩
  · simp [results, Tryz.results38, go_sem, A0, A1, A2, A3, A4]
  · exact (((((HR.out.set (by simp; omega) _).set (by simp; omega) _).set (by simp; omega) _).set (by simp; omega) _).set (by simp; omega) _)
  · exact ((((HB.out.setCell (Or.inr (Nat.le_refl _)) _).setCell (Or.inr (Nat.le_refl _)) _).setCell (Or.inr (Nat.le_refl _)) _).setCell (Or.inr (Nat.le_refl _)) _).setCell (Or.inr (Nat.le_refl _)) _

/-- Behind a reader's function the depth is as it was. -/
theorem un_less (c b d : Nat) (w : World) (hc : w.cell? ⟨c, 0, none⟩ = some (.pointer (some ⟨b, 0, none⟩))) (h5 : w.cell? ⟨b, 5, none⟩ = some (.int .i64 (d + 1 : Nat))) (f : ∀ o, w.frozen? ⟨b, o, none⟩ = false) (hd : d ≤ 1000) :
    CallsD Tryz.prog 79 #[.pointer (some ⟨c, 0, none⟩)] .returning w fun e u' w' => u' = .returning ∧ (e = .returned (.tuple #[]) ∧ w' = w.setCell ⟨b, 5, none⟩ (.int .i64 d)) := by
  refine callsD_of_wp Tryz.func79 rfl ?_
  rw [Tryz.ntmps79]
  simp only [Array.replicate]
  go_wp2_with fail
  go_end0
  exact ⟨rfl, rfl⟩
end Go.Proofs.YteecbmhkfnlecaaGreatDoor
