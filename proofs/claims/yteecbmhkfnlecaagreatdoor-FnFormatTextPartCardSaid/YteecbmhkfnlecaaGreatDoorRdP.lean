/-
  The reader of Flux: a moment or a text as a literal. No conditions.
-/
import Derived.Test.YteecbmhkfnlecaaGreatDoorRdN
import Derived.Lib.Hide
import Derived.IntWalk
namespace Go.Proofs.YteecbmhkfnlecaaGreatDoor
open Go.RowKit
set_option linter.unusedVariables false
set_option linter.unusedSimpArgs false

theorem tok_text (k : Int) (s : ByteArray) : ∀ w : World, (Instr.field 52 (.agg #[.int .i64 k, .string s]) 1).run Tryz.prog w = .ok (.string s) w := fun _ => by kernel_rfl

set_option maxRecDepth 100000 in
theorem node_any (k : Nat) (t : ByteArray) (w : World) : Calls Tryz.prog 39 #[.int .i64 k, .string t, .slice none 0 0] w fun e w' => e = .returned (leafV k t 0) ∧ Below w.heap.size w w' := by
  go_enter Tryz.func39, Tryz.ntmps39
  go_wp2_with fail
  refine bodyPost_ret (v := leafV k t 0) ?_ rfl ⟨rfl, ?_⟩
  · simp [results, Tryz.results39, go_sem]
  · first | exact (Below.refl _ _).alloc (Nat.le_refl _) _ | (repeat (refine Below.setCell ?_ (by simp) _)); exact (Below.refl _ _).alloc (Nat.le_refl _) _

set_option maxRecDepth 100000 in
theorem pri_time (s : ByteArray) (v : Int) (u : Nat) (hs : s.size ≤ 2000000000) (hu : IntKind.u64.wrap v = (u : Int)) (hT : ∀ W, Calls Tryz.prog 100 #[.string s] W fun e w' => e = .returned (.tuple #[.int .i64 v, .bool true]) ∧ Below W.heap.size W w') :
    ReadC pri #[] 2 s s.size 7 s 41 ⟨#[]⟩ u := by
  intro w b d h hT2 nb hd
  have hfd := tok_text 7 s
  have hlt := h.lt
  have hN := next_end s false hs
  have HT := Lib.hid hT2
  have H := Lib.hid h
  have HTV := Lib.hid hT
  have HN := Lib.hid hN
  have hB0 := (Below.refl w.heap.size w).alloc (Nat.le_refl _) (.cells #[.int .i64 0, .string ⟨#[]⟩, .string ⟨#[]⟩, .int .u64 0, .slice none 0 0] 26)
  have HB0 := Lib.hid hB0
  have h2 := (oblk hB0 hlt).1 2
  have c2 := h2.trans h.c2
  replace c2 : (w.alloc (.cells #[.int .i64 0, .string ⟨#[]⟩, .string ⟨#[]⟩, .int .u64 0, .slice none 0 0] 26)).cell? ⟨b, 2, none⟩ = some (.int .i64 7) := c2
  show Calls _ _ #[.pointer (some ⟨b, 0, none⟩)] w _
  clear hT hT2 h hN hB0 h2
  go_enter Tryz.func81, Tryz.ntmps81
  go_wp2_with fail
  refine (step_any s s ⟨#[]⟩ b s.size 7 d s.size 0 false _ HN.out (H.out.below HB0.out) (tabs_keep HT.out HB0.out) nb).mono ?_
  rintro e w1 ⟨rfl, hR, hb⟩
  have HB1 := Lib.hid ((But.of (b := b) HB0.out).trans hb)
  obtain ⟨kA, fA⟩ := hb.blk (c := w.heap.size) (by simp) (by omega)
  have A0 := kA 0; have A1 := kA 1; have A2 := kA 2; have A3 := kA 3; have A4 := kA 4
  simp [go_sem] at A0 A1 A2 A3 A4 fA
  have hsz : w.heap.size + 1 ≤ w1.heap.size := by have := hb.size; simpa using this
  have HR := Lib.hid hR
  have hl1 := hR.lt
  clear hR hb kA c2
  go_wp2_with fail
  refine (HTV.out w1).mono ?_
  rintro e w2 ⟨rfl, hb2⟩
  obtain ⟨kB, fB⟩ := oblk hb2 (b := w.heap.size) (by omega)
  have B0 := (kB 0).trans A0; have B1 := (kB 1).trans A1; have B2 := (kB 2).trans A2; have B3 := (kB 3).trans A3; have B4 := (kB 4).trans A4
  have fC : ∀ o, w2.frozen? ⟨w.heap.size, o, none⟩ = false := fun o => (fB o).trans (fA o)
  have HB2 := Lib.hid (HB1.out.trans (.of hb2))
  have HR2 := Lib.hid (HR.out.below hb2)
  clear hb2 kB fB A0 A1 A2 A3 A4 fA
  go_wp2_with fail
  refine bodyPost_ret (v := leafV 41 ⟨#[]⟩ u) ?_ rfl ⟨rfl, ?_, ?_⟩
  · simp [results, Tryz.results81, go_sem, B0, B1, B2, B3, B4]
  · exact (((((HR2.out.set (by simp; omega) _).set (by simp; omega) _).set (by simp; omega) _).set (by simp; omega) _).set (by simp; omega) _)
  · exact ((((HB2.out.setCell (Or.inr (Nat.le_refl _)) _).setCell (Or.inr (Nat.le_refl _)) _).setCell (Or.inr (Nat.le_refl _)) _).setCell (Or.inr (Nat.le_refl _)) _).setCell (Or.inr (Nat.le_refl _)) _

set_option maxRecDepth 100000 in
theorem pri_text (s t : ByteArray) (hs : s.size ≤ 2000000000) :
    ReadC pri #[] 2 s s.size 4 t 34 t 0 := by
  intro w b d h hT2 nb hd
  have hfd := tok_text 4 t
  have hlt := h.lt
  have hN := next_end s false hs
  have HT := Lib.hid hT2
  have H := Lib.hid h
  have HTV := Lib.hid (node_any 34 t)
  have HN := Lib.hid hN
  have hB0 := (Below.refl w.heap.size w).alloc (Nat.le_refl _) (.cells #[.int .i64 0, .string ⟨#[]⟩, .string ⟨#[]⟩, .int .u64 0, .slice none 0 0] 26)
  have HB0 := Lib.hid hB0
  have h2 := (oblk hB0 hlt).1 2
  have c2 := h2.trans h.c2
  replace c2 : (w.alloc (.cells #[.int .i64 0, .string ⟨#[]⟩, .string ⟨#[]⟩, .int .u64 0, .slice none 0 0] 26)).cell? ⟨b, 2, none⟩ = some (.int .i64 4) := c2
  show Calls _ _ #[.pointer (some ⟨b, 0, none⟩)] w _
  clear hT2 h hN hB0 h2
  go_enter Tryz.func81, Tryz.ntmps81
  go_wp2_with fail
  refine (step_any s t ⟨#[]⟩ b s.size 4 d s.size 0 false _ HN.out (H.out.below HB0.out) (tabs_keep HT.out HB0.out) nb).mono ?_
  rintro e w1 ⟨rfl, hR, hb⟩
  have HB1 := Lib.hid ((But.of (b := b) HB0.out).trans hb)
  obtain ⟨kA, fA⟩ := hb.blk (c := w.heap.size) (by simp) (by omega)
  have A0 := kA 0; have A1 := kA 1; have A2 := kA 2; have A3 := kA 3; have A4 := kA 4
  simp [go_sem] at A0 A1 A2 A3 A4 fA
  have hsz : w.heap.size + 1 ≤ w1.heap.size := by have := hb.size; simpa using this
  have HR := Lib.hid hR
  have hl1 := hR.lt
  clear hR hb kA c2
  go_wp2_with fail
  refine (HTV.out w1).mono ?_
  rintro e w2 ⟨rfl, hb2⟩
  obtain ⟨kB, fB⟩ := oblk hb2 (b := w.heap.size) (by omega)
  have B0 := (kB 0).trans A0; have B1 := (kB 1).trans A1; have B2 := (kB 2).trans A2; have B3 := (kB 3).trans A3; have B4 := (kB 4).trans A4
  have fC : ∀ o, w2.frozen? ⟨w.heap.size, o, none⟩ = false := fun o => (fB o).trans (fA o)
  have HB2 := Lib.hid (HB1.out.trans (.of hb2))
  have HR2 := Lib.hid (HR.out.below hb2)
  clear hb2 kB fB A0 A1 A2 A3 A4 fA
  go_wp2_with fail
  refine bodyPost_ret (v := leafV 34 t 0) ?_ rfl ⟨rfl, ?_, ?_⟩
  · simp [results, Tryz.results81, go_sem, B0, B1, B2, B3, B4]
  · exact (((((HR2.out.set (by simp; omega) _).set (by simp; omega) _).set (by simp; omega) _).set (by simp; omega) _).set (by simp; omega) _)
  · exact ((((HB2.out.setCell (Or.inr (Nat.le_refl _)) _).setCell (Or.inr (Nat.le_refl _)) _).setCell (Or.inr (Nat.le_refl _)) _).setCell (Or.inr (Nat.le_refl _)) _).setCell (Or.inr (Nat.le_refl _)) _
end Go.Proofs.YteecbmhkfnlecaaGreatDoor
