/-
  The lexer of Flux at a string's text, from its begin on: the one token. Conditions: plain text.
-/
import Derived.Test.YteecbmhkfnlecaaGreatDoorTt
import Derived.Test.YteecbmhkfnlecaaGreatDoorRdN
import Derived.Lib.Hide
import Derived.BigQuiet
import Derived.Deep.CutRange
import Derived.Deep.RegionWith
namespace Go.Proofs.YteecbmhkfnlecaaGreatDoor
open Go.RowKit Go.Lib
set_option linter.unusedVariables false
set_option linter.unusedSimpArgs false

set_option maxRecDepth 100000 in
/-- The lexer's first token of a string's text. -/
theorem next_text (s : ByteArray) (l : List UInt8) (hS : s.data.toList = 34 :: (escB l ++ [34])) (hl : l.length ≤ 100000) (hp : PT l) : NextC s 0 true s.size 4 ⟨l.toArray⟩ := by
  intro w b hc h1 f hT
  have hlt := block_lt_of_cell hc
  have hel := escB_len l
  have hsz : s.size ≤ 200002 := by rw [bsize, hS]; simp; omega
  have hq : 0 < s.size := by rw [bsize, hS]; simp
  have hx0 : s.data.toList[0]? = some 34 := by rw [hS]; rfl
  obtain ⟨g0, e0⟩ := byteIs hx0
  replace e0 : (s[0]'g0).toNat = 34 := e0
  have hd0 : dgB s 0 = false := by rw [dgB_of hx0]; decide
  have HS := Lib.hid hS
  have HP := Lib.hid hp
  have HB0 := Lib.hid ((Below.refl w.heap.size w).alloc (Nat.le_refl _) (.cells #[.int .i64 0, .string ⟨#[]⟩] 52))
  have H0 : Hid (TokSt w (w.alloc (.cells #[.int .i64 0, .string ⟨#[]⟩] 52)) b 0 s) := by
    obtain ⟨kb, fb⟩ := oblk HB0.out hlt
    exact Lib.hid ⟨(kb 0).trans hc, (kb 1).trans h1, fun o => (fb o).trans (f o), by simp [go_sem], by simp [go_sem], by intro o; simp [go_sem], ⟨.of HB0.out, (kb 1).trans h1, fun o _ => kb o, fun o => fb o⟩, hlt, by simp⟩
  clear hS hp hT h1 hc f
  go_enter Tryz.func57, Tryz.ntmps57
  go_upto_region 0 with fail
  go_cut [4] from 9 to 9 (fun v wx => v = .pointer (some ⟨w.heap.size, 0, none⟩) ∧ TokSt w wx b 0 s)
  case first =>
    go_wp2_with fail
    go_meet
    case rel => exact ⟨rfl, H0.out⟩
  case rest =>
  obtain ⟨rfl, hcut⟩ := hcut
  clear H0
  have H0 := Lib.hid hcut
  obtain ⟨c0, c1, f, -, -, -, -, -, sz⟩ := hcut
  go_wp2_with fail
  refine (blank_no s b 0 34 _ (by omega) c0 c1 hx0 (by unfold noB; decide)).mono ?_
  rintro e w1 ⟨rfl, hb⟩
  have H1 : Hid (TokSt w w1 b 0 s) := by
    have hn : NextW b 0 wc w1 := by
      obtain ⟨kb, fb⟩ := oblk hb (b := b) (by omega)
      exact ⟨.of hb, (kb 1).trans c1, fun o _ => kb o, fun o => fb o⟩
    exact Lib.hid (H0.out.next hn)
  clear hb c0 c1 f sz
  obtain ⟨c0, c1, f, -, -, -, -, -, sz⟩ := H1.out
  replace c1 : w1.cell? ⟨b, 1, none⟩ = some (.int .i64 0) := c1
  have hz0 : (0 : Int) < (s.size : Int) := by omega
  have hne : ¬ s = ByteArray.empty := by intro e; rw [e] at hq; exact absurd hq (by decide)
  go_wp2_with fail
  go_quiet (fail)
  go_wp2_with fail
  have H2 := Lib.hid (H1.out.drewN nq)
  clear c0 c1 f sz
  generalize w1.drewN nq = w2 at *
  obtain ⟨c0, c1, f, r0, r1, fr, -, -, sz⟩ := H2.out
  replace c1 : w2.cell? ⟨b, 1, none⟩ = some (.int .i64 0) := c1
  have D0 : Hid (∀ n, Calls Tryz.prog 69 #[.pointer (some ⟨b, 0, none⟩), .int .i64 0] (w2.drewN n) fun e w' => e = .returned (.bool false) ∧ w' = w2.drewN n) := Lib.hid fun n => by
    have h := dg_any s b 0 0 (w2.drewN n) (by omega) (by simp [c0]) (by omega)
    rw [hd0] at h
    exact h
  refine (letter_no s b 0 34 _ (by omega) c0 hx0 (by unfold noL; decide)).mono ?_
  rintro e w3 ⟨rfl, rfl⟩
  go_wp2_with fail
  go_quiet (first | (go_at_call 69; exact Calls.quiet_of_same (D0.out _)))
  clear hd0 D0
  have H3 := Lib.hid (H2.out.drewN nq)
  clear c0 c1 f r0 r1 fr sz
  generalize w3.drewN nq = w4 at *
  obtain ⟨c0, c1, f, r0, r1, fr, -, -, sz⟩ := H3.out
  replace c1 : w4.cell? ⟨b, 1, none⟩ = some (.int .i64 0) := c1
  go_wp2_with fail
  go_quiet (fail)
  have H4 := Lib.hid (H3.out.drewN nq)
  clear c0 c1 f r0 r1 fr sz
  generalize w4.drewN nq = w5 at *
  have H5 := Lib.hid (H4.out.set 1)
  have HX := Lib.hid (text_any s l b _ HS.out hl HP.out H5.out.c0 H5.out.c1 H5.out.f)
  obtain ⟨c0, c1, f, r0, r1, fr, -, -, sz⟩ := H4.out
  replace c1 : w5.cell? ⟨b, 1, none⟩ = some (.int .i64 0) := c1
  go_wp2_with fail
  refine HX.out.mono ?_
  rintro e w6 ⟨rfl, hN⟩
  have H6 := Lib.hid (H5.out.next hN)
  clear hN c0 c1 f r0 r1 fr sz HX
  obtain ⟨-, -, -, r0, r1, fr, -, -, sz⟩ := H6.out
  go_wp2_with fail
  refine bodyPost_ret (v := .agg #[.int .i64 4, .string ⟨l.toArray⟩]) ?_ rfl ⟨rfl, H6.out.res _ _⟩
  simp [results, Tryz.results57, go_sem, r0, r1]
end Go.Proofs.YteecbmhkfnlecaaGreatDoor
