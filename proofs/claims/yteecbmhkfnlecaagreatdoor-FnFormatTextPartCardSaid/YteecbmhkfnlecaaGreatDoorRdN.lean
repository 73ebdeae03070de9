/-
  The lexer of Flux at a moment's text, from its begin on: the one token. No conditions.
-/
import Derived.Test.YteecbmhkfnlecaaGreatDoorRdT
import Derived.Lib.Hide
import Derived.BigQuiet
import Derived.Deep.CutRange
import Derived.Deep.RegionWith
namespace Go.Proofs.YteecbmhkfnlecaaGreatDoor
open Go.RowKit
set_option linter.unusedVariables false
set_option linter.unusedSimpArgs false

/-- A moment's text from its begin on. -/
structure TimeAll (s : ByteArray) (q : Nat) : Prop where
  t : TimeTxt s q
  d0 : ∃ x, s.data.toList[0]? = some x ∧ 48 ≤ x.toNat ∧ x.toNat ≤ 57
  dg : ∀ j, j < 4 → dgB s j = true
  b4 : s.data.toList[4]? = some 45
  d5 : dgB s 5 = true
  d6 : dgB s 6 = true
  b7 : s.data.toList[7]? = some 45

set_option maxRecDepth 100000 in
set_option maxHeartbeats 1000000 in
theorem number_time (s : ByteArray) (q b : Nat) (w : World) (hx : TimeAll s q) (hc : w.cell? ⟨b, 0, none⟩ = some (.string s)) (h1 : w.cell? ⟨b, 1, none⟩ = some (.int .i64 0)) (f : ∀ o, w.frozen? ⟨b, o, none⟩ = false) :
    Calls Tryz.prog 75 #[.pointer (some ⟨b, 0, none⟩)] w fun e w' => e = .returned (.agg #[.int .i64 7, .string s]) ∧ NextW b s.size w w' := by
  have hlt := block_lt_of_cell hc
  have hsz := hx.t.sz
  have hq : 19 ≤ q ∧ q < s.size := by
    have := hx.t.q19
    rcases hx.t.zone with ⟨_, h⟩ | ⟨_, h⟩ <;> omega
  obtain ⟨h4, e4⟩ := byteIs hx.b4
  obtain ⟨h7, e7⟩ := byteIs hx.b7
  replace e4 : (s[4]'h4).toNat = 45 := e4
  replace e7 : (s[7]'h7).toNat = 45 := e7
  have hz4 : (4 : Int) < (s.size : Int) := by omega
  have hz7 : (7 : Int) < (s.size : Int) := by omega
  have hd4 : dgB s (0 + 4) = false := by
    rw [show 0 + 4 = 4 from rfl, dgB_of hx.b4]; decide
  have HX := Lib.hid hx
  have HB0 := Lib.hid ((Below.refl w.heap.size w).alloc (Nat.le_refl _) (.cells #[.int .i64 0, .string ⟨#[]⟩] 52))
  have H0 : Hid (TokSt w (w.alloc (.cells #[.int .i64 0, .string ⟨#[]⟩] 52)) b 0 s) := by
    obtain ⟨kb, fb⟩ := oblk HB0.out hlt
    exact Lib.hid ⟨(kb 0).trans hc, (kb 1).trans h1, fun o => (fb o).trans (f o), by simp [go_sem], by simp [go_sem], by intro o; simp [go_sem], ⟨.of HB0.out, (kb 1).trans h1, fun o _ => kb o, fun o => fb o⟩, hlt, by simp⟩
  clear hx h1 hc f
  go_enter Tryz.func75, Tryz.ntmps75
  go_upto_region 0 with fail
  go_cut [2] from 6 to 6 (fun v wx => v = .pointer (some ⟨w.heap.size, 0, none⟩) ∧ TokSt w wx b 0 s)
  case first =>
    go_wp2_with fail
    go_meet
    case rel => exact ⟨rfl, H0.out⟩
  case rest =>
  obtain ⟨rfl, hcut⟩ := hcut
  clear H0
  have H0 := Lib.hid hcut
  obtain ⟨c0, c1, f, -, -, -, -, -, -⟩ := hcut
  have HD := Lib.hid (digits_any s b 0 4 _ (by omega) c0 c1 f (fun j hj => by rw [Nat.zero_add]; exact HX.out.dg j hj) hd4 (by omega))
  clear hd4
  replace c1 : wc.cell? ⟨b, 1, none⟩ = some (.int .i64 0) := c1
  go_wp2_with fail
  refine HD.out.mono ?_
  rintro e w1 ⟨rfl, hN⟩
  have H1 := Lib.hid (H0.out.next hN)
  clear hN c0 c1 f
  obtain ⟨c0, c1, f, r0, r1, fr, -, -, -⟩ := H1.out
  replace c1 : w1.cell? ⟨b, 1, none⟩ = some (.int .i64 4) := c1
  have D5 : Hid (∀ n, Calls Tryz.prog 69 #[.pointer (some ⟨b, 0, none⟩), .int .i64 5] (w1.drewN n) fun e w' => e = .returned (.bool true) ∧ w' = w1.drewN n) := Lib.hid fun n => by
    have h := dg_any s b 0 5 (w1.drewN n) (by omega) (by simp [c0]) (by omega)
    rw [HX.out.d5] at h
    exact h
  have D6 : Hid (∀ n, Calls Tryz.prog 69 #[.pointer (some ⟨b, 0, none⟩), .int .i64 6] (w1.drewN n) fun e w' => e = .returned (.bool true) ∧ w' = w1.drewN n) := Lib.hid fun n => by
    have h := dg_any s b 0 6 (w1.drewN n) (by omega) (by simp [c0]) (by omega)
    rw [HX.out.d6] at h
    exact h
  go_wp2_with fail
  simp only [List.append_eq, List.cons_append, List.nil_append]
  go_quiet (first | (go_at_call_of 69 (Value.int .i64 5); exact Calls.quiet_of_same (D5.out _)) | (go_at_call_of 69 (Value.int .i64 6); exact Calls.quiet_of_same (D6.out _)))
  go_wp2_with fail
  have H2 := Lib.hid (H1.out.drewN nq)
  obtain ⟨a0, a1, af, ar0, ar1, afr, -, -, asz⟩ := H2.out
  refine (time_any s q b _ _ HX.out.t a0 a1 af).mono ?_
  rintro e w2 ⟨rfl, hN⟩
  have H3 := Lib.hid (H2.out.next hN)
  obtain ⟨-, -, -, b0, b1, bf, -, -, -⟩ := H3.out
  clear hN a0 a1 af ar0 ar1 afr asz c0 c1 f r0 r1 fr
  go_wp2_with fail
  refine bodyPost_ret (v := .agg #[.int .i64 7, .string s]) ?_ rfl ⟨rfl, H3.out.res _ _⟩
  simp [results, Tryz.results75, go_sem, b0, b1]

set_option maxRecDepth 100000 in
/-- The lexer's first token of a moment's text. -/
theorem next_time (s : ByteArray) (q : Nat) (hx : TimeAll s q) : NextC s 0 true s.size 7 s := by
  intro w b hc h1 f hT
  have hlt := block_lt_of_cell hc
  have hsz := hx.t.sz
  have hq : 0 < s.size := by
    have := hx.t.q19
    rcases hx.t.zone with ⟨_, h⟩ | ⟨_, h⟩ <;> omega
  obtain ⟨x, hx0, hx1, hx2⟩ := hx.d0
  have hd0 := hx.dg 0 (by omega)
  have HX := Lib.hid hx
  have HB0 := Lib.hid ((Below.refl w.heap.size w).alloc (Nat.le_refl _) (.cells #[.int .i64 0, .string ⟨#[]⟩] 52))
  have H0 : Hid (TokSt w (w.alloc (.cells #[.int .i64 0, .string ⟨#[]⟩] 52)) b 0 s) := by
    obtain ⟨kb, fb⟩ := oblk HB0.out hlt
    exact Lib.hid ⟨(kb 0).trans hc, (kb 1).trans h1, fun o => (fb o).trans (f o), by simp [go_sem], by simp [go_sem], by intro o; simp [go_sem], ⟨.of HB0.out, (kb 1).trans h1, fun o _ => kb o, fun o => fb o⟩, hlt, by simp⟩
  clear hx hT h1 hc f
  go_enter Tryz.func57, Tryz.ntmps57
  go_upto_region 0 with fail
  go_cut [4] from 9 to 9 (fun v wx => v = .pointer (some ⟨w.heap.size, 0, none⟩) ∧ TokSt w wx b 0 s)
  case first =>
    go_wp2_with fail
    go_meet
    case rel => exact ⟨rfl, H0.out⟩
  case rest =>
  obtain ⟨rfl, hcut⟩ := hcut
  clear H0
  have H0 := Lib.hid hcut
  obtain ⟨c0, c1, f, -, -, -, -, -, sz⟩ := hcut
  go_wp2_with fail
  refine (blank_no s b 0 x _ (by omega) c0 c1 hx0 (by unfold noB; omega)).mono ?_
  rintro e w1 ⟨rfl, hb⟩
  have H1 : Hid (TokSt w w1 b 0 s) := by
    have hn : NextW b 0 wc w1 := by
      obtain ⟨kb, fb⟩ := oblk hb (b := b) (by omega)
      exact ⟨.of hb, (kb 1).trans c1, fun o _ => kb o, fun o => fb o⟩
    exact Lib.hid (H0.out.next hn)
  clear hb c0 c1 f sz
  obtain ⟨c0, c1, f, -, -, -, -, -, sz⟩ := H1.out
  replace c1 : w1.cell? ⟨b, 1, none⟩ = some (.int .i64 0) := c1
  have hz0 : (0 : Int) < (s.size : Int) := by omega
  have hne : ¬ s = ByteArray.empty := by intro e; rw [e] at hq; exact absurd hq (by decide)
  go_wp2_with fail
  go_quiet (fail)
  go_wp2_with fail
  have H2 := Lib.hid (H1.out.drewN nq)
  clear c0 c1 f sz
  generalize w1.drewN nq = w2 at *
  obtain ⟨c0, c1, f, r0, r1, fr, -, -, sz⟩ := H2.out
  replace c1 : w2.cell? ⟨b, 1, none⟩ = some (.int .i64 0) := c1
  have D0 : Hid (∀ n, Calls Tryz.prog 69 #[.pointer (some ⟨b, 0, none⟩), .int .i64 0] (w2.drewN n) fun e w' => e = .returned (.bool true) ∧ w' = w2.drewN n) := Lib.hid fun n => by
    have h := dg_any s b 0 0 (w2.drewN n) (by omega) (by simp [c0]) (by omega)
    rw [hd0] at h
    exact h
  refine (letter_no s b 0 x _ (by omega) c0 hx0 (by unfold noL; omega)).mono ?_
  rintro e w3 ⟨rfl, rfl⟩
  go_wp2_with fail
  go_quiet (first | (go_at_call 69; exact Calls.quiet_of_same (D0.out _)))
  clear hd0 D0
  have H3 := Lib.hid (H2.out.drewN nq)
  clear c0 c1 f r0 r1 fr sz
  generalize w3.drewN nq = w4 at *
  obtain ⟨c0, c1, f, r0, r1, fr, -, -, sz⟩ := H3.out
  go_wp2_with fail
  refine (number_time s q b _ HX.out c0 c1 f).mono ?_
  rintro e w5 ⟨rfl, hN⟩
  have H4 := Lib.hid (H3.out.next hN)
  clear hN c0 c1 f r0 r1 fr sz
  obtain ⟨-, -, -, r0, r1, fr, -, -, sz⟩ := H4.out
  go_wp2_with fail
  refine bodyPost_ret (v := .agg #[.int .i64 7, .string s]) ?_ rfl ⟨rfl, H4.out.res _ _⟩
  simp [results, Tryz.results57, go_sem, r0, r1]

set_option maxRecDepth 100000 in
/-- At the text's end there is no token. -/
theorem next_end (s : ByteArray) (op : Bool) (hs : s.size ≤ 2000000000) : NextC s s.size op s.size 0 ⟨#[]⟩ := by
  intro w b hc h1 f hT
  have hlt := block_lt_of_cell hc
  have HB0 := Lib.hid ((Below.refl w.heap.size w).alloc (Nat.le_refl _) (.cells #[.int .i64 0, .string ⟨#[]⟩] 52))
  have H0 : Hid (TokSt w (w.alloc (.cells #[.int .i64 0, .string ⟨#[]⟩] 52)) b s.size s) := by
    obtain ⟨kb, fb⟩ := oblk HB0.out hlt
    exact Lib.hid ⟨(kb 0).trans hc, (kb 1).trans h1, fun o => (fb o).trans (f o), by simp [go_sem], by simp [go_sem], by intro o; simp [go_sem], ⟨.of HB0.out, (kb 1).trans h1, fun o _ => kb o, fun o => fb o⟩, hlt, by simp⟩
  clear hT h1 hc f
  go_enter Tryz.func57, Tryz.ntmps57
  go_upto_region 0 with fail
  go_cut [4] from 9 to 9 (fun v wx => v = .pointer (some ⟨w.heap.size, 0, none⟩) ∧ TokSt w wx b s.size s)
  case first =>
    go_wp2_with fail
    go_meet
    case rel => exact ⟨rfl, H0.out⟩
  case rest =>
  obtain ⟨rfl, hcut⟩ := hcut
  clear H0
  have H0 := Lib.hid hcut
  obtain ⟨c0, c1, f, -, -, -, -, -, sz⟩ := hcut
  go_wp2_with fail
  refine (blank_end s b s.size _ hs c0 c1 (Nat.le_refl _)).mono ?_
  rintro e w1 ⟨rfl, hb⟩
  have H1 : Hid (TokSt w w1 b s.size s) := by
    have hn : NextW b s.size wc w1 := by
      obtain ⟨kb, fb⟩ := oblk hb (b := b) (by omega)
      exact ⟨.of hb, (kb 1).trans c1, fun o _ => kb o, fun o => fb o⟩
    exact Lib.hid (H0.out.next hn)
  clear hb c0 c1 f sz
  obtain ⟨c0, c1, f, -, -, -, -, -, sz⟩ := H1.out
  have hz0 : (s.size : Int) ≤ (s.size : Int) := Int.le_refl _
  go_wp2_with fail
  go_quiet (fail)
  have H2 := Lib.hid (H1.out.drewN nq)
  clear c0 c1 f sz
  generalize w1.drewN nq = w2 at *
  obtain ⟨c0, c1, f, r0, r1, fr, -, -, sz⟩ := H2.out
  go_wp2_with fail
  refine bodyPost_ret (v := .agg #[.int .i64 0, .string ⟨#[]⟩]) ?_ rfl ⟨rfl, H2.out.res _ _⟩
  simp [results, Tryz.results57, go_sem, r0, r1]
end Go.Proofs.YteecbmhkfnlecaaGreatDoor
