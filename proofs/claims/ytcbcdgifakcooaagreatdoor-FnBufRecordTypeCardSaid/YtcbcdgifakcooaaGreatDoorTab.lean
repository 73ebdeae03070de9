/-
  A flatbuffer's tables: the methods of package flatbuffers' Table. They only read. No conditions.
-/
import Derived.Test.YtcbcdgifakcooaaGreatDoorBrd
import Derived.Deep.QuietTactic
import Derived.Deep.RegionWith
import Derived.Deep.CutRange
namespace Go.Proofs.YtcbcdgifakcooaaGreatDoor
open Go.RowKit
set_option linter.unusedVariables false
set_option linter.unusedSimpArgs false

/-- A Table at a place: the buffer's bytes and its own place in them. -/
structure TabIn (w : World) (tb t0 rb cap : Nat) (B : By) (p : Nat) : Prop where
  hs : w.cell? ⟨tb, t0, none⟩ = some (.slice (some ⟨rb, 0, none⟩) (B.length : Nat) cap)
  hp : w.cell? ⟨tb, t0 + 1, none⟩ = some (.int .u32 (p : Nat))
  hi : BufIn w rb B
  hc : B.length ≤ cap
  hl : B.length < 2147483648
  hq : p < B.length

theorem TabIn.drew {w : World} {tb t0 rb cap : Nat} {B : By} {p : Nat} (h : TabIn w tb t0 rb cap B p) (n : Nat) : TabIn (w.drewN n) tb t0 rb cap B p := ⟨h.hs, h.hp, h.hi, h.hc, h.hl, h.hq⟩

theorem leNat_lt : ∀ (bs : By), Lib.leNat bs < 256 ^ bs.length
  | [] => by simp [Lib.leNat]
  | x :: bs => by
    have h := leNat_lt bs
    have hx := x.toNat_lt
    simp only [Lib.leNat, List.length_cons, Nat.pow_succ]
    omega

theorem leAt_lt (B : By) (p k : Nat) : leAt B p k < 256 ^ k := by
  unfold leAt
  have h1 := leNat_lt ((B.drop p).take k)
  have h2 : ((B.drop p).take k).length ≤ k := by simp; omega
  exact Nat.lt_of_lt_of_le h1 (Nat.pow_le_pow_right (by decide) h2)

set_option maxRecDepth 100000 in
theorem uoff_any (rb p len cap : Nat) (B : By) (w : World) (hB : BufIn w rb B) (hp : p + 4 ≤ B.length) (hl : 4 ≤ len) :
    Calls Tryz.prog 57 #[.slice (some ⟨rb, p, none⟩) len cap] w fun e w' => e = .returned (.int .u32 (leAt B p 4 : Nat)) ∧ w' = w := by
  go_enter Tryz.func57, Tryz.ntmps57
  go_wp2_with (go_at_call 109; refine (i32_any rb p len cap B w hB hp hl).mono ?_; rintro e w1 ⟨rfl, rfl⟩)
  have hv : wrap32 ((leAt B p 4 : Nat) : Int) % 4294967296 = ((leAt B p 4 : Nat) : Int) := by
    have := leAt_lt B p 4
    unfold wrap32
    omega
  rw [hv]
  go_ret
  exact ⟨rfl, rfl⟩

set_option maxRecDepth 100000 in
theorem soff_any (rb p len cap : Nat) (B : By) (w : World) (hB : BufIn w rb B) (hp : p + 4 ≤ B.length) (hl : 4 ≤ len) :
    Calls Tryz.prog 196 #[.slice (some ⟨rb, p, none⟩) len cap] w fun e w' => e = .returned (.int .i32 (IntKind.i32.wrap (leAt B p 4 : Nat))) ∧ w' = w := by
  go_enter Tryz.func196, Tryz.ntmps196
  go_wp2_with (go_at_call 109; refine (i32_any rb p len cap B w hB hp hl).mono ?_; rintro e w1 ⟨rfl, rfl⟩)
  go_ret
  exact ⟨rfl, rfl⟩

set_option maxRecDepth 100000 in
theorem voff_any (rb p len cap : Nat) (B : By) (w : World) (hB : BufIn w rb B) (hp : p + 2 ≤ B.length) (hl : 2 ≤ len) :
    Calls Tryz.prog 197 #[.slice (some ⟨rb, p, none⟩) len cap] w fun e w' => e = .returned (.int .u16 (leAt B p 2 : Nat)) ∧ w' = w := by
  go_enter Tryz.func197, Tryz.ntmps197
  go_wp2_with (go_at_call 219; refine (u16_any rb p len cap B w hB hp hl).mono ?_; rintro e w1 ⟨rfl, rfl⟩)
  go_ret
  exact ⟨rfl, rfl⟩

set_option maxRecDepth 100000 in
theorem tsoff_any (tb t0 rb cap p q : Nat) (B : By) (w : World) (h : TabIn w tb t0 rb cap B p) (hq : q + 4 ≤ B.length) :
    Calls Tryz.prog 160 #[.pointer (some ⟨tb, t0, none⟩), .int .u32 (q : Nat)] w fun e w' => e = .returned (.int .i32 (IntKind.i32.wrap (leAt B q 4 : Nat))) ∧ w' = w := by
  obtain ⟨hs, hp, hB, hc, hl, hpl⟩ := h
  have hq1 : (q : Int) ≤ (B.length : Int) := by omega
  have hq0 : (0 : Int) ≤ (q : Int) := by omega
  go_enter Tryz.func160, Tryz.ntmps160
  go_wp2_with fail
  refine (soff_any rb q (B.length - q) (cap - q) B w hB hq (by omega)).mono ?_
  rintro e w1 ⟨rfl, rfl⟩
  go_wp2_with fail
  go_ret
  exact ⟨rfl, rfl⟩

set_option maxRecDepth 100000 in
theorem tvoff_any (tb t0 rb cap p q : Nat) (B : By) (w : World) (h : TabIn w tb t0 rb cap B p) (hq : q + 2 ≤ B.length) :
    Calls Tryz.prog 161 #[.pointer (some ⟨tb, t0, none⟩), .int .u32 (q : Nat)] w fun e w' => e = .returned (.int .u16 (leAt B q 2 : Nat)) ∧ w' = w := by
  obtain ⟨hs, hp, hB, hc, hl, hpl⟩ := h
  have hq1 : (q : Int) ≤ (B.length : Int) := by omega
  have hq0 : (0 : Int) ≤ (q : Int) := by omega
  go_enter Tryz.func161, Tryz.ntmps161
  go_wp2_with fail
  refine (voff_any rb q (B.length - q) (cap - q) B w hB hq (by omega)).mono ?_
  rintro e w1 ⟨rfl, rfl⟩
  go_wp2_with fail
  go_ret
  exact ⟨rfl, rfl⟩

set_option maxRecDepth 100000 in
theorem ti32_any (tb t0 rb cap p q : Nat) (B : By) (w : World) (h : TabIn w tb t0 rb cap B p) (hq : q + 4 ≤ B.length) :
    Calls Tryz.prog 218 #[.pointer (some ⟨tb, t0, none⟩), .int .u32 (q : Nat)] w fun e w' => e = .returned (.int .i32 (IntKind.i32.wrap (leAt B q 4 : Nat))) ∧ w' = w := by
  obtain ⟨hs, hp, hB, hc, hl, hpl⟩ := h
  have hq1 : (q : Int) ≤ (B.length : Int) := by omega
  have hq0 : (0 : Int) ≤ (q : Int) := by omega
  go_enter Tryz.func218, Tryz.ntmps218
  go_wp2_with fail
  refine (i32_any rb q (B.length - q) (cap - q) B w hB hq (by omega)).mono ?_
  rintro e w1 ⟨rfl, rfl⟩
  go_wp2_with fail
  go_ret
  exact ⟨rfl, rfl⟩

set_option maxRecDepth 100000 in
theorem indirect_any (tb t0 rb cap p q : Nat) (B : By) (w : World) (h : TabIn w tb t0 rb cap B p) (hq : q + 4 ≤ B.length) (d : Nat) (hd : leAt B q 4 = d) (hz : q + d < B.length) :
    Calls Tryz.prog 99 #[.pointer (some ⟨tb, t0, none⟩), .int .u32 (q : Nat)] w fun e w' => e = .returned (.int .u32 (q + d : Nat)) ∧ w' = w := by
  obtain ⟨hs, hp, hB, hc, hl, hpl⟩ := h
  have hq1 : (q : Int) ≤ (B.length : Int) := by omega
  have hq0 : (0 : Int) ≤ (q : Int) := by omega
  go_enter Tryz.func99, Tryz.ntmps99
  go_wp2_with fail
  refine (uoff_any rb (q) (B.length - (q)) (cap - (q)) B _ hB (by omega) (by omega)).mono ?_
  rintro e w1 ⟨rfl, rfl⟩
  rw [hd]
  go_wp2_with fail
  go_ret
  exact ⟨rfl, rfl⟩

set_option maxRecDepth 100000 in
theorem byteVector_any (tb t0 rb cap p q : Nat) (B : By) (w : World) (h : TabIn w tb t0 rb cap B p) (hq : q + 4 ≤ B.length) (d : Nat) (hd : leAt B q 4 = d) (n : Nat) (hz : q + d + 4 + n < B.length) (hn : leAt B (q + d) 4 = n) :
    Calls Tryz.prog 157 #[.pointer (some ⟨tb, t0, none⟩), .int .u32 (q : Nat)] w fun e w' => e = .returned (.slice (some ⟨rb, q + d + 4, none⟩) n (cap - (q + d + 4))) ∧ w' = w := by
  obtain ⟨hs, hp, hB, hc, hl, hpl⟩ := h
  have hq1 : (q : Int) ≤ (B.length : Int) := by omega
  have hq0 : (0 : Int) ≤ (q : Int) := by omega
  have hcn : ¬ cap = q + d + 4 := by omega
  go_enter Tryz.func157, Tryz.ntmps157
  go_wp2_with fail
  refine (uoff_any rb (q) (B.length - (q)) (cap - (q)) B _ hB (by omega) (by omega)).mono ?_
  rintro e w1 ⟨rfl, rfl⟩
  rw [hd]
  go_wp2_with fail
  refine (uoff_any rb (q + d) (B.length - (q + d)) (cap - (q + d)) B _ hB (by omega) (by omega)).mono ?_
  rintro e w1 ⟨rfl, rfl⟩
  rw [hn]
  go_wp2_with fail
  rw [show q + d + 4 + n - (q + d + 4) = n from by omega]
  go_ret
  exact ⟨rfl, rfl⟩

set_option maxRecDepth 100000 in
theorem vectorLen_any (tb t0 rb cap p q : Nat) (B : By) (w : World) (h : TabIn w tb t0 rb cap B p) (hq : q + p + 4 ≤ B.length) (d : Nat) (hd : leAt B (q + p) 4 = d) (n : Nat) (hz : q + p + d + 4 ≤ B.length) (hn : leAt B (q + p + d) 4 = n) :
    Calls Tryz.prog 117 #[.pointer (some ⟨tb, t0, none⟩), .int .u32 (q : Nat)] w fun e w' => e = .returned (.int .i64 (n : Nat)) ∧ w' = w := by
  obtain ⟨hs, hp, hB, hc, hl, hpl⟩ := h
  have hq1 : (q : Int) ≤ (B.length : Int) := by omega
  have hq0 : (0 : Int) ≤ (q : Int) := by omega
  have hnb : (n : Int) < 4294967296 := by
    have := leAt_lt B (q + p + d) 4
    omega
  go_enter Tryz.func117, Tryz.ntmps117
  go_wp2_with fail
  refine (uoff_any rb (q + p) (B.length - (q + p)) (cap - (q + p)) B _ hB (by omega) (by omega)).mono ?_
  rintro e w1 ⟨rfl, rfl⟩
  rw [hd]
  go_wp2_with fail
  refine (uoff_any rb (q + p + d) (B.length - (q + p + d)) (cap - (q + p + d)) B _ hB (by omega) (by omega)).mono ?_
  rintro e w1 ⟨rfl, rfl⟩
  rw [hn]
  go_wp2_with fail
  go_ret
  exact ⟨rfl, rfl⟩

set_option maxRecDepth 100000 in
theorem vector_any (tb t0 rb cap p q : Nat) (B : By) (w : World) (h : TabIn w tb t0 rb cap B p) (hq : q + p + 4 ≤ B.length) (d : Nat) (hd : leAt B (q + p) 4 = d) (hz : q + p + d + 4 ≤ B.length) :
    Calls Tryz.prog 118 #[.pointer (some ⟨tb, t0, none⟩), .int .u32 (q : Nat)] w fun e w' => e = .returned (.int .u32 (q + p + d + 4 : Nat)) ∧ w' = w := by
  obtain ⟨hs, hp, hB, hc, hl, hpl⟩ := h
  have hq1 : (q : Int) ≤ (B.length : Int) := by omega
  have hq0 : (0 : Int) ≤ (q : Int) := by omega
  go_enter Tryz.func118, Tryz.ntmps118
  go_wp2_with fail
  refine (uoff_any rb (q + p) (B.length - (q + p)) (cap - (q + p)) B _ hB (by omega) (by omega)).mono ?_
  rintro e w1 ⟨rfl, rfl⟩
  rw [hd]
  go_wp2_with fail
  go_ret
  exact ⟨rfl, rfl⟩

theorem TabAt.zero {B : By} {p : Nat} {ps : List Nat} (h : TabAt B p ps) (v : Nat) : v < 4 + 2 * ps.length ∨ 4 + 2 * ps.length ≤ v := by omega

set_option maxRecDepth 100000 in
theorem offset_any (tb t0 rb cap p i : Nat) (v : Int) (hv : v = ((4 + 2 * i : Nat) : Int)) (B : By) (ps : List Nat) (x : Nat) (hx : ps.getD i 0 = x) (hi : i < 1000) (w : World) (h : TabIn w tb t0 rb cap B p) (ht : TabAt B p ps) :
    Calls Tryz.prog 98 #[.pointer (some ⟨tb, t0, none⟩), .int .u16 v] w fun e w' => e = .returned (.int .u16 (x : Nat)) ∧ ∃ m, w' = w.drewN m := by
  obtain ⟨ht1, ht2, ht3, ht4, ht5⟩ := ht
  have D : Hid (∀ n, Calls Tryz.prog 160 #[.pointer (some ⟨tb, t0, none⟩), .int .u32 (p : Nat)] (w.drewN n) fun e w' => e = .returned (.int .i32 (4 + 2 * ps.length : Nat)) ∧ w' = w.drewN n) := by
    refine Lib.hid fun n => (tsoff_any tb t0 rb cap p p B (w.drewN n) (h.drew n) ht2).mono ?_
    rintro e w' ⟨rfl, rfl⟩
    rw [ht3]
    refine ⟨?_, rfl⟩
    congr 2
    have := h.hl
    rw [wrap_i32]
    split <;> omega
  have hs := h.hs
  have hp := h.hp
  have hpl := h.hq
  have hl := h.hl
  have Q : ∀ n, TabIn (w.drewN n) tb t0 rb cap B p := h.drew
  clear h
  go_enter Tryz.func98, Tryz.ntmps98
  go_upto_region 1 with fail
  go_quiet (first | (go_at_call 160; exact Calls.quiet_of_same (D.out _)))
  obtain ⟨vt, hpv⟩ : ∃ vt, p = vt + (4 + 2 * ps.length) := ⟨p - (4 + 2 * ps.length), by omega⟩
  rw [show (p : Int) - (4 + 2 * (ps.length : Int)) = (vt : Int) from by omega]
  rw [show p - (4 + 2 * ps.length) = vt from by omega] at ht4
  have hlv := leAt_lt B vt 2
  rw [ht4] at hlv
  have E1 : Hid (Calls Tryz.prog 161 #[.pointer (some ⟨tb, t0, none⟩), .int .u32 (vt : Int)] (w.drewN nq) fun e w' => e = .returned (.int .u16 (4 + 2 * ps.length : Nat)) ∧ w' = w.drewN nq) := by
    have := tvoff_any tb t0 rb cap p vt B (w.drewN nq) (Q nq) (by omega)
    rw [ht4] at this
    exact this
  by_cases hil : i < ps.length
  · have hy := ht5 i x (by rw [List.getD_eq_getElem?_getD, List.getElem?_eq_getElem hil] at hx; rw [List.getElem?_eq_getElem hil]; exact congrArg some hx)
    rw [show p - 2 * ps.length + 2 * i = vt + (4 + 2 * i) from by omega] at hy
    have E2 : Hid (Calls Tryz.prog 161 #[.pointer (some ⟨tb, t0, none⟩), .int .u32 ((vt : Int) + v)] (w.drewN nq) fun e w' => e = .returned (.int .u16 (x : Nat)) ∧ w' = w.drewN nq) := by
      have := tvoff_any tb t0 rb cap p (vt + (4 + 2 * i)) B (w.drewN nq) (Q nq) (by omega)
      rw [hy, Int.natCast_add, ← hv] at this
      exact this
    have hlt : v < ((4 + 2 * ps.length : Nat) : Int) := by omega
    have hb1 : (0 : Int) ≤ v ∧ v < 65536 := by omega
    have hb2 : (vt : Int) + v < 2147483648 := by omega
    clear hv hx hy ht5 ht4 ht3 D Q hpv
    go_wp2_with fail
    refine E1.out.mono ?_
    rintro e w1 ⟨rfl, rfl⟩
    go_wp2_with fail
    refine E2.out.mono ?_
    rintro e w1 ⟨rfl, rfl⟩
    go_wp2_with fail
    go_ret
    exact ⟨rfl, nq, rfl⟩
  · have hx0 : x = 0 := by rw [List.getD_eq_getElem?_getD, List.getElem?_eq_none (by omega)] at hx; exact hx.symm
    subst hx0
    have hlt : ¬ v < ((4 + 2 * ps.length : Nat) : Int) := by omega
    clear hv hx ht5 ht4 ht3 D Q hpv
    go_wp2_with fail
    refine E1.out.mono ?_
    rintro e w1 ⟨rfl, rfl⟩
    go_wp2_with fail
    go_ret
    exact ⟨rfl, nq, rfl⟩

end Go.Proofs.YtcbcdgifakcooaaGreatDoor
