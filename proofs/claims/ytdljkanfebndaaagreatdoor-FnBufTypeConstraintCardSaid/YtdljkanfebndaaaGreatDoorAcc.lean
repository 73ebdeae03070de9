/-
  A flatbuffer's tables: the accessors of package fbast. No conditions.
-/
import Derived.Test.YtdljkanfebndaaaGreatDoorTab
import Derived.Below
namespace Go.Proofs.YtdljkanfebndaaaGreatDoor
open Go.RowKit
set_option linter.unusedVariables false
set_option linter.unusedSimpArgs false

theorem BufIn.below {w w' : World} {rb K : Nat} {B : By} (h : BufIn w rb B) (hb : Below K w w') (hr : rb < K) : BufIn w' rb B := fun j x hj => (hb.cell (p := ⟨rb, j, none⟩) hr).trans (h j x hj)
theorem BufIn.below0 {w V U : World} {rb K : Nat} {B : By} (h : BufIn V rb B) (h1 : Below K w V) (h2 : Below K w U) (hr : rb < K) : BufIn U rb B := fun j x hj => (h2.cell (p := ⟨rb, j, none⟩) hr).trans ((h1.cell (p := ⟨rb, j, none⟩) hr).symm.trans (h j x hj))
theorem BufIn.lt {w : World} {rb : Nat} {B : By} (h : BufIn w rb B) (h0 : 0 < B.length) : rb < w.heap.size := World.block_lt_of_cell? w _ (h 0 (B[0]'h0) (List.getElem?_eq_getElem h0))

theorem two_new (w : World) (a b : Value) (t : TypeId) : (w.alloc (.cells #[a, b] t)).cell? ⟨w.heap.size, 0, none⟩ = some a ∧ (w.alloc (.cells #[a, b] t)).cell? ⟨w.heap.size, 1, none⟩ = some b ∧ (w.alloc (.cells #[a, b] t)).frozen? ⟨w.heap.size, 0, none⟩ = false ∧ (w.alloc (.cells #[a, b] t)).frozen? ⟨w.heap.size, 1, none⟩ = false := by
  refine ⟨?_, ?_, ?_, ?_⟩
  · exact World.cell?_alloc_at _ _ _ _ rfl
  · exact World.cell?_alloc_at _ _ _ _ rfl
  · exact World.frozen?_alloc_at _ _ _ _ rfl
  · exact World.frozen?_alloc_at _ _ _ _ rfl

theorem below_drewN' {K : Nat} {a w : World} (h : Below K a w) (n : Nat) : Below K a (w.drewN n) := h.trans ⟨rfl, rfl, rfl, Nat.le_refl _, fun _ _ => rfl⟩

theorem tab_set {k rb cap p : Nat} {B : By} {c0 c1 : Value} {w : World} (h0 : w.cell? ⟨k, 0, none⟩ = some c0) (h1 : w.cell? ⟨k, 1, none⟩ = some c1) (hB : BufIn w rb B) (hk : rb ≠ k) (hc : B.length ≤ cap) (hl : B.length < 2147483648) (hp : p < B.length) :
    TabIn ((w.setCell ⟨k, 0, none⟩ (.slice (some ⟨rb, 0, none⟩) (B.length : Nat) cap)).setCell ⟨k, 1, none⟩ (.int .u32 (p : Nat))) k 0 rb cap B p := by
  refine ⟨?_, ?_, ?_, hc, hl, hp⟩
  · rw [World.cell?_setCell_other _ _ _ _ (by simp)]
    exact World.cell?_setCell_same _ _ _ h0
  · refine World.cell?_setCell_same _ _ _ (u := c1) ?_
    rw [World.cell?_setCell_other _ _ _ _ (by simp)]
    exact h1
  · intro j x hj
    rw [World.cell?_of_block (Below.heap_setCell _ _ _ _ hk), World.cell?_of_block (Below.heap_setCell _ _ _ _ hk)]
    exact hB j x hj
theorem below_set (w : World) (k o1 o2 : Nat) (u v : Value) : Below k w ((w.setCell ⟨k, o1, none⟩ u).setCell ⟨k, o2, none⟩ v) := (((Below.refl k w).setCell (p := ⟨k, o1, none⟩) (Nat.le_refl _) u).setCell (p := ⟨k, o2, none⟩) (Nat.le_refl _) v)

set_option maxRecDepth 100000 in
theorem init_PipeLiteral (k rb cap p : Nat) (B : By) (c0 c1 : Value) (w : World) (h0 : w.cell? ⟨k, 0, none⟩ = some c0) (h1 : w.cell? ⟨k, 1, none⟩ = some c1) (f0 : w.frozen? ⟨k, 0, none⟩ = false) (f1 : w.frozen? ⟨k, 1, none⟩ = false) (hB : BufIn w rb B) (hk : rb ≠ k) (hc : B.length ≤ cap) (hl : B.length < 2147483648) (hp : p < B.length) :
    Calls Tryz.prog 74 #[.pointer (some ⟨k, 0, none⟩), .slice (some ⟨rb, 0, none⟩) (B.length : Nat) cap, .int .u32 (p : Nat)] w fun e w' => e = .returned (.tuple #[]) ∧ TabIn w' k 0 rb cap B p ∧ Below k w w' := by
  go_enter Tryz.func74, Tryz.ntmps74
  go_wp2_with fail
  go_end0
  exact ⟨rfl, tab_set h0 h1 hB hk hc hl hp, below_set _ _ _ _ _ _⟩

set_option maxRecDepth 100000 in
theorem init_RegexpLiteral (k rb cap p : Nat) (B : By) (c0 c1 : Value) (w : World) (h0 : w.cell? ⟨k, 0, none⟩ = some c0) (h1 : w.cell? ⟨k, 1, none⟩ = some c1) (f0 : w.frozen? ⟨k, 0, none⟩ = false) (f1 : w.frozen? ⟨k, 1, none⟩ = false) (hB : BufIn w rb B) (hk : rb ≠ k) (hc : B.length ≤ cap) (hl : B.length < 2147483648) (hp : p < B.length) :
    Calls Tryz.prog 82 #[.pointer (some ⟨k, 0, none⟩), .slice (some ⟨rb, 0, none⟩) (B.length : Nat) cap, .int .u32 (p : Nat)] w fun e w' => e = .returned (.tuple #[]) ∧ TabIn w' k 0 rb cap B p ∧ Below k w w' := by
  go_enter Tryz.func82, Tryz.ntmps82
  go_wp2_with fail
  go_end0
  exact ⟨rfl, tab_set h0 h1 hB hk hc hl hp, below_set _ _ _ _ _ _⟩

set_option maxRecDepth 100000 in
theorem init_BooleanLiteral (k rb cap p : Nat) (B : By) (c0 c1 : Value) (w : World) (h0 : w.cell? ⟨k, 0, none⟩ = some c0) (h1 : w.cell? ⟨k, 1, none⟩ = some c1) (f0 : w.frozen? ⟨k, 0, none⟩ = false) (f1 : w.frozen? ⟨k, 1, none⟩ = false) (hB : BufIn w rb B) (hk : rb ≠ k) (hc : B.length ≤ cap) (hl : B.length < 2147483648) (hp : p < B.length) :
    Calls Tryz.prog 85 #[.pointer (some ⟨k, 0, none⟩), .slice (some ⟨rb, 0, none⟩) (B.length : Nat) cap, .int .u32 (p : Nat)] w fun e w' => e = .returned (.tuple #[]) ∧ TabIn w' k 0 rb cap B p ∧ Below k w w' := by
  go_enter Tryz.func85, Tryz.ntmps85
  go_wp2_with fail
  go_end0
  exact ⟨rfl, tab_set h0 h1 hB hk hc hl hp, below_set _ _ _ _ _ _⟩

set_option maxRecDepth 100000 in
theorem init_IntegerLiteral (k rb cap p : Nat) (B : By) (c0 c1 : Value) (w : World) (h0 : w.cell? ⟨k, 0, none⟩ = some c0) (h1 : w.cell? ⟨k, 1, none⟩ = some c1) (f0 : w.frozen? ⟨k, 0, none⟩ = false) (f1 : w.frozen? ⟨k, 1, none⟩ = false) (hB : BufIn w rb B) (hk : rb ≠ k) (hc : B.length ≤ cap) (hl : B.length < 2147483648) (hp : p < B.length) :
    Calls Tryz.prog 88 #[.pointer (some ⟨k, 0, none⟩), .slice (some ⟨rb, 0, none⟩) (B.length : Nat) cap, .int .u32 (p : Nat)] w fun e w' => e = .returned (.tuple #[]) ∧ TabIn w' k 0 rb cap B p ∧ Below k w w' := by
  go_enter Tryz.func88, Tryz.ntmps88
  go_wp2_with fail
  go_end0
  exact ⟨rfl, tab_set h0 h1 hB hk hc hl hp, below_set _ _ _ _ _ _⟩

set_option maxRecDepth 100000 in
theorem init_NamedType (k rb cap p : Nat) (B : By) (c0 c1 : Value) (w : World) (h0 : w.cell? ⟨k, 0, none⟩ = some c0) (h1 : w.cell? ⟨k, 1, none⟩ = some c1) (f0 : w.frozen? ⟨k, 0, none⟩ = false) (f1 : w.frozen? ⟨k, 1, none⟩ = false) (hB : BufIn w rb B) (hk : rb ≠ k) (hc : B.length ≤ cap) (hl : B.length < 2147483648) (hp : p < B.length) :
    Calls Tryz.prog 92 #[.pointer (some ⟨k, 0, none⟩), .slice (some ⟨rb, 0, none⟩) (B.length : Nat) cap, .int .u32 (p : Nat)] w fun e w' => e = .returned (.tuple #[]) ∧ TabIn w' k 0 rb cap B p ∧ Below k w w' := by
  go_enter Tryz.func92, Tryz.ntmps92
  go_wp2_with fail
  go_end0
  exact ⟨rfl, tab_set h0 h1 hB hk hc hl hp, below_set _ _ _ _ _ _⟩

set_option maxRecDepth 100000 in
theorem init_PackageClause (k rb cap p : Nat) (B : By) (c0 c1 : Value) (w : World) (h0 : w.cell? ⟨k, 0, none⟩ = some c0) (h1 : w.cell? ⟨k, 1, none⟩ = some c1) (f0 : w.frozen? ⟨k, 0, none⟩ = false) (f1 : w.frozen? ⟨k, 1, none⟩ = false) (hB : BufIn w rb B) (hk : rb ≠ k) (hc : B.length ≤ cap) (hl : B.length < 2147483648) (hp : p < B.length) :
    Calls Tryz.prog 95 #[.pointer (some ⟨k, 0, none⟩), .slice (some ⟨rb, 0, none⟩) (B.length : Nat) cap, .int .u32 (p : Nat)] w fun e w' => e = .returned (.tuple #[]) ∧ TabIn w' k 0 rb cap B p ∧ Below k w w' := by
  go_enter Tryz.func95, Tryz.ntmps95
  go_wp2_with fail
  go_end0
  exact ⟨rfl, tab_set h0 h1 hB hk hc hl hp, below_set _ _ _ _ _ _⟩

set_option maxRecDepth 100000 in
theorem init_DateTimeLiteral (k rb cap p : Nat) (B : By) (c0 c1 : Value) (w : World) (h0 : w.cell? ⟨k, 0, none⟩ = some c0) (h1 : w.cell? ⟨k, 1, none⟩ = some c1) (f0 : w.frozen? ⟨k, 0, none⟩ = false) (f1 : w.frozen? ⟨k, 1, none⟩ = false) (hB : BufIn w rb B) (hk : rb ≠ k) (hc : B.length ≤ cap) (hl : B.length < 2147483648) (hp : p < B.length) :
    Calls Tryz.prog 102 #[.pointer (some ⟨k, 0, none⟩), .slice (some ⟨rb, 0, none⟩) (B.length : Nat) cap, .int .u32 (p : Nat)] w fun e w' => e = .returned (.tuple #[]) ∧ TabIn w' k 0 rb cap B p ∧ Below k w w' := by
  go_enter Tryz.func102, Tryz.ntmps102
  go_wp2_with fail
  go_end0
  exact ⟨rfl, tab_set h0 h1 hB hk hc hl hp, below_set _ _ _ _ _ _⟩

set_option maxRecDepth 100000 in
theorem init_TypeConstraint (k rb cap p : Nat) (B : By) (c0 c1 : Value) (w : World) (h0 : w.cell? ⟨k, 0, none⟩ = some c0) (h1 : w.cell? ⟨k, 1, none⟩ = some c1) (f0 : w.frozen? ⟨k, 0, none⟩ = false) (f1 : w.frozen? ⟨k, 1, none⟩ = false) (hB : BufIn w rb B) (hk : rb ≠ k) (hc : B.length ≤ cap) (hl : B.length < 2147483648) (hp : p < B.length) :
    Calls Tryz.prog 108 #[.pointer (some ⟨k, 0, none⟩), .slice (some ⟨rb, 0, none⟩) (B.length : Nat) cap, .int .u32 (p : Nat)] w fun e w' => e = .returned (.tuple #[]) ∧ TabIn w' k 0 rb cap B p ∧ Below k w w' := by
  go_enter Tryz.func108, Tryz.ntmps108
  go_wp2_with fail
  go_end0
  exact ⟨rfl, tab_set h0 h1 hB hk hc hl hp, below_set _ _ _ _ _ _⟩

set_option maxRecDepth 100000 in
theorem init_Identifier (k rb cap p : Nat) (B : By) (c0 c1 : Value) (w : World) (h0 : w.cell? ⟨k, 0, none⟩ = some c0) (h1 : w.cell? ⟨k, 1, none⟩ = some c1) (f0 : w.frozen? ⟨k, 0, none⟩ = false) (f1 : w.frozen? ⟨k, 1, none⟩ = false) (hB : BufIn w rb B) (hk : rb ≠ k) (hc : B.length ≤ cap) (hl : B.length < 2147483648) (hp : p < B.length) :
    Calls Tryz.prog 145 #[.pointer (some ⟨k, 0, none⟩), .slice (some ⟨rb, 0, none⟩) (B.length : Nat) cap, .int .u32 (p : Nat)] w fun e w' => e = .returned (.tuple #[]) ∧ TabIn w' k 0 rb cap B p ∧ Below k w w' := by
  go_enter Tryz.func145, Tryz.ntmps145
  go_wp2_with fail
  go_end0
  exact ⟨rfl, tab_set h0 h1 hB hk hc hl hp, below_set _ _ _ _ _ _⟩

set_option maxRecDepth 100000 in
theorem init_BaseNode (k rb cap p : Nat) (B : By) (c0 c1 : Value) (w : World) (h0 : w.cell? ⟨k, 0, none⟩ = some c0) (h1 : w.cell? ⟨k, 1, none⟩ = some c1) (f0 : w.frozen? ⟨k, 0, none⟩ = false) (f1 : w.frozen? ⟨k, 1, none⟩ = false) (hB : BufIn w rb B) (hk : rb ≠ k) (hc : B.length ≤ cap) (hl : B.length < 2147483648) (hp : p < B.length) :
    Calls Tryz.prog 131 #[.pointer (some ⟨k, 0, none⟩), .slice (some ⟨rb, 0, none⟩) (B.length : Nat) cap, .int .u32 (p : Nat)] w fun e w' => e = .returned (.tuple #[]) ∧ TabIn w' k 0 rb cap B p ∧ Below k w w' := by
  go_enter Tryz.func131, Tryz.ntmps131
  go_wp2_with fail
  go_end0
  exact ⟨rfl, tab_set h0 h1 hB hk hc hl hp, below_set _ _ _ _ _ _⟩

set_option maxRecDepth 100000 in
theorem init_SourceLocation (k rb cap p : Nat) (B : By) (c0 c1 : Value) (w : World) (h0 : w.cell? ⟨k, 0, none⟩ = some c0) (h1 : w.cell? ⟨k, 1, none⟩ = some c1) (f0 : w.frozen? ⟨k, 0, none⟩ = false) (f1 : w.frozen? ⟨k, 1, none⟩ = false) (hB : BufIn w rb B) (hk : rb ≠ k) (hc : B.length ≤ cap) (hl : B.length < 2147483648) (hp : p < B.length) :
    Calls Tryz.prog 171 #[.pointer (some ⟨k, 0, none⟩), .slice (some ⟨rb, 0, none⟩) (B.length : Nat) cap, .int .u32 (p : Nat)] w fun e w' => e = .returned (.tuple #[]) ∧ TabIn w' k 0 rb cap B p ∧ Below k w w' := by
  go_enter Tryz.func171, Tryz.ntmps171
  go_wp2_with fail
  go_end0
  exact ⟨rfl, tab_set h0 h1 hB hk hc hl hp, below_set _ _ _ _ _ _⟩

set_option maxRecDepth 100000 in
theorem IntegerLiteral_Value_none (tb rb cap p : Nat) (B : By) (ps : List Nat) (hx : ps.getD 1 0 = 0) (w : World) (h : TabIn w tb 0 rb cap B p) (ht : TabAt B p ps) :
    Calls Tryz.prog 87 #[.pointer (some ⟨tb, 0, none⟩)] w fun e w' => e = .returned (.int .i64 0) ∧ ∃ m, w' = w.drewN m := by
  go_enter Tryz.func87, Tryz.ntmps87
  go_wp2_with fail
  refine (offset_any tb 0 rb cap p 1 6 (by decide) B ps 0 hx (by decide) w h ht).mono ?_
  rintro e w1 ⟨rfl, m, rfl⟩
  go_wp2_with fail
  go_ret
  exact ⟨rfl, m, rfl⟩

set_option maxRecDepth 100000 in
theorem IntegerLiteral_Value (tb rb cap p : Nat) (B : By) (ps : List Nat) (x : Nat) (hx : ps.getD 1 0 = x) (h0 : x ≠ 0) (w : World) (h : TabIn w tb 0 rb cap B p) (ht : TabAt B p ps) (hl : x < 65536) (hq : x + p + 8 ≤ B.length) :
    Calls Tryz.prog 87 #[.pointer (some ⟨tb, 0, none⟩)] w fun e w' => e = .returned (.int .i64 (IntKind.i64.wrap (leAt B (x + p) 8 : Nat))) ∧ ∃ m, w' = w.drewN m := by
  have hs := h.hs
  have hp : w.cell? ⟨tb, 1, none⟩ = some (.int .u32 (p : Nat)) := h.hp
  have h01 : ((x : Int) == 0) = false := by simpa using h0
  have h02 : ((x : Int) != 0) = true := by simpa using h0
  have hxl : (x : Int) < 65536 := by omega
  have hpl : (p : Int) < 2147483648 := by have := h.hq; have := h.hl; omega
  go_enter Tryz.func87, Tryz.ntmps87
  go_wp2_with fail
  refine (offset_any tb 0 rb cap p 1 6 (by decide) B ps x hx (by decide) w h ht).mono ?_
  rintro e w1 ⟨rfl, m, rfl⟩
  have D : Hid (∀ n, Calls Tryz.prog 142 #[.pointer (some ⟨tb, 0, none⟩), .int .u32 ((x : Int) + (p : Int))] ((w.drewN m).drewN n) fun e w' => e = .returned (.int .i64 (IntKind.i64.wrap (leAt B (x + p) 8 : Nat))) ∧ w' = (w.drewN m).drewN n) := Lib.hid fun n => ti64_any tb 0 rb cap p (x + p) B _ ((h.drew m).drew n) hq
  clear hx h0
  go_upto_region 3 with fail
  have hsW : (w.drewN m).cell? ⟨tb, 0, none⟩ = some (.slice (some ⟨rb, 0, none⟩) (B.length : Nat) cap) := hs
  have hpW : (w.drewN m).cell? ⟨tb, 1, none⟩ = some (.int .u32 (p : Nat)) := hp
  clear hs hp h
  obtain ⟨W, hW⟩ : ∃ W, W = w.drewN m := ⟨_, rfl⟩
  rw [← hW] at hsW hpW D ⊢
  have HW := Lib.hid hW
  clear hW
  go_quiet (first | (go_at_call 142; exact Calls.quiet_of_same (D.out _)))
  go_wp2_with fail
  go_ret
  have hW := HW.out
  subst hW
  exact ⟨rfl, m + nq, World.drewN_drewN _ _ _⟩

set_option maxRecDepth 100000 in
theorem DateTimeLiteral_Secs_none (tb rb cap p : Nat) (B : By) (ps : List Nat) (hx : ps.getD 1 0 = 0) (w : World) (h : TabIn w tb 0 rb cap B p) (ht : TabAt B p ps) :
    Calls Tryz.prog 98 #[.pointer (some ⟨tb, 0, none⟩)] w fun e w' => e = .returned (.int .i64 0) ∧ ∃ m, w' = w.drewN m := by
  go_enter Tryz.func98, Tryz.ntmps98
  go_wp2_with fail
  refine (offset_any tb 0 rb cap p 1 6 (by decide) B ps 0 hx (by decide) w h ht).mono ?_
  rintro e w1 ⟨rfl, m, rfl⟩
  go_wp2_with fail
  go_ret
  exact ⟨rfl, m, rfl⟩

set_option maxRecDepth 100000 in
theorem DateTimeLiteral_Secs (tb rb cap p : Nat) (B : By) (ps : List Nat) (x : Nat) (hx : ps.getD 1 0 = x) (h0 : x ≠ 0) (w : World) (h : TabIn w tb 0 rb cap B p) (ht : TabAt B p ps) (hl : x < 65536) (hq : x + p + 8 ≤ B.length) :
    Calls Tryz.prog 98 #[.pointer (some ⟨tb, 0, none⟩)] w fun e w' => e = .returned (.int .i64 (IntKind.i64.wrap (leAt B (x + p) 8 : Nat))) ∧ ∃ m, w' = w.drewN m := by
  have hs := h.hs
  have hp : w.cell? ⟨tb, 1, none⟩ = some (.int .u32 (p : Nat)) := h.hp
  have h01 : ((x : Int) == 0) = false := by simpa using h0
  have h02 : ((x : Int) != 0) = true := by simpa using h0
  have hxl : (x : Int) < 65536 := by omega
  have hpl : (p : Int) < 2147483648 := by have := h.hq; have := h.hl; omega
  go_enter Tryz.func98, Tryz.ntmps98
  go_wp2_with fail
  refine (offset_any tb 0 rb cap p 1 6 (by decide) B ps x hx (by decide) w h ht).mono ?_
  rintro e w1 ⟨rfl, m, rfl⟩
  have D : Hid (∀ n, Calls Tryz.prog 142 #[.pointer (some ⟨tb, 0, none⟩), .int .u32 ((x : Int) + (p : Int))] ((w.drewN m).drewN n) fun e w' => e = .returned (.int .i64 (IntKind.i64.wrap (leAt B (x + p) 8 : Nat))) ∧ w' = (w.drewN m).drewN n) := Lib.hid fun n => ti64_any tb 0 rb cap p (x + p) B _ ((h.drew m).drew n) hq
  clear hx h0
  go_upto_region 3 with fail
  have hsW : (w.drewN m).cell? ⟨tb, 0, none⟩ = some (.slice (some ⟨rb, 0, none⟩) (B.length : Nat) cap) := hs
  have hpW : (w.drewN m).cell? ⟨tb, 1, none⟩ = some (.int .u32 (p : Nat)) := hp
  clear hs hp h
  obtain ⟨W, hW⟩ : ∃ W, W = w.drewN m := ⟨_, rfl⟩
  rw [← hW] at hsW hpW D ⊢
  have HW := Lib.hid hW
  clear hW
  go_quiet (first | (go_at_call 142; exact Calls.quiet_of_same (D.out _)))
  go_wp2_with fail
  go_ret
  have hW := HW.out
  subst hW
  exact ⟨rfl, m + nq, World.drewN_drewN _ _ _⟩

set_option maxRecDepth 100000 in
theorem DateTimeLiteral_Nsecs_none (tb rb cap p : Nat) (B : By) (ps : List Nat) (hx : ps.getD 2 0 = 0) (w : World) (h : TabIn w tb 0 rb cap B p) (ht : TabAt B p ps) :
    Calls Tryz.prog 99 #[.pointer (some ⟨tb, 0, none⟩)] w fun e w' => e = .returned (.int .u32 0) ∧ ∃ m, w' = w.drewN m := by
  go_enter Tryz.func99, Tryz.ntmps99
  go_wp2_with fail
  refine (offset_any tb 0 rb cap p 2 8 (by decide) B ps 0 hx (by decide) w h ht).mono ?_
  rintro e w1 ⟨rfl, m, rfl⟩
  go_wp2_with fail
  go_ret
  exact ⟨rfl, m, rfl⟩

set_option maxRecDepth 100000 in
theorem DateTimeLiteral_Nsecs (tb rb cap p : Nat) (B : By) (ps : List Nat) (x : Nat) (hx : ps.getD 2 0 = x) (h0 : x ≠ 0) (w : World) (h : TabIn w tb 0 rb cap B p) (ht : TabAt B p ps) (hl : x < 65536) (hq : x + p + 4 ≤ B.length) :
    Calls Tryz.prog 99 #[.pointer (some ⟨tb, 0, none⟩)] w fun e w' => e = .returned (.int .u32 (leAt B (x + p) 4 : Nat)) ∧ ∃ m, w' = w.drewN m := by
  have hs := h.hs
  have hp : w.cell? ⟨tb, 1, none⟩ = some (.int .u32 (p : Nat)) := h.hp
  have h01 : ((x : Int) == 0) = false := by simpa using h0
  have h02 : ((x : Int) != 0) = true := by simpa using h0
  have hxl : (x : Int) < 65536 := by omega
  have hpl : (p : Int) < 2147483648 := by have := h.hq; have := h.hl; omega
  go_enter Tryz.func99, Tryz.ntmps99
  go_wp2_with fail
  refine (offset_any tb 0 rb cap p 2 8 (by decide) B ps x hx (by decide) w h ht).mono ?_
  rintro e w1 ⟨rfl, m, rfl⟩
  have D : Hid (∀ n, Calls Tryz.prog 146 #[.pointer (some ⟨tb, 0, none⟩), .int .u32 ((x : Int) + (p : Int))] ((w.drewN m).drewN n) fun e w' => e = .returned (.int .u32 (leAt B (x + p) 4 : Nat)) ∧ w' = (w.drewN m).drewN n) := Lib.hid fun n => tu32_any tb 0 rb cap p (x + p) B _ ((h.drew m).drew n) hq
  clear hx h0
  go_upto_region 3 with fail
  have hsW : (w.drewN m).cell? ⟨tb, 0, none⟩ = some (.slice (some ⟨rb, 0, none⟩) (B.length : Nat) cap) := hs
  have hpW : (w.drewN m).cell? ⟨tb, 1, none⟩ = some (.int .u32 (p : Nat)) := hp
  clear hs hp h
  obtain ⟨W, hW⟩ : ∃ W, W = w.drewN m := ⟨_, rfl⟩
  rw [← hW] at hsW hpW D ⊢
  have HW := Lib.hid hW
  clear hW
  go_quiet (first | (go_at_call 146; exact Calls.quiet_of_same (D.out _)))
  go_wp2_with fail
  go_ret
  have hW := HW.out
  subst hW
  exact ⟨rfl, m + nq, World.drewN_drewN _ _ _⟩

set_option maxRecDepth 100000 in
theorem DateTimeLiteral_Offset_none (tb rb cap p : Nat) (B : By) (ps : List Nat) (hx : ps.getD 3 0 = 0) (w : World) (h : TabIn w tb 0 rb cap B p) (ht : TabAt B p ps) :
    Calls Tryz.prog 101 #[.pointer (some ⟨tb, 0, none⟩)] w fun e w' => e = .returned (.int .i32 0) ∧ ∃ m, w' = w.drewN m := by
  go_enter Tryz.func101, Tryz.ntmps101
  go_wp2_with fail
  refine (offset_any tb 0 rb cap p 3 10 (by decide) B ps 0 hx (by decide) w h ht).mono ?_
  rintro e w1 ⟨rfl, m, rfl⟩
  go_wp2_with fail
  go_ret
  exact ⟨rfl, m, rfl⟩

set_option maxRecDepth 100000 in
theorem DateTimeLiteral_Offset (tb rb cap p : Nat) (B : By) (ps : List Nat) (x : Nat) (hx : ps.getD 3 0 = x) (h0 : x ≠ 0) (w : World) (h : TabIn w tb 0 rb cap B p) (ht : TabAt B p ps) (hl : x < 65536) (hq : x + p + 4 ≤ B.length) :
    Calls Tryz.prog 101 #[.pointer (some ⟨tb, 0, none⟩)] w fun e w' => e = .returned (.int .i32 (IntKind.i32.wrap (leAt B (x + p) 4 : Nat))) ∧ ∃ m, w' = w.drewN m := by
  have hs := h.hs
  have hp : w.cell? ⟨tb, 1, none⟩ = some (.int .u32 (p : Nat)) := h.hp
  have h01 : ((x : Int) == 0) = false := by simpa using h0
  have h02 : ((x : Int) != 0) = true := by simpa using h0
  have hxl : (x : Int) < 65536 := by omega
  have hpl : (p : Int) < 2147483648 := by have := h.hq; have := h.hl; omega
  go_enter Tryz.func101, Tryz.ntmps101
  go_wp2_with fail
  refine (offset_any tb 0 rb cap p 3 10 (by decide) B ps x hx (by decide) w h ht).mono ?_
  rintro e w1 ⟨rfl, m, rfl⟩
  have D : Hid (∀ n, Calls Tryz.prog 147 #[.pointer (some ⟨tb, 0, none⟩), .int .u32 ((x : Int) + (p : Int))] ((w.drewN m).drewN n) fun e w' => e = .returned (.int .i32 (IntKind.i32.wrap (leAt B (x + p) 4 : Nat))) ∧ w' = (w.drewN m).drewN n) := Lib.hid fun n => ti32_any tb 0 rb cap p (x + p) B _ ((h.drew m).drew n) hq
  clear hx h0
  go_upto_region 3 with fail
  have hsW : (w.drewN m).cell? ⟨tb, 0, none⟩ = some (.slice (some ⟨rb, 0, none⟩) (B.length : Nat) cap) := hs
  have hpW : (w.drewN m).cell? ⟨tb, 1, none⟩ = some (.int .u32 (p : Nat)) := hp
  clear hs hp h
  obtain ⟨W, hW⟩ : ∃ W, W = w.drewN m := ⟨_, rfl⟩
  rw [← hW] at hsW hpW D ⊢
  have HW := Lib.hid hW
  clear hW
  go_quiet (first | (go_at_call 147; exact Calls.quiet_of_same (D.out _)))
  go_wp2_with fail
  go_ret
  have hW := HW.out
  subst hW
  exact ⟨rfl, m + nq, World.drewN_drewN _ _ _⟩

set_option maxRecDepth 100000 in
theorem BooleanLiteral_Value_none (tb rb cap p : Nat) (B : By) (ps : List Nat) (hx : ps.getD 1 0 = 0) (w : World) (h : TabIn w tb 0 rb cap B p) (ht : TabAt B p ps) :
    Calls Tryz.prog 84 #[.pointer (some ⟨tb, 0, none⟩)] w fun e w' => e = .returned (.bool false) ∧ ∃ m, w' = w.drewN m := by
  go_enter Tryz.func84, Tryz.ntmps84
  go_wp2_with fail
  refine (offset_any tb 0 rb cap p 1 6 (by decide) B ps 0 hx (by decide) w h ht).mono ?_
  rintro e w1 ⟨rfl, m, rfl⟩
  go_wp2_with fail
  go_ret
  exact ⟨rfl, m, rfl⟩

set_option maxRecDepth 100000 in
theorem BooleanLiteral_Value (tb rb cap p : Nat) (B : By) (ps : List Nat) (x : Nat) (hx : ps.getD 1 0 = x) (h0 : x ≠ 0) (w : World) (h : TabIn w tb 0 rb cap B p) (ht : TabAt B p ps) (u : UInt8) (hl : x < 65536) (hq : B[x + p]? = some u) :
    Calls Tryz.prog 84 #[.pointer (some ⟨tb, 0, none⟩)] w fun e w' => e = .returned (.bool ((u.toNat : Int) == 1)) ∧ ∃ m, w' = w.drewN m := by
  have hs := h.hs
  have hp : w.cell? ⟨tb, 1, none⟩ = some (.int .u32 (p : Nat)) := h.hp
  have h01 : ((x : Int) == 0) = false := by simpa using h0
  have h02 : ((x : Int) != 0) = true := by simpa using h0
  have hxl : (x : Int) < 65536 := by omega
  have hpl : (p : Int) < 2147483648 := by have := h.hq; have := h.hl; omega
  go_enter Tryz.func84, Tryz.ntmps84
  go_wp2_with fail
  refine (offset_any tb 0 rb cap p 1 6 (by decide) B ps x hx (by decide) w h ht).mono ?_
  rintro e w1 ⟨rfl, m, rfl⟩
  have D : Hid (∀ n, Calls Tryz.prog 141 #[.pointer (some ⟨tb, 0, none⟩), .int .u32 ((x : Int) + (p : Int))] ((w.drewN m).drewN n) fun e w' => e = .returned (.bool ((u.toNat : Int) == 1)) ∧ w' = (w.drewN m).drewN n) := Lib.hid fun n => tbool_any tb 0 rb cap p (x + p) B u _ ((h.drew m).drew n) hq
  clear hx h0
  go_upto_region 3 with fail
  have hsW : (w.drewN m).cell? ⟨tb, 0, none⟩ = some (.slice (some ⟨rb, 0, none⟩) (B.length : Nat) cap) := hs
  have hpW : (w.drewN m).cell? ⟨tb, 1, none⟩ = some (.int .u32 (p : Nat)) := hp
  clear hs hp h
  obtain ⟨W, hW⟩ : ∃ W, W = w.drewN m := ⟨_, rfl⟩
  rw [← hW] at hsW hpW D ⊢
  have HW := Lib.hid hW
  clear hW
  go_quiet (first | (go_at_call 141; exact Calls.quiet_of_same (D.out _)))
  go_wp2_with fail
  go_ret
  have hW := HW.out
  subst hW
  exact ⟨rfl, m + nq, World.drewN_drewN _ _ _⟩

set_option maxRecDepth 100000 in
theorem RegexpLiteral_Value_none (tb rb cap p : Nat) (B : By) (ps : List Nat) (hx : ps.getD 1 0 = 0) (w : World) (h : TabIn w tb 0 rb cap B p) (ht : TabAt B p ps) :
    Calls Tryz.prog 81 #[.pointer (some ⟨tb, 0, none⟩)] w fun e w' => e = .returned (.slice none 0 0) ∧ ∃ m, w' = w.drewN m := by
  go_enter Tryz.func81, Tryz.ntmps81
  go_wp2_with fail
  refine (offset_any tb 0 rb cap p 1 6 (by decide) B ps 0 hx (by decide) w h ht).mono ?_
  rintro e w1 ⟨rfl, m, rfl⟩
  go_wp2_with fail
  go_ret
  exact ⟨rfl, m, rfl⟩

set_option maxRecDepth 100000 in
theorem RegexpLiteral_Value (tb rb cap p : Nat) (B : By) (ps : List Nat) (x : Nat) (hx : ps.getD 1 0 = x) (h0 : x ≠ 0) (w : World) (h : TabIn w tb 0 rb cap B p) (ht : TabAt B p ps) (hl : x < 65536) (hq : x + p + 4 ≤ B.length) (d l : Nat) (hd : leAt B (x + p) 4 = d) (hz : x + p + d + 4 + l < B.length) (hn : leAt B (x + p + d) 4 = l) :
    Calls Tryz.prog 81 #[.pointer (some ⟨tb, 0, none⟩)] w fun e w' => e = .returned (.slice (some ⟨rb, x + p + d + 4, none⟩) l (cap - (x + p + d + 4))) ∧ ∃ m, w' = w.drewN m := by
  have hs := h.hs
  have hp : w.cell? ⟨tb, 1, none⟩ = some (.int .u32 (p : Nat)) := h.hp
  have h01 : ((x : Int) == 0) = false := by simpa using h0
  have h02 : ((x : Int) != 0) = true := by simpa using h0
  have hxl : (x : Int) < 65536 := by omega
  have hpl : (p : Int) < 2147483648 := by have := h.hq; have := h.hl; omega
  go_enter Tryz.func81, Tryz.ntmps81
  go_wp2_with fail
  refine (offset_any tb 0 rb cap p 1 6 (by decide) B ps x hx (by decide) w h ht).mono ?_
  rintro e w1 ⟨rfl, m, rfl⟩
  have D : Hid (∀ n, Calls Tryz.prog 140 #[.pointer (some ⟨tb, 0, none⟩), .int .u32 ((x : Int) + (p : Int))] ((w.drewN m).drewN n) fun e w' => e = .returned (.slice (some ⟨rb, x + p + d + 4, none⟩) l (cap - (x + p + d + 4))) ∧ w' = (w.drewN m).drewN n) := Lib.hid fun n => byteVector_any tb 0 rb cap p (x + p) B _ ((h.drew m).drew n) hq d hd l hz hn
  clear hx h0
  go_upto_region 3 with fail
  have hsW : (w.drewN m).cell? ⟨tb, 0, none⟩ = some (.slice (some ⟨rb, 0, none⟩) (B.length : Nat) cap) := hs
  have hpW : (w.drewN m).cell? ⟨tb, 1, none⟩ = some (.int .u32 (p : Nat)) := hp
  clear hs hp h
  obtain ⟨W, hW⟩ : ∃ W, W = w.drewN m := ⟨_, rfl⟩
  rw [← hW] at hsW hpW D ⊢
  have HW := Lib.hid hW
  clear hW
  go_quiet (first | (go_at_call 140; exact Calls.quiet_of_same (D.out _)))
  go_wp2_with fail
  go_ret
  have hW := HW.out
  subst hW
  exact ⟨rfl, m + nq, World.drewN_drewN _ _ _⟩

set_option maxRecDepth 100000 in
theorem Identifier_Name_none (tb rb cap p : Nat) (B : By) (ps : List Nat) (hx : ps.getD 1 0 = 0) (w : World) (h : TabIn w tb 0 rb cap B p) (ht : TabAt B p ps) :
    Calls Tryz.prog 144 #[.pointer (some ⟨tb, 0, none⟩)] w fun e w' => e = .returned (.slice none 0 0) ∧ ∃ m, w' = w.drewN m := by
  go_enter Tryz.func144, Tryz.ntmps144
  go_wp2_with fail
  refine (offset_any tb 0 rb cap p 1 6 (by decide) B ps 0 hx (by decide) w h ht).mono ?_
  rintro e w1 ⟨rfl, m, rfl⟩
  go_wp2_with fail
  go_ret
  exact ⟨rfl, m, rfl⟩

set_option maxRecDepth 100000 in
theorem Identifier_Name (tb rb cap p : Nat) (B : By) (ps : List Nat) (x : Nat) (hx : ps.getD 1 0 = x) (h0 : x ≠ 0) (w : World) (h : TabIn w tb 0 rb cap B p) (ht : TabAt B p ps) (hl : x < 65536) (hq : x + p + 4 ≤ B.length) (d l : Nat) (hd : leAt B (x + p) 4 = d) (hz : x + p + d + 4 + l < B.length) (hn : leAt B (x + p + d) 4 = l) :
    Calls Tryz.prog 144 #[.pointer (some ⟨tb, 0, none⟩)] w fun e w' => e = .returned (.slice (some ⟨rb, x + p + d + 4, none⟩) l (cap - (x + p + d + 4))) ∧ ∃ m, w' = w.drewN m := by
  have hs := h.hs
  have hp : w.cell? ⟨tb, 1, none⟩ = some (.int .u32 (p : Nat)) := h.hp
  have h01 : ((x : Int) == 0) = false := by simpa using h0
  have h02 : ((x : Int) != 0) = true := by simpa using h0
  have hxl : (x : Int) < 65536 := by omega
  have hpl : (p : Int) < 2147483648 := by have := h.hq; have := h.hl; omega
  go_enter Tryz.func144, Tryz.ntmps144
  go_wp2_with fail
  refine (offset_any tb 0 rb cap p 1 6 (by decide) B ps x hx (by decide) w h ht).mono ?_
  rintro e w1 ⟨rfl, m, rfl⟩
  have D : Hid (∀ n, Calls Tryz.prog 140 #[.pointer (some ⟨tb, 0, none⟩), .int .u32 ((x : Int) + (p : Int))] ((w.drewN m).drewN n) fun e w' => e = .returned (.slice (some ⟨rb, x + p + d + 4, none⟩) l (cap - (x + p + d + 4))) ∧ w' = (w.drewN m).drewN n) := Lib.hid fun n => byteVector_any tb 0 rb cap p (x + p) B _ ((h.drew m).drew n) hq d hd l hz hn
  clear hx h0
  go_upto_region 3 with fail
  have hsW : (w.drewN m).cell? ⟨tb, 0, none⟩ = some (.slice (some ⟨rb, 0, none⟩) (B.length : Nat) cap) := hs
  have hpW : (w.drewN m).cell? ⟨tb, 1, none⟩ = some (.int .u32 (p : Nat)) := hp
  clear hs hp h
  obtain ⟨W, hW⟩ : ∃ W, W = w.drewN m := ⟨_, rfl⟩
  rw [← hW] at hsW hpW D ⊢
  have HW := Lib.hid hW
  clear hW
  go_quiet (first | (go_at_call 140; exact Calls.quiet_of_same (D.out _)))
  go_wp2_with fail
  go_ret
  have hW := HW.out
  subst hW
  exact ⟨rfl, m + nq, World.drewN_drewN _ _ _⟩

set_option maxRecDepth 100000 in
theorem SourceLocation_File_none (tb rb cap p : Nat) (B : By) (ps : List Nat) (hx : ps.getD 0 0 = 0) (w : World) (h : TabIn w tb 0 rb cap B p) (ht : TabAt B p ps) :
    Calls Tryz.prog 166 #[.pointer (some ⟨tb, 0, none⟩)] w fun e w' => e = .returned (.slice none 0 0) ∧ ∃ m, w' = w.drewN m := by
  go_enter Tryz.func166, Tryz.ntmps166
  go_wp2_with fail
  refine (offset_any tb 0 rb cap p 0 4 (by decide) B ps 0 hx (by decide) w h ht).mono ?_
  rintro e w1 ⟨rfl, m, rfl⟩
  go_wp2_with fail
  go_ret
  exact ⟨rfl, m, rfl⟩

set_option maxRecDepth 100000 in
theorem SourceLocation_File (tb rb cap p : Nat) (B : By) (ps : List Nat) (x : Nat) (hx : ps.getD 0 0 = x) (h0 : x ≠ 0) (w : World) (h : TabIn w tb 0 rb cap B p) (ht : TabAt B p ps) (hl : x < 65536) (hq : x + p + 4 ≤ B.length) (d l : Nat) (hd : leAt B (x + p) 4 = d) (hz : x + p + d + 4 + l < B.length) (hn : leAt B (x + p + d) 4 = l) :
    Calls Tryz.prog 166 #[.pointer (some ⟨tb, 0, none⟩)] w fun e w' => e = .returned (.slice (some ⟨rb, x + p + d + 4, none⟩) l (cap - (x + p + d + 4))) ∧ ∃ m, w' = w.drewN m := by
  have hs := h.hs
  have hp : w.cell? ⟨tb, 1, none⟩ = some (.int .u32 (p : Nat)) := h.hp
  have h01 : ((x : Int) == 0) = false := by simpa using h0
  have h02 : ((x : Int) != 0) = true := by simpa using h0
  have hxl : (x : Int) < 65536 := by omega
  have hpl : (p : Int) < 2147483648 := by have := h.hq; have := h.hl; omega
  go_enter Tryz.func166, Tryz.ntmps166
  go_wp2_with fail
  refine (offset_any tb 0 rb cap p 0 4 (by decide) B ps x hx (by decide) w h ht).mono ?_
  rintro e w1 ⟨rfl, m, rfl⟩
  have D : Hid (∀ n, Calls Tryz.prog 140 #[.pointer (some ⟨tb, 0, none⟩), .int .u32 ((x : Int) + (p : Int))] ((w.drewN m).drewN n) fun e w' => e = .returned (.slice (some ⟨rb, x + p + d + 4, none⟩) l (cap - (x + p + d + 4))) ∧ w' = (w.drewN m).drewN n) := Lib.hid fun n => byteVector_any tb 0 rb cap p (x + p) B _ ((h.drew m).drew n) hq d hd l hz hn
  clear hx h0
  go_upto_region 3 with fail
  have hsW : (w.drewN m).cell? ⟨tb, 0, none⟩ = some (.slice (some ⟨rb, 0, none⟩) (B.length : Nat) cap) := hs
  have hpW : (w.drewN m).cell? ⟨tb, 1, none⟩ = some (.int .u32 (p : Nat)) := hp
  clear hs hp h
  obtain ⟨W, hW⟩ : ∃ W, W = w.drewN m := ⟨_, rfl⟩
  rw [← hW] at hsW hpW D ⊢
  have HW := Lib.hid hW
  clear hW
  go_quiet (first | (go_at_call 140; exact Calls.quiet_of_same (D.out _)))
  go_wp2_with fail
  go_ret
  have hW := HW.out
  subst hW
  exact ⟨rfl, m + nq, World.drewN_drewN _ _ _⟩

set_option maxRecDepth 100000 in
theorem SourceLocation_Source_none (tb rb cap p : Nat) (B : By) (ps : List Nat) (hx : ps.getD 3 0 = 0) (w : World) (h : TabIn w tb 0 rb cap B p) (ht : TabAt B p ps) :
    Calls Tryz.prog 170 #[.pointer (some ⟨tb, 0, none⟩)] w fun e w' => e = .returned (.slice none 0 0) ∧ ∃ m, w' = w.drewN m := by
  go_enter Tryz.func170, Tryz.ntmps170
  go_wp2_with fail
  refine (offset_any tb 0 rb cap p 3 10 (by decide) B ps 0 hx (by decide) w h ht).mono ?_
  rintro e w1 ⟨rfl, m, rfl⟩
  go_wp2_with fail
  go_ret
  exact ⟨rfl, m, rfl⟩

set_option maxRecDepth 100000 in
theorem SourceLocation_Source (tb rb cap p : Nat) (B : By) (ps : List Nat) (x : Nat) (hx : ps.getD 3 0 = x) (h0 : x ≠ 0) (w : World) (h : TabIn w tb 0 rb cap B p) (ht : TabAt B p ps) (hl : x < 65536) (hq : x + p + 4 ≤ B.length) (d l : Nat) (hd : leAt B (x + p) 4 = d) (hz : x + p + d + 4 + l < B.length) (hn : leAt B (x + p + d) 4 = l) :
    Calls Tryz.prog 170 #[.pointer (some ⟨tb, 0, none⟩)] w fun e w' => e = .returned (.slice (some ⟨rb, x + p + d + 4, none⟩) l (cap - (x + p + d + 4))) ∧ ∃ m, w' = w.drewN m := by
  have hs := h.hs
  have hp : w.cell? ⟨tb, 1, none⟩ = some (.int .u32 (p : Nat)) := h.hp
  have h01 : ((x : Int) == 0) = false := by simpa using h0
  have h02 : ((x : Int) != 0) = true := by simpa using h0
  have hxl : (x : Int) < 65536 := by omega
  have hpl : (p : Int) < 2147483648 := by have := h.hq; have := h.hl; omega
  go_enter Tryz.func170, Tryz.ntmps170
  go_wp2_with fail
  refine (offset_any tb 0 rb cap p 3 10 (by decide) B ps x hx (by decide) w h ht).mono ?_
  rintro e w1 ⟨rfl, m, rfl⟩
  have D : Hid (∀ n, Calls Tryz.prog 140 #[.pointer (some ⟨tb, 0, none⟩), .int .u32 ((x : Int) + (p : Int))] ((w.drewN m).drewN n) fun e w' => e = .returned (.slice (some ⟨rb, x + p + d + 4, none⟩) l (cap - (x + p + d + 4))) ∧ w' = (w.drewN m).drewN n) := Lib.hid fun n => byteVector_any tb 0 rb cap p (x + p) B _ ((h.drew m).drew n) hq d hd l hz hn
  clear hx h0
  go_upto_region 3 with fail
  have hsW : (w.drewN m).cell? ⟨tb, 0, none⟩ = some (.slice (some ⟨rb, 0, none⟩) (B.length : Nat) cap) := hs
  have hpW : (w.drewN m).cell? ⟨tb, 1, none⟩ = some (.int .u32 (p : Nat)) := hp
  clear hs hp h
  obtain ⟨W, hW⟩ : ∃ W, W = w.drewN m := ⟨_, rfl⟩
  rw [← hW] at hsW hpW D ⊢
  have HW := Lib.hid hW
  clear hW
  go_quiet (first | (go_at_call 140; exact Calls.quiet_of_same (D.out _)))
  go_wp2_with fail
  go_ret
  have hW := HW.out
  subst hW
  exact ⟨rfl, m + nq, World.drewN_drewN _ _ _⟩

set_option maxRecDepth 100000 in
theorem BaseNode_ErrorsLength_none (tb rb cap p : Nat) (B : By) (ps : List Nat) (hx : ps.getD 1 0 = 0) (w : World) (h : TabIn w tb 0 rb cap B p) (ht : TabAt B p ps) :
    Calls Tryz.prog 124 #[.pointer (some ⟨tb, 0, none⟩)] w fun e w' => e = .returned (.int .i64 0) ∧ ∃ m, w' = w.drewN m := by
  go_enter Tryz.func124, Tryz.ntmps124
  go_wp2_with fail
  refine (offset_any tb 0 rb cap p 1 6 (by decide) B ps 0 hx (by decide) w h ht).mono ?_
  rintro e w1 ⟨rfl, m, rfl⟩
  go_wp2_with fail
  go_ret
  exact ⟨rfl, m, rfl⟩

set_option maxRecDepth 100000 in
theorem BaseNode_ErrorsLength (tb rb cap p : Nat) (B : By) (ps : List Nat) (x : Nat) (hx : ps.getD 1 0 = x) (h0 : x ≠ 0) (w : World) (h : TabIn w tb 0 rb cap B p) (ht : TabAt B p ps) (hl : x < 65536) (hq : x + p + 4 ≤ B.length) (d l : Nat) (hd : leAt B (x + p) 4 = d) (hz : x + p + d + 4 ≤ B.length) (hn : leAt B (x + p + d) 4 = l) :
    Calls Tryz.prog 124 #[.pointer (some ⟨tb, 0, none⟩)] w fun e w' => e = .returned (.int .i64 (l : Nat)) ∧ ∃ m, w' = w.drewN m := by
  have h01 : ((x : Int) == 0) = false := by simpa using h0
  have h02 : ((x : Int) != 0) = true := by simpa using h0
  have hxl : (x : Int) < 65536 := by omega
  go_enter Tryz.func124, Tryz.ntmps124
  go_wp2_with fail
  refine (offset_any tb 0 rb cap p 1 6 (by decide) B ps x hx (by decide) w h ht).mono ?_
  rintro e w1 ⟨rfl, m, rfl⟩
  clear hx h0
  go_wp2_with fail
  refine (vectorLen_any tb 0 rb cap p x B _ (h.drew m) hq d hd l hz hn).mono ?_
  rintro e w1 ⟨rfl, rfl⟩
  go_wp2_with fail
  go_ret
  exact ⟨rfl, m, rfl⟩

set_option maxRecDepth 100000 in
theorem BaseNode_CommentsLength_none (tb rb cap p : Nat) (B : By) (ps : List Nat) (hx : ps.getD 2 0 = 0) (w : World) (h : TabIn w tb 0 rb cap B p) (ht : TabAt B p ps) :
    Calls Tryz.prog 126 #[.pointer (some ⟨tb, 0, none⟩)] w fun e w' => e = .returned (.int .i64 0) ∧ ∃ m, w' = w.drewN m := by
  go_enter Tryz.func126, Tryz.ntmps126
  go_wp2_with fail
  refine (offset_any tb 0 rb cap p 2 8 (by decide) B ps 0 hx (by decide) w h ht).mono ?_
  rintro e w1 ⟨rfl, m, rfl⟩
  go_wp2_with fail
  go_ret
  exact ⟨rfl, m, rfl⟩

set_option maxRecDepth 100000 in
theorem BaseNode_CommentsLength (tb rb cap p : Nat) (B : By) (ps : List Nat) (x : Nat) (hx : ps.getD 2 0 = x) (h0 : x ≠ 0) (w : World) (h : TabIn w tb 0 rb cap B p) (ht : TabAt B p ps) (hl : x < 65536) (hq : x + p + 4 ≤ B.length) (d l : Nat) (hd : leAt B (x + p) 4 = d) (hz : x + p + d + 4 ≤ B.length) (hn : leAt B (x + p + d) 4 = l) :
    Calls Tryz.prog 126 #[.pointer (some ⟨tb, 0, none⟩)] w fun e w' => e = .returned (.int .i64 (l : Nat)) ∧ ∃ m, w' = w.drewN m := by
  have h01 : ((x : Int) == 0) = false := by simpa using h0
  have h02 : ((x : Int) != 0) = true := by simpa using h0
  have hxl : (x : Int) < 65536 := by omega
  go_enter Tryz.func126, Tryz.ntmps126
  go_wp2_with fail
  refine (offset_any tb 0 rb cap p 2 8 (by decide) B ps x hx (by decide) w h ht).mono ?_
  rintro e w1 ⟨rfl, m, rfl⟩
  clear hx h0
  go_wp2_with fail
  refine (vectorLen_any tb 0 rb cap p x B _ (h.drew m) hq d hd l hz hn).mono ?_
  rintro e w1 ⟨rfl, rfl⟩
  go_wp2_with fail
  go_ret
  exact ⟨rfl, m, rfl⟩

set_option maxRecDepth 100000 in
theorem TypeConstraint_KindsLength_none (tb rb cap p : Nat) (B : By) (ps : List Nat) (hx : ps.getD 2 0 = 0) (w : World) (h : TabIn w tb 0 rb cap B p) (ht : TabAt B p ps) :
    Calls Tryz.prog 105 #[.pointer (some ⟨tb, 0, none⟩)] w fun e w' => e = .returned (.int .i64 0) ∧ ∃ m, w' = w.drewN m := by
  go_enter Tryz.func105, Tryz.ntmps105
  go_wp2_with fail
  refine (offset_any tb 0 rb cap p 2 8 (by decide) B ps 0 hx (by decide) w h ht).mono ?_
  rintro e w1 ⟨rfl, m, rfl⟩
  go_wp2_with fail
  go_ret
  exact ⟨rfl, m, rfl⟩

set_option maxRecDepth 100000 in
theorem TypeConstraint_KindsLength (tb rb cap p : Nat) (B : By) (ps : List Nat) (x : Nat) (hx : ps.getD 2 0 = x) (h0 : x ≠ 0) (w : World) (h : TabIn w tb 0 rb cap B p) (ht : TabAt B p ps) (hl : x < 65536) (hq : x + p + 4 ≤ B.length) (d l : Nat) (hd : leAt B (x + p) 4 = d) (hz : x + p + d + 4 ≤ B.length) (hn : leAt B (x + p + d) 4 = l) :
    Calls Tryz.prog 105 #[.pointer (some ⟨tb, 0, none⟩)] w fun e w' => e = .returned (.int .i64 (l : Nat)) ∧ ∃ m, w' = w.drewN m := by
  have h01 : ((x : Int) == 0) = false := by simpa using h0
  have h02 : ((x : Int) != 0) = true := by simpa using h0
  have hxl : (x : Int) < 65536 := by omega
  go_enter Tryz.func105, Tryz.ntmps105
  go_wp2_with fail
  refine (offset_any tb 0 rb cap p 2 8 (by decide) B ps x hx (by decide) w h ht).mono ?_
  rintro e w1 ⟨rfl, m, rfl⟩
  clear hx h0
  go_wp2_with fail
  refine (vectorLen_any tb 0 rb cap p x B _ (h.drew m) hq d hd l hz hn).mono ?_
  rintro e w1 ⟨rfl, rfl⟩
  go_wp2_with fail
  go_ret
  exact ⟨rfl, m, rfl⟩

set_option maxRecDepth 100000 in
theorem PipeLiteral_BaseNode_none (tb rb cap p : Nat) (B : By) (ps : List Nat) (hx : ps.getD 0 0 = 0) (w : World) (h : TabIn w tb 0 rb cap B p) (ht : TabAt B p ps) :
    Calls Tryz.prog 72 #[.pointer (some ⟨tb, 0, none⟩), .pointer none] w fun e w' => e = .returned (.pointer none) ∧ ∃ m, w' = w.drewN m := by
  go_enter Tryz.func72, Tryz.ntmps72
  go_wp2_with fail
  refine (offset_any tb 0 rb cap p 0 4 (by decide) B ps 0 hx (by decide) w h ht).mono ?_
  rintro e w1 ⟨rfl, m, rfl⟩
  go_wp2_with fail
  go_ret
  exact ⟨rfl, m, rfl⟩

set_option maxRecDepth 100000 in
theorem PipeLiteral_BaseNode (tb rb cap p : Nat) (B : By) (ps : List Nat) (x : Nat) (hx : ps.getD 0 0 = x) (h0 : x ≠ 0) (w : World) (h : TabIn w tb 0 rb cap B p) (ht : TabAt B p ps) (hl : x < 65536) (hq : x + p + 4 ≤ B.length) (d : Nat) (hd : leAt B (x + p) 4 = d) (hz : x + p + d < B.length) :
    Calls Tryz.prog 72 #[.pointer (some ⟨tb, 0, none⟩), .pointer none] w fun e w' => ∃ k, e = .returned (.pointer (some ⟨k, 0, none⟩)) ∧ w.heap.size ≤ k ∧ TabIn w' k 0 rb cap B (x + p + d) ∧ Below w.heap.size w w' := by
  have hs := h.hs
  have hp : w.cell? ⟨tb, 1, none⟩ = some (.int .u32 (p : Nat)) := h.hp
  have h01 : ((x : Int) == 0) = false := by simpa using h0
  have h02 : ((x : Int) != 0) = true := by simpa using h0
  have hxl : (x : Int) < 65536 := by omega
  have hpl : (p : Int) < 2147483648 := by have := h.hq; have := h.hl; omega
  have hrb := h.hi.lt (by have := h.hq; omega)
  go_enter Tryz.func72, Tryz.ntmps72
  go_wp2_with fail
  refine (offset_any tb 0 rb cap p 0 4 (by decide) B ps x hx (by decide) w h ht).mono ?_
  rintro e w1 ⟨rfl, m, rfl⟩
  have D : Hid (∀ n, Calls Tryz.prog 130 #[.pointer (some ⟨tb, 0, none⟩), .int .u32 ((x : Int) + (p : Int))] ((w.drewN m).drewN n) fun e w' => e = .returned (.int .u32 (x + p + d : Nat)) ∧ w' = (w.drewN m).drewN n) := Lib.hid fun n => indirect_any tb 0 rb cap p (x + p) B _ ((h.drew m).drew n) hq d hd hz
  clear hx h0
  go_upto_region 3 with fail
  have hsW : (w.drewN m).cell? ⟨tb, 0, none⟩ = some (.slice (some ⟨rb, 0, none⟩) (B.length : Nat) cap) := hs
  have hpW : (w.drewN m).cell? ⟨tb, 1, none⟩ = some (.int .u32 (p : Nat)) := hp
  have hzW : (w.drewN m).heap.size = w.heap.size := rfl
  have HBW := Lib.hid (below_drewN' (Below.refl w.heap.size w) m)
  have HI := Lib.hid (h.drew m)
  clear hs hp h
  obtain ⟨W, hW⟩ : ∃ W, W = w.drewN m := ⟨_, rfl⟩
  rw [← hW] at hsW hpW D hzW HBW HI ⊢
  clear hW
  go_quiet (first | (go_at_call 130; exact Calls.quiet_of_same (D.out _)))
  have hzq : (W.drewN nq).heap.size = w.heap.size := hzW
  have HBQ := Lib.hid (below_drewN' HBW.out nq)
  have HIQ := Lib.hid (HI.out.drew nq)
  clear hzW hsW hpW D HBW HI
  generalize W.drewN nq = V at *
  have hsV := HIQ.out.hs
  have HZ := Lib.hid hzq
  clear h01 h02 hxl hpl hzq
  go_upto_region 6 with fail
  obtain ⟨ka0, ka1, kf0, kf1⟩ := two_new V (.slice none 0 0) (.int .u32 0) 354
  have HBA := Lib.hid (Below.alloc HBQ.out (Nat.le_of_eq HZ.out.symm) (.cells #[.slice none 0 0, .int .u32 0] 354))
  have hsA := (World.cell?_alloc_old V (.cells #[.slice none 0 0, .int .u32 0] 354) ⟨tb, 0, none⟩ (Nat.ne_of_lt (World.block_lt_of_cell? V _ hsV))).trans hsV
  obtain ⟨k, hk⟩ : ∃ k, k = V.heap.size := ⟨_, rfl⟩
  rw [← hk] at ka0 ka1 kf0 kf1 ⊢
  have HK := Lib.hid hk
  clear hsV hk
  generalize V.alloc (.cells #[.slice none 0 0, .int .u32 0] 354) = U at *
  have hkw : w.heap.size ≤ k := by rw [HK.out, HZ.out]; exact Nat.le_refl _
  go_wp2_with fail
  refine (init_BaseNode k rb cap (x + p + d) B _ _ U ka0 ka1 kf0 kf1 ((HIQ.out.hi).below0 HBQ.out HBA.out hrb) (by omega) HIQ.out.hc HIQ.out.hl hz).mono ?_
  rintro e w1 ⟨rfl, hT, hB1⟩
  clear ka0 ka1 kf0 kf1 hsA
  go_wp2_with fail
  go_ret
  exact ⟨k, rfl, hkw, hT, HBA.out.trans (hB1.mono hkw)⟩

set_option maxRecDepth 100000 in
theorem RegexpLiteral_BaseNode_none (tb rb cap p : Nat) (B : By) (ps : List Nat) (hx : ps.getD 0 0 = 0) (w : World) (h : TabIn w tb 0 rb cap B p) (ht : TabAt B p ps) :
    Calls Tryz.prog 79 #[.pointer (some ⟨tb, 0, none⟩), .pointer none] w fun e w' => e = .returned (.pointer none) ∧ ∃ m, w' = w.drewN m := by
  go_enter Tryz.func79, Tryz.ntmps79
  go_wp2_with fail
  refine (offset_any tb 0 rb cap p 0 4 (by decide) B ps 0 hx (by decide) w h ht).mono ?_
  rintro e w1 ⟨rfl, m, rfl⟩
  go_wp2_with fail
  go_ret
  exact ⟨rfl, m, rfl⟩

set_option maxRecDepth 100000 in
theorem RegexpLiteral_BaseNode (tb rb cap p : Nat) (B : By) (ps : List Nat) (x : Nat) (hx : ps.getD 0 0 = x) (h0 : x ≠ 0) (w : World) (h : TabIn w tb 0 rb cap B p) (ht : TabAt B p ps) (hl : x < 65536) (hq : x + p + 4 ≤ B.length) (d : Nat) (hd : leAt B (x + p) 4 = d) (hz : x + p + d < B.length) :
    Calls Tryz.prog 79 #[.pointer (some ⟨tb, 0, none⟩), .pointer none] w fun e w' => ∃ k, e = .returned (.pointer (some ⟨k, 0, none⟩)) ∧ w.heap.size ≤ k ∧ TabIn w' k 0 rb cap B (x + p + d) ∧ Below w.heap.size w w' := by
  have hs := h.hs
  have hp : w.cell? ⟨tb, 1, none⟩ = some (.int .u32 (p : Nat)) := h.hp
  have h01 : ((x : Int) == 0) = false := by simpa using h0
  have h02 : ((x : Int) != 0) = true := by simpa using h0
  have hxl : (x : Int) < 65536 := by omega
  have hpl : (p : Int) < 2147483648 := by have := h.hq; have := h.hl; omega
  have hrb := h.hi.lt (by have := h.hq; omega)
  go_enter Tryz.func79, Tryz.ntmps79
  go_wp2_with fail
  refine (offset_any tb 0 rb cap p 0 4 (by decide) B ps x hx (by decide) w h ht).mono ?_
  rintro e w1 ⟨rfl, m, rfl⟩
  have D : Hid (∀ n, Calls Tryz.prog 130 #[.pointer (some ⟨tb, 0, none⟩), .int .u32 ((x : Int) + (p : Int))] ((w.drewN m).drewN n) fun e w' => e = .returned (.int .u32 (x + p + d : Nat)) ∧ w' = (w.drewN m).drewN n) := Lib.hid fun n => indirect_any tb 0 rb cap p (x + p) B _ ((h.drew m).drew n) hq d hd hz
  clear hx h0
  go_upto_region 3 with fail
  have hsW : (w.drewN m).cell? ⟨tb, 0, none⟩ = some (.slice (some ⟨rb, 0, none⟩) (B.length : Nat) cap) := hs
  have hpW : (w.drewN m).cell? ⟨tb, 1, none⟩ = some (.int .u32 (p : Nat)) := hp
  have hzW : (w.drewN m).heap.size = w.heap.size := rfl
  have HBW := Lib.hid (below_drewN' (Below.refl w.heap.size w) m)
  have HI := Lib.hid (h.drew m)
  clear hs hp h
  obtain ⟨W, hW⟩ : ∃ W, W = w.drewN m := ⟨_, rfl⟩
  rw [← hW] at hsW hpW D hzW HBW HI ⊢
  clear hW
  go_quiet (first | (go_at_call 130; exact Calls.quiet_of_same (D.out _)))
  have hzq : (W.drewN nq).heap.size = w.heap.size := hzW
  have HBQ := Lib.hid (below_drewN' HBW.out nq)
  have HIQ := Lib.hid (HI.out.drew nq)
  clear hzW hsW hpW D HBW HI
  generalize W.drewN nq = V at *
  have hsV := HIQ.out.hs
  have HZ := Lib.hid hzq
  clear h01 h02 hxl hpl hzq
  go_upto_region 6 with fail
  obtain ⟨ka0, ka1, kf0, kf1⟩ := two_new V (.slice none 0 0) (.int .u32 0) 354
  have HBA := Lib.hid (Below.alloc HBQ.out (Nat.le_of_eq HZ.out.symm) (.cells #[.slice none 0 0, .int .u32 0] 354))
  have hsA := (World.cell?_alloc_old V (.cells #[.slice none 0 0, .int .u32 0] 354) ⟨tb, 0, none⟩ (Nat.ne_of_lt (World.block_lt_of_cell? V _ hsV))).trans hsV
  obtain ⟨k, hk⟩ : ∃ k, k = V.heap.size := ⟨_, rfl⟩
  rw [← hk] at ka0 ka1 kf0 kf1 ⊢
  have HK := Lib.hid hk
  clear hsV hk
  generalize V.alloc (.cells #[.slice none 0 0, .int .u32 0] 354) = U at *
  have hkw : w.heap.size ≤ k := by rw [HK.out, HZ.out]; exact Nat.le_refl _
  go_wp2_with fail
  refine (init_BaseNode k rb cap (x + p + d) B _ _ U ka0 ka1 kf0 kf1 ((HIQ.out.hi).below0 HBQ.out HBA.out hrb) (by omega) HIQ.out.hc HIQ.out.hl hz).mono ?_
  rintro e w1 ⟨rfl, hT, hB1⟩
  clear ka0 ka1 kf0 kf1 hsA
  go_wp2_with fail
  go_ret
  exact ⟨k, rfl, hkw, hT, HBA.out.trans (hB1.mono hkw)⟩

set_option maxRecDepth 100000 in
theorem BooleanLiteral_BaseNode_none (tb rb cap p : Nat) (B : By) (ps : List Nat) (hx : ps.getD 0 0 = 0) (w : World) (h : TabIn w tb 0 rb cap B p) (ht : TabAt B p ps) :
    Calls Tryz.prog 83 #[.pointer (some ⟨tb, 0, none⟩), .pointer none] w fun e w' => e = .returned (.pointer none) ∧ ∃ m, w' = w.drewN m := by
  go_enter Tryz.func83, Tryz.ntmps83
  go_wp2_with fail
  refine (offset_any tb 0 rb cap p 0 4 (by decide) B ps 0 hx (by decide) w h ht).mono ?_
  rintro e w1 ⟨rfl, m, rfl⟩
  go_wp2_with fail
  go_ret
  exact ⟨rfl, m, rfl⟩

set_option maxRecDepth 100000 in
theorem BooleanLiteral_BaseNode (tb rb cap p : Nat) (B : By) (ps : List Nat) (x : Nat) (hx : ps.getD 0 0 = x) (h0 : x ≠ 0) (w : World) (h : TabIn w tb 0 rb cap B p) (ht : TabAt B p ps) (hl : x < 65536) (hq : x + p + 4 ≤ B.length) (d : Nat) (hd : leAt B (x + p) 4 = d) (hz : x + p + d < B.length) :
    Calls Tryz.prog 83 #[.pointer (some ⟨tb, 0, none⟩), .pointer none] w fun e w' => ∃ k, e = .returned (.pointer (some ⟨k, 0, none⟩)) ∧ w.heap.size ≤ k ∧ TabIn w' k 0 rb cap B (x + p + d) ∧ Below w.heap.size w w' := by
  have hs := h.hs
  have hp : w.cell? ⟨tb, 1, none⟩ = some (.int .u32 (p : Nat)) := h.hp
  have h01 : ((x : Int) == 0) = false := by simpa using h0
  have h02 : ((x : Int) != 0) = true := by simpa using h0
  have hxl : (x : Int) < 65536 := by omega
  have hpl : (p : Int) < 2147483648 := by have := h.hq; have := h.hl; omega
  have hrb := h.hi.lt (by have := h.hq; omega)
  go_enter Tryz.func83, Tryz.ntmps83
  go_wp2_with fail
  refine (offset_any tb 0 rb cap p 0 4 (by decide) B ps x hx (by decide) w h ht).mono ?_
  rintro e w1 ⟨rfl, m, rfl⟩
  have D : Hid (∀ n, Calls Tryz.prog 130 #[.pointer (some ⟨tb, 0, none⟩), .int .u32 ((x : Int) + (p : Int))] ((w.drewN m).drewN n) fun e w' => e = .returned (.int .u32 (x + p + d : Nat)) ∧ w' = (w.drewN m).drewN n) := Lib.hid fun n => indirect_any tb 0 rb cap p (x + p) B _ ((h.drew m).drew n) hq d hd hz
  clear hx h0
  go_upto_region 3 with fail
  have hsW : (w.drewN m).cell? ⟨tb, 0, none⟩ = some (.slice (some ⟨rb, 0, none⟩) (B.length : Nat) cap) := hs
  have hpW : (w.drewN m).cell? ⟨tb, 1, none⟩ = some (.int .u32 (p : Nat)) := hp
  have hzW : (w.drewN m).heap.size = w.heap.size := rfl
  have HBW := Lib.hid (below_drewN' (Below.refl w.heap.size w) m)
  have HI := Lib.hid (h.drew m)
  clear hs hp h
  obtain ⟨W, hW⟩ : ∃ W, W = w.drewN m := ⟨_, rfl⟩
  rw [← hW] at hsW hpW D hzW HBW HI ⊢
  clear hW
  go_quiet (first | (go_at_call 130; exact Calls.quiet_of_same (D.out _)))
  have hzq : (W.drewN nq).heap.size = w.heap.size := hzW
  have HBQ := Lib.hid (below_drewN' HBW.out nq)
  have HIQ := Lib.hid (HI.out.drew nq)
  clear hzW hsW hpW D HBW HI
  generalize W.drewN nq = V at *
  have hsV := HIQ.out.hs
  have HZ := Lib.hid hzq
  clear h01 h02 hxl hpl hzq
  go_upto_region 6 with fail
  obtain ⟨ka0, ka1, kf0, kf1⟩ := two_new V (.slice none 0 0) (.int .u32 0) 354
  have HBA := Lib.hid (Below.alloc HBQ.out (Nat.le_of_eq HZ.out.symm) (.cells #[.slice none 0 0, .int .u32 0] 354))
  have hsA := (World.cell?_alloc_old V (.cells #[.slice none 0 0, .int .u32 0] 354) ⟨tb, 0, none⟩ (Nat.ne_of_lt (World.block_lt_of_cell? V _ hsV))).trans hsV
  obtain ⟨k, hk⟩ : ∃ k, k = V.heap.size := ⟨_, rfl⟩
  rw [← hk] at ka0 ka1 kf0 kf1 ⊢
  have HK := Lib.hid hk
  clear hsV hk
  generalize V.alloc (.cells #[.slice none 0 0, .int .u32 0] 354) = U at *
  have hkw : w.heap.size ≤ k := by rw [HK.out, HZ.out]; exact Nat.le_refl _
  go_wp2_with fail
  refine (init_BaseNode k rb cap (x + p + d) B _ _ U ka0 ka1 kf0 kf1 ((HIQ.out.hi).below0 HBQ.out HBA.out hrb) (by omega) HIQ.out.hc HIQ.out.hl hz).mono ?_
  rintro e w1 ⟨rfl, hT, hB1⟩
  clear ka0 ka1 kf0 kf1 hsA
  go_wp2_with fail
  go_ret
  exact ⟨k, rfl, hkw, hT, HBA.out.trans (hB1.mono hkw)⟩

set_option maxRecDepth 100000 in
theorem IntegerLiteral_BaseNode_none (tb rb cap p : Nat) (B : By) (ps : List Nat) (hx : ps.getD 0 0 = 0) (w : World) (h : TabIn w tb 0 rb cap B p) (ht : TabAt B p ps) :
    Calls Tryz.prog 86 #[.pointer (some ⟨tb, 0, none⟩), .pointer none] w fun e w' => e = .returned (.pointer none) ∧ ∃ m, w' = w.drewN m := by
  go_enter Tryz.func86, Tryz.ntmps86
  go_wp2_with fail
  refine (offset_any tb 0 rb cap p 0 4 (by decide) B ps 0 hx (by decide) w h ht).mono ?_
  rintro e w1 ⟨rfl, m, rfl⟩
  go_wp2_with fail
  go_ret
  exact ⟨rfl, m, rfl⟩

set_option maxRecDepth 100000 in
theorem IntegerLiteral_BaseNode (tb rb cap p : Nat) (B : By) (ps : List Nat) (x : Nat) (hx : ps.getD 0 0 = x) (h0 : x ≠ 0) (w : World) (h : TabIn w tb 0 rb cap B p) (ht : TabAt B p ps) (hl : x < 65536) (hq : x + p + 4 ≤ B.length) (d : Nat) (hd : leAt B (x + p) 4 = d) (hz : x + p + d < B.length) :
    Calls Tryz.prog 86 #[.pointer (some ⟨tb, 0, none⟩), .pointer none] w fun e w' => ∃ k, e = .returned (.pointer (some ⟨k, 0, none⟩)) ∧ w.heap.size ≤ k ∧ TabIn w' k 0 rb cap B (x + p + d) ∧ Below w.heap.size w w' := by
  have hs := h.hs
  have hp : w.cell? ⟨tb, 1, none⟩ = some (.int .u32 (p : Nat)) := h.hp
  have h01 : ((x : Int) == 0) = false := by simpa using h0
  have h02 : ((x : Int) != 0) = true := by simpa using h0
  have hxl : (x : Int) < 65536 := by omega
  have hpl : (p : Int) < 2147483648 := by have := h.hq; have := h.hl; omega
  have hrb := h.hi.lt (by have := h.hq; omega)
  go_enter Tryz.func86, Tryz.ntmps86
  go_wp2_with fail
  refine (offset_any tb 0 rb cap p 0 4 (by decide) B ps x hx (by decide) w h ht).mono ?_
  rintro e w1 ⟨rfl, m, rfl⟩
  have D : Hid (∀ n, Calls Tryz.prog 130 #[.pointer (some ⟨tb, 0, none⟩), .int .u32 ((x : Int) + (p : Int))] ((w.drewN m).drewN n) fun e w' => e = .returned (.int .u32 (x + p + d : Nat)) ∧ w' = (w.drewN m).drewN n) := Lib.hid fun n => indirect_any tb 0 rb cap p (x + p) B _ ((h.drew m).drew n) hq d hd hz
  clear hx h0
  go_upto_region 3 with fail
  have hsW : (w.drewN m).cell? ⟨tb, 0, none⟩ = some (.slice (some ⟨rb, 0, none⟩) (B.length : Nat) cap) := hs
  have hpW : (w.drewN m).cell? ⟨tb, 1, none⟩ = some (.int .u32 (p : Nat)) := hp
  have hzW : (w.drewN m).heap.size = w.heap.size := rfl
  have HBW := Lib.hid (below_drewN' (Below.refl w.heap.size w) m)
  have HI := Lib.hid (h.drew m)
  clear hs hp h
  obtain ⟨W, hW⟩ : ∃ W, W = w.drewN m := ⟨_, rfl⟩
  rw [← hW] at hsW hpW D hzW HBW HI ⊢
  clear hW
  go_quiet (first | (go_at_call 130; exact Calls.quiet_of_same (D.out _)))
  have hzq : (W.drewN nq).heap.size = w.heap.size := hzW
  have HBQ := Lib.hid (below_drewN' HBW.out nq)
  have HIQ := Lib.hid (HI.out.drew nq)
  clear hzW hsW hpW D HBW HI
  generalize W.drewN nq = V at *
  have hsV := HIQ.out.hs
  have HZ := Lib.hid hzq
  clear h01 h02 hxl hpl hzq
  go_upto_region 6 with fail
  obtain ⟨ka0, ka1, kf0, kf1⟩ := two_new V (.slice none 0 0) (.int .u32 0) 354
  have HBA := Lib.hid (Below.alloc HBQ.out (Nat.le_of_eq HZ.out.symm) (.cells #[.slice none 0 0, .int .u32 0] 354))
  have hsA := (World.cell?_alloc_old V (.cells #[.slice none 0 0, .int .u32 0] 354) ⟨tb, 0, none⟩ (Nat.ne_of_lt (World.block_lt_of_cell? V _ hsV))).trans hsV
  obtain ⟨k, hk⟩ : ∃ k, k = V.heap.size := ⟨_, rfl⟩
  rw [← hk] at ka0 ka1 kf0 kf1 ⊢
  have HK := Lib.hid hk
  clear hsV hk
  generalize V.alloc (.cells #[.slice none 0 0, .int .u32 0] 354) = U at *
  have hkw : w.heap.size ≤ k := by rw [HK.out, HZ.out]; exact Nat.le_refl _
  go_wp2_with fail
  refine (init_BaseNode k rb cap (x + p + d) B _ _ U ka0 ka1 kf0 kf1 ((HIQ.out.hi).below0 HBQ.out HBA.out hrb) (by omega) HIQ.out.hc HIQ.out.hl hz).mono ?_
  rintro e w1 ⟨rfl, hT, hB1⟩
  clear ka0 ka1 kf0 kf1 hsA
  go_wp2_with fail
  go_ret
  exact ⟨k, rfl, hkw, hT, HBA.out.trans (hB1.mono hkw)⟩

set_option maxRecDepth 100000 in
theorem NamedType_BaseNode_none (tb rb cap p : Nat) (B : By) (ps : List Nat) (hx : ps.getD 0 0 = 0) (w : World) (h : TabIn w tb 0 rb cap B p) (ht : TabAt B p ps) :
    Calls Tryz.prog 89 #[.pointer (some ⟨tb, 0, none⟩), .pointer none] w fun e w' => e = .returned (.pointer none) ∧ ∃ m, w' = w.drewN m := by
  go_enter Tryz.func89, Tryz.ntmps89
  go_wp2_with fail
  refine (offset_any tb 0 rb cap p 0 4 (by decide) B ps 0 hx (by decide) w h ht).mono ?_
  rintro e w1 ⟨rfl, m, rfl⟩
  go_wp2_with fail
  go_ret
  exact ⟨rfl, m, rfl⟩

set_option maxRecDepth 100000 in
theorem NamedType_BaseNode (tb rb cap p : Nat) (B : By) (ps : List Nat) (x : Nat) (hx : ps.getD 0 0 = x) (h0 : x ≠ 0) (w : World) (h : TabIn w tb 0 rb cap B p) (ht : TabAt B p ps) (hl : x < 65536) (hq : x + p + 4 ≤ B.length) (d : Nat) (hd : leAt B (x + p) 4 = d) (hz : x + p + d < B.length) :
    Calls Tryz.prog 89 #[.pointer (some ⟨tb, 0, none⟩), .pointer none] w fun e w' => ∃ k, e = .returned (.pointer (some ⟨k, 0, none⟩)) ∧ w.heap.size ≤ k ∧ TabIn w' k 0 rb cap B (x + p + d) ∧ Below w.heap.size w w' := by
  have hs := h.hs
  have hp : w.cell? ⟨tb, 1, none⟩ = some (.int .u32 (p : Nat)) := h.hp
  have h01 : ((x : Int) == 0) = false := by simpa using h0
  have h02 : ((x : Int) != 0) = true := by simpa using h0
  have hxl : (x : Int) < 65536 := by omega
  have hpl : (p : Int) < 2147483648 := by have := h.hq; have := h.hl; omega
  have hrb := h.hi.lt (by have := h.hq; omega)
  go_enter Tryz.func89, Tryz.ntmps89
  go_wp2_with fail
  refine (offset_any tb 0 rb cap p 0 4 (by decide) B ps x hx (by decide) w h ht).mono ?_
  rintro e w1 ⟨rfl, m, rfl⟩
  have D : Hid (∀ n, Calls Tryz.prog 130 #[.pointer (some ⟨tb, 0, none⟩), .int .u32 ((x : Int) + (p : Int))] ((w.drewN m).drewN n) fun e w' => e = .returned (.int .u32 (x + p + d : Nat)) ∧ w' = (w.drewN m).drewN n) := Lib.hid fun n => indirect_any tb 0 rb cap p (x + p) B _ ((h.drew m).drew n) hq d hd hz
  clear hx h0
  go_upto_region 3 with fail
  have hsW : (w.drewN m).cell? ⟨tb, 0, none⟩ = some (.slice (some ⟨rb, 0, none⟩) (B.length : Nat) cap) := hs
  have hpW : (w.drewN m).cell? ⟨tb, 1, none⟩ = some (.int .u32 (p : Nat)) := hp
  have hzW : (w.drewN m).heap.size = w.heap.size := rfl
  have HBW := Lib.hid (below_drewN' (Below.refl w.heap.size w) m)
  have HI := Lib.hid (h.drew m)
  clear hs hp h
  obtain ⟨W, hW⟩ : ∃ W, W = w.drewN m := ⟨_, rfl⟩
  rw [← hW] at hsW hpW D hzW HBW HI ⊢
  clear hW
  go_quiet (first | (go_at_call 130; exact Calls.quiet_of_same (D.out _)))
  have hzq : (W.drewN nq).heap.size = w.heap.size := hzW
  have HBQ := Lib.hid (below_drewN' HBW.out nq)
  have HIQ := Lib.hid (HI.out.drew nq)
  clear hzW hsW hpW D HBW HI
  generalize W.drewN nq = V at *
  have hsV := HIQ.out.hs
  have HZ := Lib.hid hzq
  clear h01 h02 hxl hpl hzq
  go_upto_region 6 with fail
  obtain ⟨ka0, ka1, kf0, kf1⟩ := two_new V (.slice none 0 0) (.int .u32 0) 354
  have HBA := Lib.hid (Below.alloc HBQ.out (Nat.le_of_eq HZ.out.symm) (.cells #[.slice none 0 0, .int .u32 0] 354))
  have hsA := (World.cell?_alloc_old V (.cells #[.slice none 0 0, .int .u32 0] 354) ⟨tb, 0, none⟩ (Nat.ne_of_lt (World.block_lt_of_cell? V _ hsV))).trans hsV
  obtain ⟨k, hk⟩ : ∃ k, k = V.heap.size := ⟨_, rfl⟩
  rw [← hk] at ka0 ka1 kf0 kf1 ⊢
  have HK := Lib.hid hk
  clear hsV hk
  generalize V.alloc (.cells #[.slice none 0 0, .int .u32 0] 354) = U at *
  have hkw : w.heap.size ≤ k := by rw [HK.out, HZ.out]; exact Nat.le_refl _
  go_wp2_with fail
  refine (init_BaseNode k rb cap (x + p + d) B _ _ U ka0 ka1 kf0 kf1 ((HIQ.out.hi).below0 HBQ.out HBA.out hrb) (by omega) HIQ.out.hc HIQ.out.hl hz).mono ?_
  rintro e w1 ⟨rfl, hT, hB1⟩
  clear ka0 ka1 kf0 kf1 hsA
  go_wp2_with fail
  go_ret
  exact ⟨k, rfl, hkw, hT, HBA.out.trans (hB1.mono hkw)⟩

set_option maxRecDepth 100000 in
theorem PackageClause_BaseNode_none (tb rb cap p : Nat) (B : By) (ps : List Nat) (hx : ps.getD 0 0 = 0) (w : World) (h : TabIn w tb 0 rb cap B p) (ht : TabAt B p ps) :
    Calls Tryz.prog 93 #[.pointer (some ⟨tb, 0, none⟩), .pointer none] w fun e w' => e = .returned (.pointer none) ∧ ∃ m, w' = w.drewN m := by
  go_enter Tryz.func93, Tryz.ntmps93
  go_wp2_with fail
  refine (offset_any tb 0 rb cap p 0 4 (by decide) B ps 0 hx (by decide) w h ht).mono ?_
  rintro e w1 ⟨rfl, m, rfl⟩
  go_wp2_with fail
  go_ret
  exact ⟨rfl, m, rfl⟩

set_option maxRecDepth 100000 in
theorem PackageClause_BaseNode (tb rb cap p : Nat) (B : By) (ps : List Nat) (x : Nat) (hx : ps.getD 0 0 = x) (h0 : x ≠ 0) (w : World) (h : TabIn w tb 0 rb cap B p) (ht : TabAt B p ps) (hl : x < 65536) (hq : x + p + 4 ≤ B.length) (d : Nat) (hd : leAt B (x + p) 4 = d) (hz : x + p + d < B.length) :
    Calls Tryz.prog 93 #[.pointer (some ⟨tb, 0, none⟩), .pointer none] w fun e w' => ∃ k, e = .returned (.pointer (some ⟨k, 0, none⟩)) ∧ w.heap.size ≤ k ∧ TabIn w' k 0 rb cap B (x + p + d) ∧ Below w.heap.size w w' := by
  have hs := h.hs
  have hp : w.cell? ⟨tb, 1, none⟩ = some (.int .u32 (p : Nat)) := h.hp
  have h01 : ((x : Int) == 0) = false := by simpa using h0
  have h02 : ((x : Int) != 0) = true := by simpa using h0
  have hxl : (x : Int) < 65536 := by omega
  have hpl : (p : Int) < 2147483648 := by have := h.hq; have := h.hl; omega
  have hrb := h.hi.lt (by have := h.hq; omega)
  go_enter Tryz.func93, Tryz.ntmps93
  go_wp2_with fail
  refine (offset_any tb 0 rb cap p 0 4 (by decide) B ps x hx (by decide) w h ht).mono ?_
  rintro e w1 ⟨rfl, m, rfl⟩
  have D : Hid (∀ n, Calls Tryz.prog 130 #[.pointer (some ⟨tb, 0, none⟩), .int .u32 ((x : Int) + (p : Int))] ((w.drewN m).drewN n) fun e w' => e = .returned (.int .u32 (x + p + d : Nat)) ∧ w' = (w.drewN m).drewN n) := Lib.hid fun n => indirect_any tb 0 rb cap p (x + p) B _ ((h.drew m).drew n) hq d hd hz
  clear hx h0
  go_upto_region 3 with fail
  have hsW : (w.drewN m).cell? ⟨tb, 0, none⟩ = some (.slice (some ⟨rb, 0, none⟩) (B.length : Nat) cap) := hs
  have hpW : (w.drewN m).cell? ⟨tb, 1, none⟩ = some (.int .u32 (p : Nat)) := hp
  have hzW : (w.drewN m).heap.size = w.heap.size := rfl
  have HBW := Lib.hid (below_drewN' (Below.refl w.heap.size w) m)
  have HI := Lib.hid (h.drew m)
  clear hs hp h
  obtain ⟨W, hW⟩ : ∃ W, W = w.drewN m := ⟨_, rfl⟩
  rw [← hW] at hsW hpW D hzW HBW HI ⊢
  clear hW
  go_quiet (first | (go_at_call 130; exact Calls.quiet_of_same (D.out _)))
  have hzq : (W.drewN nq).heap.size = w.heap.size := hzW
  have HBQ := Lib.hid (below_drewN' HBW.out nq)
  have HIQ := Lib.hid (HI.out.drew nq)
  clear hzW hsW hpW D HBW HI
  generalize W.drewN nq = V at *
  have hsV := HIQ.out.hs
  have HZ := Lib.hid hzq
  clear h01 h02 hxl hpl hzq
  go_upto_region 6 with fail
  obtain ⟨ka0, ka1, kf0, kf1⟩ := two_new V (.slice none 0 0) (.int .u32 0) 354
  have HBA := Lib.hid (Below.alloc HBQ.out (Nat.le_of_eq HZ.out.symm) (.cells #[.slice none 0 0, .int .u32 0] 354))
  have hsA := (World.cell?_alloc_old V (.cells #[.slice none 0 0, .int .u32 0] 354) ⟨tb, 0, none⟩ (Nat.ne_of_lt (World.block_lt_of_cell? V _ hsV))).trans hsV
  obtain ⟨k, hk⟩ : ∃ k, k = V.heap.size := ⟨_, rfl⟩
  rw [← hk] at ka0 ka1 kf0 kf1 ⊢
  have HK := Lib.hid hk
  clear hsV hk
  generalize V.alloc (.cells #[.slice none 0 0, .int .u32 0] 354) = U at *
  have hkw : w.heap.size ≤ k := by rw [HK.out, HZ.out]; exact Nat.le_refl _
  go_wp2_with fail
  refine (init_BaseNode k rb cap (x + p + d) B _ _ U ka0 ka1 kf0 kf1 ((HIQ.out.hi).below0 HBQ.out HBA.out hrb) (by omega) HIQ.out.hc HIQ.out.hl hz).mono ?_
  rintro e w1 ⟨rfl, hT, hB1⟩
  clear ka0 ka1 kf0 kf1 hsA
  go_wp2_with fail
  go_ret
  exact ⟨k, rfl, hkw, hT, HBA.out.trans (hB1.mono hkw)⟩

set_option maxRecDepth 100000 in
theorem DateTimeLiteral_BaseNode_none (tb rb cap p : Nat) (B : By) (ps : List Nat) (hx : ps.getD 0 0 = 0) (w : World) (h : TabIn w tb 0 rb cap B p) (ht : TabAt B p ps) :
    Calls Tryz.prog 96 #[.pointer (some ⟨tb, 0, none⟩), .pointer none] w fun e w' => e = .returned (.pointer none) ∧ ∃ m, w' = w.drewN m := by
  go_enter Tryz.func96, Tryz.ntmps96
  go_wp2_with fail
  refine (offset_any tb 0 rb cap p 0 4 (by decide) B ps 0 hx (by decide) w h ht).mono ?_
  rintro e w1 ⟨rfl, m, rfl⟩
  go_wp2_with fail
  go_ret
  exact ⟨rfl, m, rfl⟩

set_option maxRecDepth 100000 in
theorem DateTimeLiteral_BaseNode (tb rb cap p : Nat) (B : By) (ps : List Nat) (x : Nat) (hx : ps.getD 0 0 = x) (h0 : x ≠ 0) (w : World) (h : TabIn w tb 0 rb cap B p) (ht : TabAt B p ps) (hl : x < 65536) (hq : x + p + 4 ≤ B.length) (d : Nat) (hd : leAt B (x + p) 4 = d) (hz : x + p + d < B.length) :
    Calls Tryz.prog 96 #[.pointer (some ⟨tb, 0, none⟩), .pointer none] w fun e w' => ∃ k, e = .returned (.pointer (some ⟨k, 0, none⟩)) ∧ w.heap.size ≤ k ∧ TabIn w' k 0 rb cap B (x + p + d) ∧ Below w.heap.size w w' := by
  have hs := h.hs
  have hp : w.cell? ⟨tb, 1, none⟩ = some (.int .u32 (p : Nat)) := h.hp
  have h01 : ((x : Int) == 0) = false := by simpa using h0
  have h02 : ((x : Int) != 0) = true := by simpa using h0
  have hxl : (x : Int) < 65536 := by omega
  have hpl : (p : Int) < 2147483648 := by have := h.hq; have := h.hl; omega
  have hrb := h.hi.lt (by have := h.hq; omega)
  go_enter Tryz.func96, Tryz.ntmps96
  go_wp2_with fail
  refine (offset_any tb 0 rb cap p 0 4 (by decide) B ps x hx (by decide) w h ht).mono ?_
  rintro e w1 ⟨rfl, m, rfl⟩
  have D : Hid (∀ n, Calls Tryz.prog 130 #[.pointer (some ⟨tb, 0, none⟩), .int .u32 ((x : Int) + (p : Int))] ((w.drewN m).drewN n) fun e w' => e = .returned (.int .u32 (x + p + d : Nat)) ∧ w' = (w.drewN m).drewN n) := Lib.hid fun n => indirect_any tb 0 rb cap p (x + p) B _ ((h.drew m).drew n) hq d hd hz
  clear hx h0
  go_upto_region 3 with fail
  have hsW : (w.drewN m).cell? ⟨tb, 0, none⟩ = some (.slice (some ⟨rb, 0, none⟩) (B.length : Nat) cap) := hs
  have hpW : (w.drewN m).cell? ⟨tb, 1, none⟩ = some (.int .u32 (p : Nat)) := hp
  have hzW : (w.drewN m).heap.size = w.heap.size := rfl
  have HBW := Lib.hid (below_drewN' (Below.refl w.heap.size w) m)
  have HI := Lib.hid (h.drew m)
  clear hs hp h
  obtain ⟨W, hW⟩ : ∃ W, W = w.drewN m := ⟨_, rfl⟩
  rw [← hW] at hsW hpW D hzW HBW HI ⊢
  clear hW
  go_quiet (first | (go_at_call 130; exact Calls.quiet_of_same (D.out _)))
  have hzq : (W.drewN nq).heap.size = w.heap.size := hzW
  have HBQ := Lib.hid (below_drewN' HBW.out nq)
  have HIQ := Lib.hid (HI.out.drew nq)
  clear hzW hsW hpW D HBW HI
  generalize W.drewN nq = V at *
  have hsV := HIQ.out.hs
  have HZ := Lib.hid hzq
  clear h01 h02 hxl hpl hzq
  go_upto_region 6 with fail
  obtain ⟨ka0, ka1, kf0, kf1⟩ := two_new V (.slice none 0 0) (.int .u32 0) 354
  have HBA := Lib.hid (Below.alloc HBQ.out (Nat.le_of_eq HZ.out.symm) (.cells #[.slice none 0 0, .int .u32 0] 354))
  have hsA := (World.cell?_alloc_old V (.cells #[.slice none 0 0, .int .u32 0] 354) ⟨tb, 0, none⟩ (Nat.ne_of_lt (World.block_lt_of_cell? V _ hsV))).trans hsV
  obtain ⟨k, hk⟩ : ∃ k, k = V.heap.size := ⟨_, rfl⟩
  rw [← hk] at ka0 ka1 kf0 kf1 ⊢
  have HK := Lib.hid hk
  clear hsV hk
  generalize V.alloc (.cells #[.slice none 0 0, .int .u32 0] 354) = U at *
  have hkw : w.heap.size ≤ k := by rw [HK.out, HZ.out]; exact Nat.le_refl _
  go_wp2_with fail
  refine (init_BaseNode k rb cap (x + p + d) B _ _ U ka0 ka1 kf0 kf1 ((HIQ.out.hi).below0 HBQ.out HBA.out hrb) (by omega) HIQ.out.hc HIQ.out.hl hz).mono ?_
  rintro e w1 ⟨rfl, hT, hB1⟩
  clear ka0 ka1 kf0 kf1 hsA
  go_wp2_with fail
  go_ret
  exact ⟨k, rfl, hkw, hT, HBA.out.trans (hB1.mono hkw)⟩

set_option maxRecDepth 100000 in
theorem TypeConstraint_BaseNode_none (tb rb cap p : Nat) (B : By) (ps : List Nat) (hx : ps.getD 0 0 = 0) (w : World) (h : TabIn w tb 0 rb cap B p) (ht : TabAt B p ps) :
    Calls Tryz.prog 103 #[.pointer (some ⟨tb, 0, none⟩), .pointer none] w fun e w' => e = .returned (.pointer none) ∧ ∃ m, w' = w.drewN m := by
  go_enter Tryz.func103, Tryz.ntmps103
  go_wp2_with fail
  refine (offset_any tb 0 rb cap p 0 4 (by decide) B ps 0 hx (by decide) w h ht).mono ?_
  rintro e w1 ⟨rfl, m, rfl⟩
  go_wp2_with fail
  go_ret
  exact ⟨rfl, m, rfl⟩

set_option maxRecDepth 100000 in
theorem TypeConstraint_BaseNode (tb rb cap p : Nat) (B : By) (ps : List Nat) (x : Nat) (hx : ps.getD 0 0 = x) (h0 : x ≠ 0) (w : World) (h : TabIn w tb 0 rb cap B p) (ht : TabAt B p ps) (hl : x < 65536) (hq : x + p + 4 ≤ B.length) (d : Nat) (hd : leAt B (x + p) 4 = d) (hz : x + p + d < B.length) :
    Calls Tryz.prog 103 #[.pointer (some ⟨tb, 0, none⟩), .pointer none] w fun e w' => ∃ k, e = .returned (.pointer (some ⟨k, 0, none⟩)) ∧ w.heap.size ≤ k ∧ TabIn w' k 0 rb cap B (x + p + d) ∧ Below w.heap.size w w' := by
  have hs := h.hs
  have hp : w.cell? ⟨tb, 1, none⟩ = some (.int .u32 (p : Nat)) := h.hp
  have h01 : ((x : Int) == 0) = false := by simpa using h0
  have h02 : ((x : Int) != 0) = true := by simpa using h0
  have hxl : (x : Int) < 65536 := by omega
  have hpl : (p : Int) < 2147483648 := by have := h.hq; have := h.hl; omega
  have hrb := h.hi.lt (by have := h.hq; omega)
  go_enter Tryz.func103, Tryz.ntmps103
  go_wp2_with fail
  refine (offset_any tb 0 rb cap p 0 4 (by decide) B ps x hx (by decide) w h ht).mono ?_
  rintro e w1 ⟨rfl, m, rfl⟩
  have D : Hid (∀ n, Calls Tryz.prog 130 #[.pointer (some ⟨tb, 0, none⟩), .int .u32 ((x : Int) + (p : Int))] ((w.drewN m).drewN n) fun e w' => e = .returned (.int .u32 (x + p + d : Nat)) ∧ w' = (w.drewN m).drewN n) := Lib.hid fun n => indirect_any tb 0 rb cap p (x + p) B _ ((h.drew m).drew n) hq d hd hz
  clear hx h0
  go_upto_region 3 with fail
  have hsW : (w.drewN m).cell? ⟨tb, 0, none⟩ = some (.slice (some ⟨rb, 0, none⟩) (B.length : Nat) cap) := hs
  have hpW : (w.drewN m).cell? ⟨tb, 1, none⟩ = some (.int .u32 (p : Nat)) := hp
  have hzW : (w.drewN m).heap.size = w.heap.size := rfl
  have HBW := Lib.hid (below_drewN' (Below.refl w.heap.size w) m)
  have HI := Lib.hid (h.drew m)
  clear hs hp h
  obtain ⟨W, hW⟩ : ∃ W, W = w.drewN m := ⟨_, rfl⟩
  rw [← hW] at hsW hpW D hzW HBW HI ⊢
  clear hW
  go_quiet (first | (go_at_call 130; exact Calls.quiet_of_same (D.out _)))
  have hzq : (W.drewN nq).heap.size = w.heap.size := hzW
  have HBQ := Lib.hid (below_drewN' HBW.out nq)
  have HIQ := Lib.hid (HI.out.drew nq)
  clear hzW hsW hpW D HBW HI
  generalize W.drewN nq = V at *
  have hsV := HIQ.out.hs
  have HZ := Lib.hid hzq
  clear h01 h02 hxl hpl hzq
  go_upto_region 6 with fail
  obtain ⟨ka0, ka1, kf0, kf1⟩ := two_new V (.slice none 0 0) (.int .u32 0) 354
  have HBA := Lib.hid (Below.alloc HBQ.out (Nat.le_of_eq HZ.out.symm) (.cells #[.slice none 0 0, .int .u32 0] 354))
  have hsA := (World.cell?_alloc_old V (.cells #[.slice none 0 0, .int .u32 0] 354) ⟨tb, 0, none⟩ (Nat.ne_of_lt (World.block_lt_of_cell? V _ hsV))).trans hsV
  obtain ⟨k, hk⟩ : ∃ k, k = V.heap.size := ⟨_, rfl⟩
  rw [← hk] at ka0 ka1 kf0 kf1 ⊢
  have HK := Lib.hid hk
  clear hsV hk
  generalize V.alloc (.cells #[.slice none 0 0, .int .u32 0] 354) = U at *
  have hkw : w.heap.size ≤ k := by rw [HK.out, HZ.out]; exact Nat.le_refl _
  go_wp2_with fail
  refine (init_BaseNode k rb cap (x + p + d) B _ _ U ka0 ka1 kf0 kf1 ((HIQ.out.hi).below0 HBQ.out HBA.out hrb) (by omega) HIQ.out.hc HIQ.out.hl hz).mono ?_
  rintro e w1 ⟨rfl, hT, hB1⟩
  clear ka0 ka1 kf0 kf1 hsA
  go_wp2_with fail
  go_ret
  exact ⟨k, rfl, hkw, hT, HBA.out.trans (hB1.mono hkw)⟩

set_option maxRecDepth 100000 in
theorem Identifier_BaseNode_none (tb rb cap p : Nat) (B : By) (ps : List Nat) (hx : ps.getD 0 0 = 0) (w : World) (h : TabIn w tb 0 rb cap B p) (ht : TabAt B p ps) :
    Calls Tryz.prog 143 #[.pointer (some ⟨tb, 0, none⟩), .pointer none] w fun e w' => e = .returned (.pointer none) ∧ ∃ m, w' = w.drewN m := by
  go_enter Tryz.func143, Tryz.ntmps143
  go_wp2_with fail
  refine (offset_any tb 0 rb cap p 0 4 (by decide) B ps 0 hx (by decide) w h ht).mono ?_
  rintro e w1 ⟨rfl, m, rfl⟩
  go_wp2_with fail
  go_ret
  exact ⟨rfl, m, rfl⟩

set_option maxRecDepth 100000 in
theorem Identifier_BaseNode (tb rb cap p : Nat) (B : By) (ps : List Nat) (x : Nat) (hx : ps.getD 0 0 = x) (h0 : x ≠ 0) (w : World) (h : TabIn w tb 0 rb cap B p) (ht : TabAt B p ps) (hl : x < 65536) (hq : x + p + 4 ≤ B.length) (d : Nat) (hd : leAt B (x + p) 4 = d) (hz : x + p + d < B.length) :
    Calls Tryz.prog 143 #[.pointer (some ⟨tb, 0, none⟩), .pointer none] w fun e w' => ∃ k, e = .returned (.pointer (some ⟨k, 0, none⟩)) ∧ w.heap.size ≤ k ∧ TabIn w' k 0 rb cap B (x + p + d) ∧ Below w.heap.size w w' := by
  have hs := h.hs
  have hp : w.cell? ⟨tb, 1, none⟩ = some (.int .u32 (p : Nat)) := h.hp
  have h01 : ((x : Int) == 0) = false := by simpa using h0
  have h02 : ((x : Int) != 0) = true := by simpa using h0
  have hxl : (x : Int) < 65536 := by omega
  have hpl : (p : Int) < 2147483648 := by have := h.hq; have := h.hl; omega
  have hrb := h.hi.lt (by have := h.hq; omega)
  go_enter Tryz.func143, Tryz.ntmps143
  go_wp2_with fail
  refine (offset_any tb 0 rb cap p 0 4 (by decide) B ps x hx (by decide) w h ht).mono ?_
  rintro e w1 ⟨rfl, m, rfl⟩
  have D : Hid (∀ n, Calls Tryz.prog 130 #[.pointer (some ⟨tb, 0, none⟩), .int .u32 ((x : Int) + (p : Int))] ((w.drewN m).drewN n) fun e w' => e = .returned (.int .u32 (x + p + d : Nat)) ∧ w' = (w.drewN m).drewN n) := Lib.hid fun n => indirect_any tb 0 rb cap p (x + p) B _ ((h.drew m).drew n) hq d hd hz
  clear hx h0
  go_upto_region 3 with fail
  have hsW : (w.drewN m).cell? ⟨tb, 0, none⟩ = some (.slice (some ⟨rb, 0, none⟩) (B.length : Nat) cap) := hs
  have hpW : (w.drewN m).cell? ⟨tb, 1, none⟩ = some (.int .u32 (p : Nat)) := hp
  have hzW : (w.drewN m).heap.size = w.heap.size := rfl
  have HBW := Lib.hid (below_drewN' (Below.refl w.heap.size w) m)
  have HI := Lib.hid (h.drew m)
  clear hs hp h
  obtain ⟨W, hW⟩ : ∃ W, W = w.drewN m := ⟨_, rfl⟩
  rw [← hW] at hsW hpW D hzW HBW HI ⊢
  clear hW
  go_quiet (first | (go_at_call 130; exact Calls.quiet_of_same (D.out _)))
  have hzq : (W.drewN nq).heap.size = w.heap.size := hzW
  have HBQ := Lib.hid (below_drewN' HBW.out nq)
  have HIQ := Lib.hid (HI.out.drew nq)
  clear hzW hsW hpW D HBW HI
  generalize W.drewN nq = V at *
  have hsV := HIQ.out.hs
  have HZ := Lib.hid hzq
  clear h01 h02 hxl hpl hzq
  go_upto_region 6 with fail
  obtain ⟨ka0, ka1, kf0, kf1⟩ := two_new V (.slice none 0 0) (.int .u32 0) 354
  have HBA := Lib.hid (Below.alloc HBQ.out (Nat.le_of_eq HZ.out.symm) (.cells #[.slice none 0 0, .int .u32 0] 354))
  have hsA := (World.cell?_alloc_old V (.cells #[.slice none 0 0, .int .u32 0] 354) ⟨tb, 0, none⟩ (Nat.ne_of_lt (World.block_lt_of_cell? V _ hsV))).trans hsV
  obtain ⟨k, hk⟩ : ∃ k, k = V.heap.size := ⟨_, rfl⟩
  rw [← hk] at ka0 ka1 kf0 kf1 ⊢
  have HK := Lib.hid hk
  clear hsV hk
  generalize V.alloc (.cells #[.slice none 0 0, .int .u32 0] 354) = U at *
  have hkw : w.heap.size ≤ k := by rw [HK.out, HZ.out]; exact Nat.le_refl _
  go_wp2_with fail
  refine (init_BaseNode k rb cap (x + p + d) B _ _ U ka0 ka1 kf0 kf1 ((HIQ.out.hi).below0 HBQ.out HBA.out hrb) (by omega) HIQ.out.hc HIQ.out.hl hz).mono ?_
  rintro e w1 ⟨rfl, hT, hB1⟩
  clear ka0 ka1 kf0 kf1 hsA
  go_wp2_with fail
  go_ret
  exact ⟨k, rfl, hkw, hT, HBA.out.trans (hB1.mono hkw)⟩

set_option maxRecDepth 100000 in
theorem BaseNode_Loc_none (tb rb cap p : Nat) (B : By) (ps : List Nat) (hx : ps.getD 0 0 = 0) (w : World) (h : TabIn w tb 0 rb cap B p) (ht : TabAt B p ps) :
    Calls Tryz.prog 122 #[.pointer (some ⟨tb, 0, none⟩), .pointer none] w fun e w' => e = .returned (.pointer none) ∧ ∃ m, w' = w.drewN m := by
  go_enter Tryz.func122, Tryz.ntmps122
  go_wp2_with fail
  refine (offset_any tb 0 rb cap p 0 4 (by decide) B ps 0 hx (by decide) w h ht).mono ?_
  rintro e w1 ⟨rfl, m, rfl⟩
  go_wp2_with fail
  go_ret
  exact ⟨rfl, m, rfl⟩

set_option maxRecDepth 100000 in
theorem BaseNode_Loc (tb rb cap p : Nat) (B : By) (ps : List Nat) (x : Nat) (hx : ps.getD 0 0 = x) (h0 : x ≠ 0) (w : World) (h : TabIn w tb 0 rb cap B p) (ht : TabAt B p ps) (hl : x < 65536) (hq : x + p + 4 ≤ B.length) (d : Nat) (hd : leAt B (x + p) 4 = d) (hz : x + p + d < B.length) :
    Calls Tryz.prog 122 #[.pointer (some ⟨tb, 0, none⟩), .pointer none] w fun e w' => ∃ k, e = .returned (.pointer (some ⟨k, 0, none⟩)) ∧ w.heap.size ≤ k ∧ TabIn w' k 0 rb cap B (x + p + d) ∧ Below w.heap.size w w' := by
  have hs := h.hs
  have hp : w.cell? ⟨tb, 1, none⟩ = some (.int .u32 (p : Nat)) := h.hp
  have h01 : ((x : Int) == 0) = false := by simpa using h0
  have h02 : ((x : Int) != 0) = true := by simpa using h0
  have hxl : (x : Int) < 65536 := by omega
  have hpl : (p : Int) < 2147483648 := by have := h.hq; have := h.hl; omega
  have hrb := h.hi.lt (by have := h.hq; omega)
  go_enter Tryz.func122, Tryz.ntmps122
  go_wp2_with fail
  refine (offset_any tb 0 rb cap p 0 4 (by decide) B ps x hx (by decide) w h ht).mono ?_
  rintro e w1 ⟨rfl, m, rfl⟩
  have D : Hid (∀ n, Calls Tryz.prog 130 #[.pointer (some ⟨tb, 0, none⟩), .int .u32 ((x : Int) + (p : Int))] ((w.drewN m).drewN n) fun e w' => e = .returned (.int .u32 (x + p + d : Nat)) ∧ w' = (w.drewN m).drewN n) := Lib.hid fun n => indirect_any tb 0 rb cap p (x + p) B _ ((h.drew m).drew n) hq d hd hz
  clear hx h0
  go_upto_region 3 with fail
  have hsW : (w.drewN m).cell? ⟨tb, 0, none⟩ = some (.slice (some ⟨rb, 0, none⟩) (B.length : Nat) cap) := hs
  have hpW : (w.drewN m).cell? ⟨tb, 1, none⟩ = some (.int .u32 (p : Nat)) := hp
  have hzW : (w.drewN m).heap.size = w.heap.size := rfl
  have HBW := Lib.hid (below_drewN' (Below.refl w.heap.size w) m)
  have HI := Lib.hid (h.drew m)
  clear hs hp h
  obtain ⟨W, hW⟩ : ∃ W, W = w.drewN m := ⟨_, rfl⟩
  rw [← hW] at hsW hpW D hzW HBW HI ⊢
  clear hW
  go_quiet (first | (go_at_call 130; exact Calls.quiet_of_same (D.out _)))
  have hzq : (W.drewN nq).heap.size = w.heap.size := hzW
  have HBQ := Lib.hid (below_drewN' HBW.out nq)
  have HIQ := Lib.hid (HI.out.drew nq)
  clear hzW hsW hpW D HBW HI
  generalize W.drewN nq = V at *
  have hsV := HIQ.out.hs
  have HZ := Lib.hid hzq
  clear h01 h02 hxl hpl hzq
  go_upto_region 6 with fail
  obtain ⟨ka0, ka1, kf0, kf1⟩ := two_new V (.slice none 0 0) (.int .u32 0) 378
  have HBA := Lib.hid (Below.alloc HBQ.out (Nat.le_of_eq HZ.out.symm) (.cells #[.slice none 0 0, .int .u32 0] 378))
  have hsA := (World.cell?_alloc_old V (.cells #[.slice none 0 0, .int .u32 0] 378) ⟨tb, 0, none⟩ (Nat.ne_of_lt (World.block_lt_of_cell? V _ hsV))).trans hsV
  obtain ⟨k, hk⟩ : ∃ k, k = V.heap.size := ⟨_, rfl⟩
  rw [← hk] at ka0 ka1 kf0 kf1 ⊢
  have HK := Lib.hid hk
  clear hsV hk
  generalize V.alloc (.cells #[.slice none 0 0, .int .u32 0] 378) = U at *
  have hkw : w.heap.size ≤ k := by rw [HK.out, HZ.out]; exact Nat.le_refl _
  go_wp2_with fail
  refine (init_SourceLocation k rb cap (x + p + d) B _ _ U ka0 ka1 kf0 kf1 ((HIQ.out.hi).below0 HBQ.out HBA.out hrb) (by omega) HIQ.out.hc HIQ.out.hl hz).mono ?_
  rintro e w1 ⟨rfl, hT, hB1⟩
  clear ka0 ka1 kf0 kf1 hsA
  go_wp2_with fail
  go_ret
  exact ⟨k, rfl, hkw, hT, HBA.out.trans (hB1.mono hkw)⟩

set_option maxRecDepth 100000 in
theorem NamedType_Id_none (tb rb cap p : Nat) (B : By) (ps : List Nat) (hx : ps.getD 1 0 = 0) (w : World) (h : TabIn w tb 0 rb cap B p) (ht : TabAt B p ps) :
    Calls Tryz.prog 91 #[.pointer (some ⟨tb, 0, none⟩), .pointer none] w fun e w' => e = .returned (.pointer none) ∧ ∃ m, w' = w.drewN m := by
  go_enter Tryz.func91, Tryz.ntmps91
  go_wp2_with fail
  refine (offset_any tb 0 rb cap p 1 6 (by decide) B ps 0 hx (by decide) w h ht).mono ?_
  rintro e w1 ⟨rfl, m, rfl⟩
  go_wp2_with fail
  go_ret
  exact ⟨rfl, m, rfl⟩

set_option maxRecDepth 100000 in
theorem NamedType_Id (tb rb cap p : Nat) (B : By) (ps : List Nat) (x : Nat) (hx : ps.getD 1 0 = x) (h0 : x ≠ 0) (w : World) (h : TabIn w tb 0 rb cap B p) (ht : TabAt B p ps) (hl : x < 65536) (hq : x + p + 4 ≤ B.length) (d : Nat) (hd : leAt B (x + p) 4 = d) (hz : x + p + d < B.length) :
    Calls Tryz.prog 91 #[.pointer (some ⟨tb, 0, none⟩), .pointer none] w fun e w' => ∃ k, e = .returned (.pointer (some ⟨k, 0, none⟩)) ∧ w.heap.size ≤ k ∧ TabIn w' k 0 rb cap B (x + p + d) ∧ Below w.heap.size w w' := by
  have hs := h.hs
  have hp : w.cell? ⟨tb, 1, none⟩ = some (.int .u32 (p : Nat)) := h.hp
  have h01 : ((x : Int) == 0) = false := by simpa using h0
  have h02 : ((x : Int) != 0) = true := by simpa using h0
  have hxl : (x : Int) < 65536 := by omega
  have hpl : (p : Int) < 2147483648 := by have := h.hq; have := h.hl; omega
  have hrb := h.hi.lt (by have := h.hq; omega)
  go_enter Tryz.func91, Tryz.ntmps91
  go_wp2_with fail
  refine (offset_any tb 0 rb cap p 1 6 (by decide) B ps x hx (by decide) w h ht).mono ?_
  rintro e w1 ⟨rfl, m, rfl⟩
  have D : Hid (∀ n, Calls Tryz.prog 130 #[.pointer (some ⟨tb, 0, none⟩), .int .u32 ((x : Int) + (p : Int))] ((w.drewN m).drewN n) fun e w' => e = .returned (.int .u32 (x + p + d : Nat)) ∧ w' = (w.drewN m).drewN n) := Lib.hid fun n => indirect_any tb 0 rb cap p (x + p) B _ ((h.drew m).drew n) hq d hd hz
  clear hx h0
  go_upto_region 3 with fail
  have hsW : (w.drewN m).cell? ⟨tb, 0, none⟩ = some (.slice (some ⟨rb, 0, none⟩) (B.length : Nat) cap) := hs
  have hpW : (w.drewN m).cell? ⟨tb, 1, none⟩ = some (.int .u32 (p : Nat)) := hp
  have hzW : (w.drewN m).heap.size = w.heap.size := rfl
  have HBW := Lib.hid (below_drewN' (Below.refl w.heap.size w) m)
  have HI := Lib.hid (h.drew m)
  clear hs hp h
  obtain ⟨W, hW⟩ : ∃ W, W = w.drewN m := ⟨_, rfl⟩
  rw [← hW] at hsW hpW D hzW HBW HI ⊢
  clear hW
  go_quiet (first | (go_at_call 130; exact Calls.quiet_of_same (D.out _)))
  have hzq : (W.drewN nq).heap.size = w.heap.size := hzW
  have HBQ := Lib.hid (below_drewN' HBW.out nq)
  have HIQ := Lib.hid (HI.out.drew nq)
  clear hzW hsW hpW D HBW HI
  generalize W.drewN nq = V at *
  have hsV := HIQ.out.hs
  have HZ := Lib.hid hzq
  clear h01 h02 hxl hpl hzq
  go_upto_region 6 with fail
  obtain ⟨ka0, ka1, kf0, kf1⟩ := two_new V (.slice none 0 0) (.int .u32 0) 291
  have HBA := Lib.hid (Below.alloc HBQ.out (Nat.le_of_eq HZ.out.symm) (.cells #[.slice none 0 0, .int .u32 0] 291))
  have hsA := (World.cell?_alloc_old V (.cells #[.slice none 0 0, .int .u32 0] 291) ⟨tb, 0, none⟩ (Nat.ne_of_lt (World.block_lt_of_cell? V _ hsV))).trans hsV
  obtain ⟨k, hk⟩ : ∃ k, k = V.heap.size := ⟨_, rfl⟩
  rw [← hk] at ka0 ka1 kf0 kf1 ⊢
  have HK := Lib.hid hk
  clear hsV hk
  generalize V.alloc (.cells #[.slice none 0 0, .int .u32 0] 291) = U at *
  have hkw : w.heap.size ≤ k := by rw [HK.out, HZ.out]; exact Nat.le_refl _
  go_wp2_with fail
  refine (init_Identifier k rb cap (x + p + d) B _ _ U ka0 ka1 kf0 kf1 ((HIQ.out.hi).below0 HBQ.out HBA.out hrb) (by omega) HIQ.out.hc HIQ.out.hl hz).mono ?_
  rintro e w1 ⟨rfl, hT, hB1⟩
  clear ka0 ka1 kf0 kf1 hsA
  go_wp2_with fail
  go_ret
  exact ⟨k, rfl, hkw, hT, HBA.out.trans (hB1.mono hkw)⟩

set_option maxRecDepth 100000 in
theorem PackageClause_Name_none (tb rb cap p : Nat) (B : By) (ps : List Nat) (hx : ps.getD 1 0 = 0) (w : World) (h : TabIn w tb 0 rb cap B p) (ht : TabAt B p ps) :
    Calls Tryz.prog 94 #[.pointer (some ⟨tb, 0, none⟩), .pointer none] w fun e w' => e = .returned (.pointer none) ∧ ∃ m, w' = w.drewN m := by
  go_enter Tryz.func94, Tryz.ntmps94
  go_wp2_with fail
  refine (offset_any tb 0 rb cap p 1 6 (by decide) B ps 0 hx (by decide) w h ht).mono ?_
  rintro e w1 ⟨rfl, m, rfl⟩
  go_wp2_with fail
  go_ret
  exact ⟨rfl, m, rfl⟩

set_option maxRecDepth 100000 in
theorem PackageClause_Name (tb rb cap p : Nat) (B : By) (ps : List Nat) (x : Nat) (hx : ps.getD 1 0 = x) (h0 : x ≠ 0) (w : World) (h : TabIn w tb 0 rb cap B p) (ht : TabAt B p ps) (hl : x < 65536) (hq : x + p + 4 ≤ B.length) (d : Nat) (hd : leAt B (x + p) 4 = d) (hz : x + p + d < B.length) :
    Calls Tryz.prog 94 #[.pointer (some ⟨tb, 0, none⟩), .pointer none] w fun e w' => ∃ k, e = .returned (.pointer (some ⟨k, 0, none⟩)) ∧ w.heap.size ≤ k ∧ TabIn w' k 0 rb cap B (x + p + d) ∧ Below w.heap.size w w' := by
  have hs := h.hs
  have hp : w.cell? ⟨tb, 1, none⟩ = some (.int .u32 (p : Nat)) := h.hp
  have h01 : ((x : Int) == 0) = false := by simpa using h0
  have h02 : ((x : Int) != 0) = true := by simpa using h0
  have hxl : (x : Int) < 65536 := by omega
  have hpl : (p : Int) < 2147483648 := by have := h.hq; have := h.hl; omega
  have hrb := h.hi.lt (by have := h.hq; omega)
  go_enter Tryz.func94, Tryz.ntmps94
  go_wp2_with fail
  refine (offset_any tb 0 rb cap p 1 6 (by decide) B ps x hx (by decide) w h ht).mono ?_
  rintro e w1 ⟨rfl, m, rfl⟩
  have D : Hid (∀ n, Calls Tryz.prog 130 #[.pointer (some ⟨tb, 0, none⟩), .int .u32 ((x : Int) + (p : Int))] ((w.drewN m).drewN n) fun e w' => e = .returned (.int .u32 (x + p + d : Nat)) ∧ w' = (w.drewN m).drewN n) := Lib.hid fun n => indirect_any tb 0 rb cap p (x + p) B _ ((h.drew m).drew n) hq d hd hz
  clear hx h0
  go_upto_region 3 with fail
  have hsW : (w.drewN m).cell? ⟨tb, 0, none⟩ = some (.slice (some ⟨rb, 0, none⟩) (B.length : Nat) cap) := hs
  have hpW : (w.drewN m).cell? ⟨tb, 1, none⟩ = some (.int .u32 (p : Nat)) := hp
  have hzW : (w.drewN m).heap.size = w.heap.size := rfl
  have HBW := Lib.hid (below_drewN' (Below.refl w.heap.size w) m)
  have HI := Lib.hid (h.drew m)
  clear hs hp h
  obtain ⟨W, hW⟩ : ∃ W, W = w.drewN m := ⟨_, rfl⟩
  rw [← hW] at hsW hpW D hzW HBW HI ⊢
  clear hW
  go_quiet (first | (go_at_call 130; exact Calls.quiet_of_same (D.out _)))
  have hzq : (W.drewN nq).heap.size = w.heap.size := hzW
  have HBQ := Lib.hid (below_drewN' HBW.out nq)
  have HIQ := Lib.hid (HI.out.drew nq)
  clear hzW hsW hpW D HBW HI
  generalize W.drewN nq = V at *
  have hsV := HIQ.out.hs
  have HZ := Lib.hid hzq
  clear h01 h02 hxl hpl hzq
  go_upto_region 6 with fail
  obtain ⟨ka0, ka1, kf0, kf1⟩ := two_new V (.slice none 0 0) (.int .u32 0) 291
  have HBA := Lib.hid (Below.alloc HBQ.out (Nat.le_of_eq HZ.out.symm) (.cells #[.slice none 0 0, .int .u32 0] 291))
  have hsA := (World.cell?_alloc_old V (.cells #[.slice none 0 0, .int .u32 0] 291) ⟨tb, 0, none⟩ (Nat.ne_of_lt (World.block_lt_of_cell? V _ hsV))).trans hsV
  obtain ⟨k, hk⟩ : ∃ k, k = V.heap.size := ⟨_, rfl⟩
  rw [← hk] at ka0 ka1 kf0 kf1 ⊢
  have HK := Lib.hid hk
  clear hsV hk
  generalize V.alloc (.cells #[.slice none 0 0, .int .u32 0] 291) = U at *
  have hkw : w.heap.size ≤ k := by rw [HK.out, HZ.out]; exact Nat.le_refl _
  go_wp2_with fail
  refine (init_Identifier k rb cap (x + p + d) B _ _ U ka0 ka1 kf0 kf1 ((HIQ.out.hi).below0 HBQ.out HBA.out hrb) (by omega) HIQ.out.hc HIQ.out.hl hz).mono ?_
  rintro e w1 ⟨rfl, hT, hB1⟩
  clear ka0 ka1 kf0 kf1 hsA
  go_wp2_with fail
  go_ret
  exact ⟨k, rfl, hkw, hT, HBA.out.trans (hB1.mono hkw)⟩

set_option maxRecDepth 100000 in
theorem TypeConstraint_Tvar_none (tb rb cap p : Nat) (B : By) (ps : List Nat) (hx : ps.getD 1 0 = 0) (w : World) (h : TabIn w tb 0 rb cap B p) (ht : TabAt B p ps) :
    Calls Tryz.prog 104 #[.pointer (some ⟨tb, 0, none⟩), .pointer none] w fun e w' => e = .returned (.pointer none) ∧ ∃ m, w' = w.drewN m := by
  go_enter Tryz.func104, Tryz.ntmps104
  go_wp2_with fail
  refine (offset_any tb 0 rb cap p 1 6 (by decide) B ps 0 hx (by decide) w h ht).mono ?_
  rintro e w1 ⟨rfl, m, rfl⟩
  go_wp2_with fail
  go_ret
  exact ⟨rfl, m, rfl⟩

set_option maxRecDepth 100000 in
theorem TypeConstraint_Tvar (tb rb cap p : Nat) (B : By) (ps : List Nat) (x : Nat) (hx : ps.getD 1 0 = x) (h0 : x ≠ 0) (w : World) (h : TabIn w tb 0 rb cap B p) (ht : TabAt B p ps) (hl : x < 65536) (hq : x + p + 4 ≤ B.length) (d : Nat) (hd : leAt B (x + p) 4 = d) (hz : x + p + d < B.length) :
    Calls Tryz.prog 104 #[.pointer (some ⟨tb, 0, none⟩), .pointer none] w fun e w' => ∃ k, e = .returned (.pointer (some ⟨k, 0, none⟩)) ∧ w.heap.size ≤ k ∧ TabIn w' k 0 rb cap B (x + p + d) ∧ Below w.heap.size w w' := by
  have hs := h.hs
  have hp : w.cell? ⟨tb, 1, none⟩ = some (.int .u32 (p : Nat)) := h.hp
  have h01 : ((x : Int) == 0) = false := by simpa using h0
  have h02 : ((x : Int) != 0) = true := by simpa using h0
  have hxl : (x : Int) < 65536 := by omega
  have hpl : (p : Int) < 2147483648 := by have := h.hq; have := h.hl; omega
  have hrb := h.hi.lt (by have := h.hq; omega)
  go_enter Tryz.func104, Tryz.ntmps104
  go_wp2_with fail
  refine (offset_any tb 0 rb cap p 1 6 (by decide) B ps x hx (by decide) w h ht).mono ?_
  rintro e w1 ⟨rfl, m, rfl⟩
  have D : Hid (∀ n, Calls Tryz.prog 130 #[.pointer (some ⟨tb, 0, none⟩), .int .u32 ((x : Int) + (p : Int))] ((w.drewN m).drewN n) fun e w' => e = .returned (.int .u32 (x + p + d : Nat)) ∧ w' = (w.drewN m).drewN n) := Lib.hid fun n => indirect_any tb 0 rb cap p (x + p) B _ ((h.drew m).drew n) hq d hd hz
  clear hx h0
  go_upto_region 3 with fail
  have hsW : (w.drewN m).cell? ⟨tb, 0, none⟩ = some (.slice (some ⟨rb, 0, none⟩) (B.length : Nat) cap) := hs
  have hpW : (w.drewN m).cell? ⟨tb, 1, none⟩ = some (.int .u32 (p : Nat)) := hp
  have hzW : (w.drewN m).heap.size = w.heap.size := rfl
  have HBW := Lib.hid (below_drewN' (Below.refl w.heap.size w) m)
  have HI := Lib.hid (h.drew m)
  clear hs hp h
  obtain ⟨W, hW⟩ : ∃ W, W = w.drewN m := ⟨_, rfl⟩
  rw [← hW] at hsW hpW D hzW HBW HI ⊢
  clear hW
  go_quiet (first | (go_at_call 130; exact Calls.quiet_of_same (D.out _)))
  have hzq : (W.drewN nq).heap.size = w.heap.size := hzW
  have HBQ := Lib.hid (below_drewN' HBW.out nq)
  have HIQ := Lib.hid (HI.out.drew nq)
  clear hzW hsW hpW D HBW HI
  generalize W.drewN nq = V at *
  have hsV := HIQ.out.hs
  have HZ := Lib.hid hzq
  clear h01 h02 hxl hpl hzq
  go_upto_region 6 with fail
  obtain ⟨ka0, ka1, kf0, kf1⟩ := two_new V (.slice none 0 0) (.int .u32 0) 291
  have HBA := Lib.hid (Below.alloc HBQ.out (Nat.le_of_eq HZ.out.symm) (.cells #[.slice none 0 0, .int .u32 0] 291))
  have hsA := (World.cell?_alloc_old V (.cells #[.slice none 0 0, .int .u32 0] 291) ⟨tb, 0, none⟩ (Nat.ne_of_lt (World.block_lt_of_cell? V _ hsV))).trans hsV
  obtain ⟨k, hk⟩ : ∃ k, k = V.heap.size := ⟨_, rfl⟩
  rw [← hk] at ka0 ka1 kf0 kf1 ⊢
  have HK := Lib.hid hk
  clear hsV hk
  generalize V.alloc (.cells #[.slice none 0 0, .int .u32 0] 291) = U at *
  have hkw : w.heap.size ≤ k := by rw [HK.out, HZ.out]; exact Nat.le_refl _
  go_wp2_with fail
  refine (init_Identifier k rb cap (x + p + d) B _ _ U ka0 ka1 kf0 kf1 ((HIQ.out.hi).below0 HBQ.out HBA.out hrb) (by omega) HIQ.out.hc HIQ.out.hl hz).mono ?_
  rintro e w1 ⟨rfl, hT, hB1⟩
  clear ka0 ka1 kf0 kf1 hsA
  go_wp2_with fail
  go_ret
  exact ⟨k, rfl, hkw, hT, HBA.out.trans (hB1.mono hkw)⟩

set_option maxRecDepth 100000 in
theorem init_Position (k rb cap p : Nat) (B : By) (c0 c1 : Value) (w : World) (h0 : w.cell? ⟨k, 0, none⟩ = some c0) (h1 : w.cell? ⟨k, 1, none⟩ = some c1) (f0 : w.frozen? ⟨k, 0, none⟩ = false) (f1 : w.frozen? ⟨k, 1, none⟩ = false) (hB : BufIn w rb B) (hk : rb ≠ k) (hc : B.length ≤ cap) (hl : B.length < 2147483648) (hp : p < B.length) :
    Calls Tryz.prog 201 #[.pointer (some ⟨k, 0, none⟩), .slice (some ⟨rb, 0, none⟩) (B.length : Nat) cap, .int .u32 (p : Nat)] w fun e w' => e = .returned (.tuple #[]) ∧ TabIn w' k 0 rb cap B p ∧ Below k w w' := by
  go_enter Tryz.func201, Tryz.ntmps201
  go_wp2_with fail
  go_end0
  exact ⟨rfl, tab_set h0 h1 hB hk hc hl hp, below_set _ _ _ _ _ _⟩

set_option maxRecDepth 100000 in
theorem SourceLocation_Start_none (tb rb cap p : Nat) (B : By) (ps : List Nat) (hx : ps.getD 1 0 = 0) (w : World) (h : TabIn w tb 0 rb cap B p) (ht : TabAt B p ps) :
    Calls Tryz.prog 168 #[.pointer (some ⟨tb, 0, none⟩), .pointer none] w fun e w' => e = .returned (.pointer none) ∧ ∃ m, w' = w.drewN m := by
  go_enter Tryz.func168, Tryz.ntmps168
  go_wp2_with fail
  refine (offset_any tb 0 rb cap p 1 6 (by decide) B ps 0 hx (by decide) w h ht).mono ?_
  rintro e w1 ⟨rfl, m, rfl⟩
  go_wp2_with fail
  go_ret
  exact ⟨rfl, m, rfl⟩

set_option maxRecDepth 100000 in
theorem SourceLocation_Start (tb rb cap p : Nat) (B : By) (ps : List Nat) (x : Nat) (hx : ps.getD 1 0 = x) (h0 : x ≠ 0) (w : World) (h : TabIn w tb 0 rb cap B p) (ht : TabAt B p ps) (hl : x < 65536) (hz : x + p < B.length) :
    Calls Tryz.prog 168 #[.pointer (some ⟨tb, 0, none⟩), .pointer none] w fun e w' => ∃ k, e = .returned (.pointer (some ⟨k, 0, none⟩)) ∧ w.heap.size ≤ k ∧ TabIn w' k 0 rb cap B (x + p) ∧ Below w.heap.size w w' := by
  have hs := h.hs
  have hp : w.cell? ⟨tb, 1, none⟩ = some (.int .u32 (p : Nat)) := h.hp
  have h01 : ((x : Int) == 0) = false := by simpa using h0
  have h02 : ((x : Int) != 0) = true := by simpa using h0
  have hxl : (x : Int) < 65536 := by omega
  have hpl : (p : Int) < 2147483648 := by have := h.hq; have := h.hl; omega
  have hrb := h.hi.lt (by have := h.hq; omega)
  go_enter Tryz.func168, Tryz.ntmps168
  go_wp2_with fail
  refine (offset_any tb 0 rb cap p 1 6 (by decide) B ps x hx (by decide) w h ht).mono ?_
  rintro e w1 ⟨rfl, m, rfl⟩
  clear hx h0
  have hsW : (w.drewN m).cell? ⟨tb, 0, none⟩ = some (.slice (some ⟨rb, 0, none⟩) (B.length : Nat) cap) := hs
  have hpW : (w.drewN m).cell? ⟨tb, 1, none⟩ = some (.int .u32 (p : Nat)) := hp
  have hzW : (w.drewN m).heap.size = w.heap.size := rfl
  have HBW := Lib.hid (below_drewN' (Below.refl w.heap.size w) m)
  have HI := Lib.hid (h.drew m)
  clear hs hp h
  obtain ⟨W, hW⟩ : ∃ W, W = w.drewN m := ⟨_, rfl⟩
  rw [← hW] at hsW hpW hzW HBW HI ⊢
  clear hW
  go_upto_region 5 with fail
  have hzq : W.heap.size = w.heap.size := hzW
  have HBQ := Lib.hid HBW.out
  have HIQ := Lib.hid HI.out
  clear hzW hpW HBW HI
  generalize W = V at *
  have hsV := HIQ.out.hs
  clear hsW
  have HZ := Lib.hid hzq
  clear h01 h02 hxl hpl hzq
  go_upto_region 6 with fail
  obtain ⟨ka0, ka1, kf0, kf1⟩ := two_new V (.slice none 0 0) (.int .u32 0) 406
  have HBA := Lib.hid (Below.alloc HBQ.out (Nat.le_of_eq HZ.out.symm) (.cells #[.slice none 0 0, .int .u32 0] 406))
  have hsA := (World.cell?_alloc_old V (.cells #[.slice none 0 0, .int .u32 0] 406) ⟨tb, 0, none⟩ (Nat.ne_of_lt (World.block_lt_of_cell? V _ hsV))).trans hsV
  obtain ⟨k, hk⟩ : ∃ k, k = V.heap.size := ⟨_, rfl⟩
  rw [← hk] at ka0 ka1 kf0 kf1 ⊢
  have HK := Lib.hid hk
  clear hsV hk
  generalize V.alloc (.cells #[.slice none 0 0, .int .u32 0] 406) = U at *
  have hkw : w.heap.size ≤ k := by rw [HK.out, HZ.out]; exact Nat.le_refl _
  go_wp2_with fail
  refine (init_Position k rb cap (x + p) B _ _ U ka0 ka1 kf0 kf1 ((HIQ.out.hi).below0 HBQ.out HBA.out hrb) (by omega) HIQ.out.hc HIQ.out.hl hz).mono ?_
  rintro e w1 ⟨rfl, hT, hB1⟩
  clear ka0 ka1 kf0 kf1 hsA
  go_wp2_with fail
  go_ret
  exact ⟨k, rfl, hkw, hT, HBA.out.trans (hB1.mono hkw)⟩

set_option maxRecDepth 100000 in
theorem SourceLocation_End_none (tb rb cap p : Nat) (B : By) (ps : List Nat) (hx : ps.getD 2 0 = 0) (w : World) (h : TabIn w tb 0 rb cap B p) (ht : TabAt B p ps) :
    Calls Tryz.prog 169 #[.pointer (some ⟨tb, 0, none⟩), .pointer none] w fun e w' => e = .returned (.pointer none) ∧ ∃ m, w' = w.drewN m := by
  go_enter Tryz.func169, Tryz.ntmps169
  go_wp2_with fail
  refine (offset_any tb 0 rb cap p 2 8 (by decide) B ps 0 hx (by decide) w h ht).mono ?_
  rintro e w1 ⟨rfl, m, rfl⟩
  go_wp2_with fail
  go_ret
  exact ⟨rfl, m, rfl⟩

set_option maxRecDepth 100000 in
theorem SourceLocation_End (tb rb cap p : Nat) (B : By) (ps : List Nat) (x : Nat) (hx : ps.getD 2 0 = x) (h0 : x ≠ 0) (w : World) (h : TabIn w tb 0 rb cap B p) (ht : TabAt B p ps) (hl : x < 65536) (hz : x + p < B.length) :
    Calls Tryz.prog 169 #[.pointer (some ⟨tb, 0, none⟩), .pointer none] w fun e w' => ∃ k, e = .returned (.pointer (some ⟨k, 0, none⟩)) ∧ w.heap.size ≤ k ∧ TabIn w' k 0 rb cap B (x + p) ∧ Below w.heap.size w w' := by
  have hs := h.hs
  have hp : w.cell? ⟨tb, 1, none⟩ = some (.int .u32 (p : Nat)) := h.hp
  have h01 : ((x : Int) == 0) = false := by simpa using h0
  have h02 : ((x : Int) != 0) = true := by simpa using h0
  have hxl : (x : Int) < 65536 := by omega
  have hpl : (p : Int) < 2147483648 := by have := h.hq; have := h.hl; omega
  have hrb := h.hi.lt (by have := h.hq; omega)
  go_enter Tryz.func169, Tryz.ntmps169
  go_wp2_with fail
  refine (offset_any tb 0 rb cap p 2 8 (by decide) B ps x hx (by decide) w h ht).mono ?_
  rintro e w1 ⟨rfl, m, rfl⟩
  clear hx h0
  have hsW : (w.drewN m).cell? ⟨tb, 0, none⟩ = some (.slice (some ⟨rb, 0, none⟩) (B.length : Nat) cap) := hs
  have hpW : (w.drewN m).cell? ⟨tb, 1, none⟩ = some (.int .u32 (p : Nat)) := hp
  have hzW : (w.drewN m).heap.size = w.heap.size := rfl
  have HBW := Lib.hid (below_drewN' (Below.refl w.heap.size w) m)
  have HI := Lib.hid (h.drew m)
  clear hs hp h
  obtain ⟨W, hW⟩ : ∃ W, W = w.drewN m := ⟨_, rfl⟩
  rw [← hW] at hsW hpW hzW HBW HI ⊢
  clear hW
  go_upto_region 5 with fail
  have hzq : W.heap.size = w.heap.size := hzW
  have HBQ := Lib.hid HBW.out
  have HIQ := Lib.hid HI.out
  clear hzW hpW HBW HI
  generalize W = V at *
  have hsV := HIQ.out.hs
  clear hsW
  have HZ := Lib.hid hzq
  clear h01 h02 hxl hpl hzq
  go_upto_region 6 with fail
  obtain ⟨ka0, ka1, kf0, kf1⟩ := two_new V (.slice none 0 0) (.int .u32 0) 406
  have HBA := Lib.hid (Below.alloc HBQ.out (Nat.le_of_eq HZ.out.symm) (.cells #[.slice none 0 0, .int .u32 0] 406))
  have hsA := (World.cell?_alloc_old V (.cells #[.slice none 0 0, .int .u32 0] 406) ⟨tb, 0, none⟩ (Nat.ne_of_lt (World.block_lt_of_cell? V _ hsV))).trans hsV
  obtain ⟨k, hk⟩ : ∃ k, k = V.heap.size := ⟨_, rfl⟩
  rw [← hk] at ka0 ka1 kf0 kf1 ⊢
  have HK := Lib.hid hk
  clear hsV hk
  generalize V.alloc (.cells #[.slice none 0 0, .int .u32 0] 406) = U at *
  have hkw : w.heap.size ≤ k := by rw [HK.out, HZ.out]; exact Nat.le_refl _
  go_wp2_with fail
  refine (init_Position k rb cap (x + p) B _ _ U ka0 ka1 kf0 kf1 ((HIQ.out.hi).below0 HBQ.out HBA.out hrb) (by omega) HIQ.out.hc HIQ.out.hl hz).mono ?_
  rintro e w1 ⟨rfl, hT, hB1⟩
  clear ka0 ka1 kf0 kf1 hsA
  go_wp2_with fail
  go_ret
  exact ⟨k, rfl, hkw, hT, HBA.out.trans (hB1.mono hkw)⟩

set_option maxRecDepth 100000 in
theorem Position_Line (tb rb cap p : Nat) (B : By) (w : World) (h : TabIn w tb 0 rb cap B p) (hq : p + 0 + 4 ≤ B.length) :
    Calls Tryz.prog 199 #[.pointer (some ⟨tb, 0, none⟩)] w fun e w' => e = .returned (.int .i32 (IntKind.i32.wrap (leAt B (p + 0) 4 : Nat))) ∧ ∃ m, w' = w.drewN m := by
  have hs := h.hs
  have hp : w.cell? ⟨tb, 1, none⟩ = some (.int .u32 (p : Nat)) := h.hp
  have hpl : (p : Int) < 2147483648 := by have := h.hq; have := h.hl; omega
  have D : Hid (∀ n, Calls Tryz.prog 147 #[.pointer (some ⟨tb, 0, none⟩), .int .u32 ((p : Int))] (w.drewN n) fun e w' => e = .returned (.int .i32 (IntKind.i32.wrap (leAt B (p + 0) 4 : Nat))) ∧ w' = w.drewN n) := Lib.hid fun n => ti32_any tb 0 rb cap p (p + 0) B _ (h.drew n) hq
  clear h
  go_enter Tryz.func199, Tryz.ntmps199
  go_upto_region 1 with fail
  go_quiet (first | (go_at_call 147; exact Calls.quiet_of_same (D.out _)))
  go_wp2_with fail
  go_ret
  exact ⟨rfl, nq, rfl⟩

set_option maxRecDepth 100000 in
theorem Position_Column (tb rb cap p : Nat) (B : By) (w : World) (h : TabIn w tb 0 rb cap B p) (hq : p + 4 + 4 ≤ B.length) :
    Calls Tryz.prog 200 #[.pointer (some ⟨tb, 0, none⟩)] w fun e w' => e = .returned (.int .i32 (IntKind.i32.wrap (leAt B (p + 4) 4 : Nat))) ∧ ∃ m, w' = w.drewN m := by
  have hs := h.hs
  have hp : w.cell? ⟨tb, 1, none⟩ = some (.int .u32 (p : Nat)) := h.hp
  have hpl : (p : Int) < 2147483648 := by have := h.hq; have := h.hl; omega
  have D : Hid (∀ n, Calls Tryz.prog 147 #[.pointer (some ⟨tb, 0, none⟩), .int .u32 ((p : Int) + 4)] (w.drewN n) fun e w' => e = .returned (.int .i32 (IntKind.i32.wrap (leAt B (p + 4) 4 : Nat))) ∧ w' = w.drewN n) := Lib.hid fun n => ti32_any tb 0 rb cap p (p + 4) B _ (h.drew n) hq
  clear h
  go_enter Tryz.func200, Tryz.ntmps200
  go_upto_region 1 with fail
  go_quiet (first | (go_at_call 147; exact Calls.quiet_of_same (D.out _)))
  go_wp2_with fail
  go_ret
  exact ⟨rfl, nq, rfl⟩

end Go.Proofs.YtdljkanfebndaaaGreatDoor
