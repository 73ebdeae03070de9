/-
  A flatbuffer's tables: the accessors of package fbast. No conditions.
-/
import Derived.Test.YtcbcdgifakcooaaGreatDoorTab
import Derived.Below
namespace Go.Proofs.YtcbcdgifakcooaaGreatDoor
open Go.RowKit
set_option linter.unusedVariables false
set_option linter.unusedSimpArgs false

theorem BufIn.below {w w' : World} {rb K : Nat} {B : By} (h : BufIn w rb B) (hb : Below K w w') (hr : rb < K) : BufIn w' rb B := fun j x hj => (hb.cell (p := ⟨rb, j, none⟩) hr).trans (h j x hj)
theorem BufIn.below0 {w V U : World} {rb K : Nat} {B : By} (h : BufIn V rb B) (h1 : Below K w V) (h2 : Below K w U) (hr : rb < K) : BufIn U rb B := fun j x hj => (h2.cell (p := ⟨rb, j, none⟩) hr).trans ((h1.cell (p := ⟨rb, j, none⟩) hr).symm.trans (h j x hj))
theorem BufIn.lt {w : World} {rb : Nat} {B : By} (h : BufIn w rb B) (h0 : 0 < B.length) : rb < w.heap.size := World.block_lt_of_cell? w _ (h 0 (B[0]'h0) (List.getElem?_eq_getElem h0))

theorem two_new (w : World) (a b : Value) (t : TypeId) : (w.alloc (.cells #[a, b] t)).cell? ⟨w.heap.size, 0, none⟩ = some a ∧ (w.alloc (.cells #[a, b] t)).cell? ⟨w.heap.size, 1, none⟩ = some b ∧ (w.alloc (.cells #[a, b] t)).frozen? ⟨w.heap.size, 0, none⟩ = false ∧ (w.alloc (.cells #[a, b] t)).frozen? ⟨w.heap.size, 1, none⟩ = false := by
  refine ⟨?_, ?_, ?_, ?_⟩
  · exact World.cell?_alloc_at _ _ _ _ rfl
  · exact World.cell?_alloc_at _ _ _ _ rfl
  · exact World.frozen?_alloc_at _ _ _ _ rfl
  · exact World.frozen?_alloc_at _ _ _ _ rfl

theorem below_drewN' {K : Nat} {a w : World} (h : Below K a w) (n : Nat) : Below K a (w.drewN n) := h.trans ⟨rfl, rfl, rfl, Nat.le_refl _, fun _ _ => rfl⟩

theorem tab_set {k rb cap p : Nat} {B : By} {c0 c1 : Value} {w : World} (h0 : w.cell? ⟨k, 0, none⟩ = some c0) (h1 : w.cell? ⟨k, 1, none⟩ = some c1) (hB : BufIn w rb B) (hk : rb ≠ k) (hc : B.length ≤ cap) (hl : B.length < 2147483648) (hp : p < B.length) :
    TabIn ((w.setCell ⟨k, 0, none⟩ (.slice (some ⟨rb, 0, none⟩) (B.length : Nat) cap)).setCell ⟨k, 1, none⟩ (.int .u32 (p : Nat))) k 0 rb cap B p := by
  refine ⟨?_, ?_, ?_, hc, hl, hp⟩
  · rw [World.cell?_setCell_other _ _ _ _ (by simp)]
    exact World.cell?_setCell_same _ _ _ h0
  · refine World.cell?_setCell_same _ _ _ (u := c1) ?_
    rw [World.cell?_setCell_other _ _ _ _ (by simp)]
    exact h1
  · intro j x hj
    rw [World.cell?_of_block (Below.heap_setCell _ _ _ _ hk), World.cell?_of_block (Below.heap_setCell _ _ _ _ hk)]
    exact hB j x hj
theorem below_set (w : World) (k o1 o2 : Nat) (u v : Value) : Below k w ((w.setCell ⟨k, o1, none⟩ u).setCell ⟨k, o2, none⟩ v) := (((Below.refl k w).setCell (p := ⟨k, o1, none⟩) (Nat.le_refl _) u).setCell (p := ⟨k, o2, none⟩) (Nat.le_refl _) v)

set_option maxRecDepth 100000 in
theorem init_ArrayType (k rb cap p : Nat) (B : By) (c0 c1 : Value) (w : World) (h0 : w.cell? ⟨k, 0, none⟩ = some c0) (h1 : w.cell? ⟨k, 1, none⟩ = some c1) (f0 : w.frozen? ⟨k, 0, none⟩ = false) (f1 : w.frozen? ⟨k, 1, none⟩ = false) (hB : BufIn w rb B) (hk : rb ≠ k) (hc : B.length ≤ cap) (hl : B.length < 2147483648) (hp : p < B.length) :
    Calls Tryz.prog 58 #[.pointer (some ⟨k, 0, none⟩), .slice (some ⟨rb, 0, none⟩) (B.length : Nat) cap, .int .u32 (p : Nat)] w fun e w' => e = .returned (.tuple #[]) ∧ TabIn w' k 0 rb cap B p ∧ Below k w w' := by
  go_enter Tryz.func58, Tryz.ntmps58
  go_wp2_with fail
  go_end0
  exact ⟨rfl, tab_set h0 h1 hB hk hc hl hp, below_set _ _ _ _ _ _⟩

set_option maxRecDepth 100000 in
theorem init_FunctionType (k rb cap p : Nat) (B : By) (c0 c1 : Value) (w : World) (h0 : w.cell? ⟨k, 0, none⟩ = some c0) (h1 : w.cell? ⟨k, 1, none⟩ = some c1) (f0 : w.frozen? ⟨k, 0, none⟩ = false) (f1 : w.frozen? ⟨k, 1, none⟩ = false) (hB : BufIn w rb B) (hk : rb ≠ k) (hc : B.length ≤ cap) (hl : B.length < 2147483648) (hp : p < B.length) :
    Calls Tryz.prog 70 #[.pointer (some ⟨k, 0, none⟩), .slice (some ⟨rb, 0, none⟩) (B.length : Nat) cap, .int .u32 (p : Nat)] w fun e w' => e = .returned (.tuple #[]) ∧ TabIn w' k 0 rb cap B p ∧ Below k w w' := by
  go_enter Tryz.func70, Tryz.ntmps70
  go_wp2_with fail
  go_end0
  exact ⟨rfl, tab_set h0 h1 hB hk hc hl hp, below_set _ _ _ _ _ _⟩

set_option maxRecDepth 100000 in
theorem init_RecordType (k rb cap p : Nat) (B : By) (c0 c1 : Value) (w : World) (h0 : w.cell? ⟨k, 0, none⟩ = some c0) (h1 : w.cell? ⟨k, 1, none⟩ = some c1) (f0 : w.frozen? ⟨k, 0, none⟩ = false) (f1 : w.frozen? ⟨k, 1, none⟩ = false) (hB : BufIn w rb B) (hk : rb ≠ k) (hc : B.length ≤ cap) (hl : B.length < 2147483648) (hp : p < B.length) :
    Calls Tryz.prog 77 #[.pointer (some ⟨k, 0, none⟩), .slice (some ⟨rb, 0, none⟩) (B.length : Nat) cap, .int .u32 (p : Nat)] w fun e w' => e = .returned (.tuple #[]) ∧ TabIn w' k 0 rb cap B p ∧ Below k w w' := by
  go_enter Tryz.func77, Tryz.ntmps77
  go_wp2_with fail
  go_end0
  exact ⟨rfl, tab_set h0 h1 hB hk hc hl hp, below_set _ _ _ _ _ _⟩

set_option maxRecDepth 100000 in
theorem init_DictType (k rb cap p : Nat) (B : By) (c0 c1 : Value) (w : World) (h0 : w.cell? ⟨k, 0, none⟩ = some c0) (h1 : w.cell? ⟨k, 1, none⟩ = some c1) (f0 : w.frozen? ⟨k, 0, none⟩ = false) (f1 : w.frozen? ⟨k, 1, none⟩ = false) (hB : BufIn w rb B) (hk : rb ≠ k) (hc : B.length ≤ cap) (hl : B.length < 2147483648) (hp : p < B.length) :
    Calls Tryz.prog 105 #[.pointer (some ⟨k, 0, none⟩), .slice (some ⟨rb, 0, none⟩) (B.length : Nat) cap, .int .u32 (p : Nat)] w fun e w' => e = .returned (.tuple #[]) ∧ TabIn w' k 0 rb cap B p ∧ Below k w w' := by
  go_enter Tryz.func105, Tryz.ntmps105
  go_wp2_with fail
  go_end0
  exact ⟨rfl, tab_set h0 h1 hB hk hc hl hp, below_set _ _ _ _ _ _⟩

set_option maxRecDepth 100000 in
theorem init_PropertyType (k rb cap p : Nat) (B : By) (c0 c1 : Value) (w : World) (h0 : w.cell? ⟨k, 0, none⟩ = some c0) (h1 : w.cell? ⟨k, 1, none⟩ = some c1) (f0 : w.frozen? ⟨k, 0, none⟩ = false) (f1 : w.frozen? ⟨k, 1, none⟩ = false) (hB : BufIn w rb B) (hk : rb ≠ k) (hc : B.length ≤ cap) (hl : B.length < 2147483648) (hp : p < B.length) :
    Calls Tryz.prog 130 #[.pointer (some ⟨k, 0, none⟩), .slice (some ⟨rb, 0, none⟩) (B.length : Nat) cap, .int .u32 (p : Nat)] w fun e w' => e = .returned (.tuple #[]) ∧ TabIn w' k 0 rb cap B p ∧ Below k w w' := by
  go_enter Tryz.func130, Tryz.ntmps130
  go_wp2_with fail
  go_end0
  exact ⟨rfl, tab_set h0 h1 hB hk hc hl hp, below_set _ _ _ _ _ _⟩

set_option maxRecDepth 100000 in
theorem init_ParameterType (k rb cap p : Nat) (B : By) (c0 c1 : Value) (w : World) (h0 : w.cell? ⟨k, 0, none⟩ = some c0) (h1 : w.cell? ⟨k, 1, none⟩ = some c1) (f0 : w.frozen? ⟨k, 0, none⟩ = false) (f1 : w.frozen? ⟨k, 1, none⟩ = false) (hB : BufIn w rb B) (hk : rb ≠ k) (hc : B.length ≤ cap) (hl : B.length < 2147483648) (hp : p < B.length) :
    Calls Tryz.prog 119 #[.pointer (some ⟨k, 0, none⟩), .slice (some ⟨rb, 0, none⟩) (B.length : Nat) cap, .int .u32 (p : Nat)] w fun e w' => e = .returned (.tuple #[]) ∧ TabIn w' k 0 rb cap B p ∧ Below k w w' := by
  go_enter Tryz.func119, Tryz.ntmps119
  go_wp2_with fail
  go_end0
  exact ⟨rfl, tab_set h0 h1 hB hk hc hl hp, below_set _ _ _ _ _ _⟩

set_option maxRecDepth 100000 in
theorem init_NamedType (k rb cap p : Nat) (B : By) (c0 c1 : Value) (w : World) (h0 : w.cell? ⟨k, 0, none⟩ = some c0) (h1 : w.cell? ⟨k, 1, none⟩ = some c1) (f0 : w.frozen? ⟨k, 0, none⟩ = false) (f1 : w.frozen? ⟨k, 1, none⟩ = false) (hB : BufIn w rb B) (hk : rb ≠ k) (hc : B.length ≤ cap) (hl : B.length < 2147483648) (hp : p < B.length) :
    Calls Tryz.prog 101 #[.pointer (some ⟨k, 0, none⟩), .slice (some ⟨rb, 0, none⟩) (B.length : Nat) cap, .int .u32 (p : Nat)] w fun e w' => e = .returned (.tuple #[]) ∧ TabIn w' k 0 rb cap B p ∧ Below k w w' := by
  go_enter Tryz.func101, Tryz.ntmps101
  go_wp2_with fail
  go_end0
  exact ⟨rfl, tab_set h0 h1 hB hk hc hl hp, below_set _ _ _ _ _ _⟩

set_option maxRecDepth 100000 in
theorem init_TvarType (k rb cap p : Nat) (B : By) (c0 c1 : Value) (w : World) (h0 : w.cell? ⟨k, 0, none⟩ = some c0) (h1 : w.cell? ⟨k, 1, none⟩ = some c1) (f0 : w.frozen? ⟨k, 0, none⟩ = false) (f1 : w.frozen? ⟨k, 1, none⟩ = false) (hB : BufIn w rb B) (hk : rb ≠ k) (hc : B.length ≤ cap) (hl : B.length < 2147483648) (hp : p < B.length) :
    Calls Tryz.prog 103 #[.pointer (some ⟨k, 0, none⟩), .slice (some ⟨rb, 0, none⟩) (B.length : Nat) cap, .int .u32 (p : Nat)] w fun e w' => e = .returned (.tuple #[]) ∧ TabIn w' k 0 rb cap B p ∧ Below k w w' := by
  go_enter Tryz.func103, Tryz.ntmps103
  go_wp2_with fail
  go_end0
  exact ⟨rfl, tab_set h0 h1 hB hk hc hl hp, below_set _ _ _ _ _ _⟩

set_option maxRecDepth 100000 in
theorem init_Identifier (k rb cap p : Nat) (B : By) (c0 c1 : Value) (w : World) (h0 : w.cell? ⟨k, 0, none⟩ = some c0) (h1 : w.cell? ⟨k, 1, none⟩ = some c1) (f0 : w.frozen? ⟨k, 0, none⟩ = false) (f1 : w.frozen? ⟨k, 1, none⟩ = false) (hB : BufIn w rb B) (hk : rb ≠ k) (hc : B.length ≤ cap) (hl : B.length < 2147483648) (hp : p < B.length) :
    Calls Tryz.prog 129 #[.pointer (some ⟨k, 0, none⟩), .slice (some ⟨rb, 0, none⟩) (B.length : Nat) cap, .int .u32 (p : Nat)] w fun e w' => e = .returned (.tuple #[]) ∧ TabIn w' k 0 rb cap B p ∧ Below k w w' := by
  go_enter Tryz.func129, Tryz.ntmps129
  go_wp2_with fail
  go_end0
  exact ⟨rfl, tab_set h0 h1 hB hk hc hl hp, below_set _ _ _ _ _ _⟩

set_option maxRecDepth 100000 in
theorem init_BaseNode (k rb cap p : Nat) (B : By) (c0 c1 : Value) (w : World) (h0 : w.cell? ⟨k, 0, none⟩ = some c0) (h1 : w.cell? ⟨k, 1, none⟩ = some c1) (f0 : w.frozen? ⟨k, 0, none⟩ = false) (f1 : w.frozen? ⟨k, 1, none⟩ = false) (hB : BufIn w rb B) (hk : rb ≠ k) (hc : B.length ≤ cap) (hl : B.length < 2147483648) (hp : p < B.length) :
    Calls Tryz.prog 100 #[.pointer (some ⟨k, 0, none⟩), .slice (some ⟨rb, 0, none⟩) (B.length : Nat) cap, .int .u32 (p : Nat)] w fun e w' => e = .returned (.tuple #[]) ∧ TabIn w' k 0 rb cap B p ∧ Below k w w' := by
  go_enter Tryz.func100, Tryz.ntmps100
  go_wp2_with fail
  go_end0
  exact ⟨rfl, tab_set h0 h1 hB hk hc hl hp, below_set _ _ _ _ _ _⟩

set_option maxRecDepth 100000 in
theorem init_SourceLocation (k rb cap p : Nat) (B : By) (c0 c1 : Value) (w : World) (h0 : w.cell? ⟨k, 0, none⟩ = some c0) (h1 : w.cell? ⟨k, 1, none⟩ = some c1) (f0 : w.frozen? ⟨k, 0, none⟩ = false) (f1 : w.frozen? ⟨k, 1, none⟩ = false) (hB : BufIn w rb B) (hk : rb ≠ k) (hc : B.length ≤ cap) (hl : B.length < 2147483648) (hp : p < B.length) :
    Calls Tryz.prog 155 #[.pointer (some ⟨k, 0, none⟩), .slice (some ⟨rb, 0, none⟩) (B.length : Nat) cap, .int .u32 (p : Nat)] w fun e w' => e = .returned (.tuple #[]) ∧ TabIn w' k 0 rb cap B p ∧ Below k w w' := by
  go_enter Tryz.func155, Tryz.ntmps155
  go_wp2_with fail
  go_end0
  exact ⟨rfl, tab_set h0 h1 hB hk hc hl hp, below_set _ _ _ _ _ _⟩

set_option maxRecDepth 100000 in
theorem Identifier_Name_none (tb rb cap p : Nat) (B : By) (ps : List Nat) (hx : ps.getD 1 0 = 0) (w : World) (h : TabIn w tb 0 rb cap B p) (ht : TabAt B p ps) :
    Calls Tryz.prog 128 #[.pointer (some ⟨tb, 0, none⟩)] w fun e w' => e = .returned (.slice none 0 0) ∧ ∃ m, w' = w.drewN m := by
  go_enter Tryz.func128, Tryz.ntmps128
  go_wp2_with fail
  refine (offset_any tb 0 rb cap p 1 6 (by decide) B ps 0 hx (by decide) w h ht).mono ?_
  rintro e w1 ⟨rfl, m, rfl⟩
  go_wp2_with fail
  go_ret
  exact ⟨rfl, m, rfl⟩

set_option maxRecDepth 100000 in
theorem Identifier_Name (tb rb cap p : Nat) (B : By) (ps : List Nat) (x : Nat) (hx : ps.getD 1 0 = x) (h0 : x ≠ 0) (w : World) (h : TabIn w tb 0 rb cap B p) (ht : TabAt B p ps) (hl : x < 65536) (hq : x + p + 4 ≤ B.length) (d l : Nat) (hd : leAt B (x + p) 4 = d) (hz : x + p + d + 4 + l < B.length) (hn : leAt B (x + p + d) 4 = l) :
    Calls Tryz.prog 128 #[.pointer (some ⟨tb, 0, none⟩)] w fun e w' => e = .returned (.slice (some ⟨rb, x + p + d + 4, none⟩) l (cap - (x + p + d + 4))) ∧ ∃ m, w' = w.drewN m := by
  have hs := h.hs
  have hp : w.cell? ⟨tb, 1, none⟩ = some (.int .u32 (p : Nat)) := h.hp
  have h01 : ((x : Int) == 0) = false := by simpa using h0
  have h02 : ((x : Int) != 0) = true := by simpa using h0
  have hxl : (x : Int) < 65536 := by omega
  have hpl : (p : Int) < 2147483648 := by have := h.hq; have := h.hl; omega
  go_enter Tryz.func128, Tryz.ntmps128
  go_wp2_with fail
  refine (offset_any tb 0 rb cap p 1 6 (by decide) B ps x hx (by decide) w h ht).mono ?_
  rintro e w1 ⟨rfl, m, rfl⟩
  have D : Hid (∀ n, Calls Tryz.prog 157 #[.pointer (some ⟨tb, 0, none⟩), .int .u32 ((x : Int) + (p : Int))] ((w.drewN m).drewN n) fun e w' => e = .returned (.slice (some ⟨rb, x + p + d + 4, none⟩) l (cap - (x + p + d + 4))) ∧ w' = (w.drewN m).drewN n) := Lib.hid fun n => byteVector_any tb 0 rb cap p (x + p) B _ ((h.drew m).drew n) hq d hd l hz hn
  clear hx h0
  go_upto_region 3 with fail
  have hsW : (w.drewN m).cell? ⟨tb, 0, none⟩ = some (.slice (some ⟨rb, 0, none⟩) (B.length : Nat) cap) := hs
  have hpW : (w.drewN m).cell? ⟨tb, 1, none⟩ = some (.int .u32 (p : Nat)) := hp
  clear hs hp h
  obtain ⟨W, hW⟩ : ∃ W, W = w.drewN m := ⟨_, rfl⟩
  rw [← hW] at hsW hpW D ⊢
  have HW := Lib.hid hW
  clear hW
  go_quiet (first | (go_at_call 157; exact Calls.quiet_of_same (D.out _)))
  go_wp2_with fail
  go_ret
  have hW := HW.out
  subst hW
  exact ⟨rfl, m + nq, World.drewN_drewN _ _ _⟩

set_option maxRecDepth 100000 in
theorem SourceLocation_File_none (tb rb cap p : Nat) (B : By) (ps : List Nat) (hx : ps.getD 0 0 = 0) (w : World) (h : TabIn w tb 0 rb cap B p) (ht : TabAt B p ps) :
    Calls Tryz.prog 150 #[.pointer (some ⟨tb, 0, none⟩)] w fun e w' => e = .returned (.slice none 0 0) ∧ ∃ m, w' = w.drewN m := by
  go_enter Tryz.func150, Tryz.ntmps150
  go_wp2_with fail
  refine (offset_any tb 0 rb cap p 0 4 (by decide) B ps 0 hx (by decide) w h ht).mono ?_
  rintro e w1 ⟨rfl, m, rfl⟩
  go_wp2_with fail
  go_ret
  exact ⟨rfl, m, rfl⟩

set_option maxRecDepth 100000 in
theorem SourceLocation_File (tb rb cap p : Nat) (B : By) (ps : List Nat) (x : Nat) (hx : ps.getD 0 0 = x) (h0 : x ≠ 0) (w : World) (h : TabIn w tb 0 rb cap B p) (ht : TabAt B p ps) (hl : x < 65536) (hq : x + p + 4 ≤ B.length) (d l : Nat) (hd : leAt B (x + p) 4 = d) (hz : x + p + d + 4 + l < B.length) (hn : leAt B (x + p + d) 4 = l) :
    Calls Tryz.prog 150 #[.pointer (some ⟨tb, 0, none⟩)] w fun e w' => e = .returned (.slice (some ⟨rb, x + p + d + 4, none⟩) l (cap - (x + p + d + 4))) ∧ ∃ m, w' = w.drewN m := by
  have hs := h.hs
  have hp : w.cell? ⟨tb, 1, none⟩ = some (.int .u32 (p : Nat)) := h.hp
  have h01 : ((x : Int) == 0) = false := by simpa using h0
  have h02 : ((x : Int) != 0) = true := by simpa using h0
  have hxl : (x : Int) < 65536 := by omega
  have hpl : (p : Int) < 2147483648 := by have := h.hq; have := h.hl; omega
  go_enter Tryz.func150, Tryz.ntmps150
  go_wp2_with fail
  refine (offset_any tb 0 rb cap p 0 4 (by decide) B ps x hx (by decide) w h ht).mono ?_
  rintro e w1 ⟨rfl, m, rfl⟩
  have D : Hid (∀ n, Calls Tryz.prog 157 #[.pointer (some ⟨tb, 0, none⟩), .int .u32 ((x : Int) + (p : Int))] ((w.drewN m).drewN n) fun e w' => e = .returned (.slice (some ⟨rb, x + p + d + 4, none⟩) l (cap - (x + p + d + 4))) ∧ w' = (w.drewN m).drewN n) := Lib.hid fun n => byteVector_any tb 0 rb cap p (x + p) B _ ((h.drew m).drew n) hq d hd l hz hn
  clear hx h0
  go_upto_region 3 with fail
  have hsW : (w.drewN m).cell? ⟨tb, 0, none⟩ = some (.slice (some ⟨rb, 0, none⟩) (B.length : Nat) cap) := hs
  have hpW : (w.drewN m).cell? ⟨tb, 1, none⟩ = some (.int .u32 (p : Nat)) := hp
  clear hs hp h
  obtain ⟨W, hW⟩ : ∃ W, W = w.drewN m := ⟨_, rfl⟩
  rw [← hW] at hsW hpW D ⊢
  have HW := Lib.hid hW
  clear hW
  go_quiet (first | (go_at_call 157; exact Calls.quiet_of_same (D.out _)))
  go_wp2_with fail
  go_ret
  have hW := HW.out
  subst hW
  exact ⟨rfl, m + nq, World.drewN_drewN _ _ _⟩

set_option maxRecDepth 100000 in
theorem SourceLocation_Source_none (tb rb cap p : Nat) (B : By) (ps : List Nat) (hx : ps.getD 3 0 = 0) (w : World) (h : TabIn w tb 0 rb cap B p) (ht : TabAt B p ps) :
    Calls Tryz.prog 154 #[.pointer (some ⟨tb, 0, none⟩)] w fun e w' => e = .returned (.slice none 0 0) ∧ ∃ m, w' = w.drewN m := by
  go_enter Tryz.func154, Tryz.ntmps154
  go_wp2_with fail
  refine (offset_any tb 0 rb cap p 3 10 (by decide) B ps 0 hx (by decide) w h ht).mono ?_
  rintro e w1 ⟨rfl, m, rfl⟩
  go_wp2_with fail
  go_ret
  exact ⟨rfl, m, rfl⟩

set_option maxRecDepth 100000 in
theorem SourceLocation_Source (tb rb cap p : Nat) (B : By) (ps : List Nat) (x : Nat) (hx : ps.getD 3 0 = x) (h0 : x ≠ 0) (w : World) (h : TabIn w tb 0 rb cap B p) (ht : TabAt B p ps) (hl : x < 65536) (hq : x + p + 4 ≤ B.length) (d l : Nat) (hd : leAt B (x + p) 4 = d) (hz : x + p + d + 4 + l < B.length) (hn : leAt B (x + p + d) 4 = l) :
    Calls Tryz.prog 154 #[.pointer (some ⟨tb, 0, none⟩)] w fun e w' => e = .returned (.slice (some ⟨rb, x + p + d + 4, none⟩) l (cap - (x + p + d + 4))) ∧ ∃ m, w' = w.drewN m := by
  have hs := h.hs
  have hp : w.cell? ⟨tb, 1, none⟩ = some (.int .u32 (p : Nat)) := h.hp
  have h01 : ((x : Int) == 0) = false := by simpa using h0
  have h02 : ((x : Int) != 0) = true := by simpa using h0
  have hxl : (x : Int) < 65536 := by omega
  have hpl : (p : Int) < 2147483648 := by have := h.hq; have := h.hl; omega
  go_enter Tryz.func154, Tryz.ntmps154
  go_wp2_with fail
  refine (offset_any tb 0 rb cap p 3 10 (by decide) B ps x hx (by decide) w h ht).mono ?_
  rintro e w1 ⟨rfl, m, rfl⟩
  have D : Hid (∀ n, Calls Tryz.prog 157 #[.pointer (some ⟨tb, 0, none⟩), .int .u32 ((x : Int) + (p : Int))] ((w.drewN m).drewN n) fun e w' => e = .returned (.slice (some ⟨rb, x + p + d + 4, none⟩) l (cap - (x + p + d + 4))) ∧ w' = (w.drewN m).drewN n) := Lib.hid fun n => byteVector_any tb 0 rb cap p (x + p) B _ ((h.drew m).drew n) hq d hd l hz hn
  clear hx h0
  go_upto_region 3 with fail
  have hsW : (w.drewN m).cell? ⟨tb, 0, none⟩ = some (.slice (some ⟨rb, 0, none⟩) (B.length : Nat) cap) := hs
  have hpW : (w.drewN m).cell? ⟨tb, 1, none⟩ = some (.int .u32 (p : Nat)) := hp
  clear hs hp h
  obtain ⟨W, hW⟩ : ∃ W, W = w.drewN m := ⟨_, rfl⟩
  rw [← hW] at hsW hpW D ⊢
  have HW := Lib.hid hW
  clear hW
  go_quiet (first | (go_at_call 157; exact Calls.quiet_of_same (D.out _)))
  go_wp2_with fail
  go_ret
  have hW := HW.out
  subst hW
  exact ⟨rfl, m + nq, World.drewN_drewN _ _ _⟩

set_option maxRecDepth 100000 in
theorem BaseNode_ErrorsLength_none (tb rb cap p : Nat) (B : By) (ps : List Nat) (hx : ps.getD 1 0 = 0) (w : World) (h : TabIn w tb 0 rb cap B p) (ht : TabAt B p ps) :
    Calls Tryz.prog 93 #[.pointer (some ⟨tb, 0, none⟩)] w fun e w' => e = .returned (.int .i64 0) ∧ ∃ m, w' = w.drewN m := by
  go_enter Tryz.func93, Tryz.ntmps93
  go_wp2_with fail
  refine (offset_any tb 0 rb cap p 1 6 (by decide) B ps 0 hx (by decide) w h ht).mono ?_
  rintro e w1 ⟨rfl, m, rfl⟩
  go_wp2_with fail
  go_ret
  exact ⟨rfl, m, rfl⟩

set_option maxRecDepth 100000 in
theorem BaseNode_ErrorsLength (tb rb cap p : Nat) (B : By) (ps : List Nat) (x : Nat) (hx : ps.getD 1 0 = x) (h0 : x ≠ 0) (w : World) (h : TabIn w tb 0 rb cap B p) (ht : TabAt B p ps) (hl : x < 65536) (hq : x + p + 4 ≤ B.length) (d l : Nat) (hd : leAt B (x + p) 4 = d) (hz : x + p + d + 4 ≤ B.length) (hn : leAt B (x + p + d) 4 = l) :
    Calls Tryz.prog 93 #[.pointer (some ⟨tb, 0, none⟩)] w fun e w' => e = .returned (.int .i64 (l : Nat)) ∧ ∃ m, w' = w.drewN m := by
  have h01 : ((x : Int) == 0) = false := by simpa using h0
  have h02 : ((x : Int) != 0) = true := by simpa using h0
  have hxl : (x : Int) < 65536 := by omega
  go_enter Tryz.func93, Tryz.ntmps93
  go_wp2_with fail
  refine (offset_any tb 0 rb cap p 1 6 (by decide) B ps x hx (by decide) w h ht).mono ?_
  rintro e w1 ⟨rfl, m, rfl⟩
  clear hx h0
  go_wp2_with fail
  refine (vectorLen_any tb 0 rb cap p x B _ (h.drew m) hq d hd l hz hn).mono ?_
  rintro e w1 ⟨rfl, rfl⟩
  go_wp2_with fail
  go_ret
  exact ⟨rfl, m, rfl⟩

set_option maxRecDepth 100000 in
theorem BaseNode_CommentsLength_none (tb rb cap p : Nat) (B : By) (ps : List Nat) (hx : ps.getD 2 0 = 0) (w : World) (h : TabIn w tb 0 rb cap B p) (ht : TabAt B p ps) :
    Calls Tryz.prog 95 #[.pointer (some ⟨tb, 0, none⟩)] w fun e w' => e = .returned (.int .i64 0) ∧ ∃ m, w' = w.drewN m := by
  go_enter Tryz.func95, Tryz.ntmps95
  go_wp2_with fail
  refine (offset_any tb 0 rb cap p 2 8 (by decide) B ps 0 hx (by decide) w h ht).mono ?_
  rintro e w1 ⟨rfl, m, rfl⟩
  go_wp2_with fail
  go_ret
  exact ⟨rfl, m, rfl⟩

set_option maxRecDepth 100000 in
theorem BaseNode_CommentsLength (tb rb cap p : Nat) (B : By) (ps : List Nat) (x : Nat) (hx : ps.getD 2 0 = x) (h0 : x ≠ 0) (w : World) (h : TabIn w tb 0 rb cap B p) (ht : TabAt B p ps) (hl : x < 65536) (hq : x + p + 4 ≤ B.length) (d l : Nat) (hd : leAt B (x + p) 4 = d) (hz : x + p + d + 4 ≤ B.length) (hn : leAt B (x + p + d) 4 = l) :
    Calls Tryz.prog 95 #[.pointer (some ⟨tb, 0, none⟩)] w fun e w' => e = .returned (.int .i64 (l : Nat)) ∧ ∃ m, w' = w.drewN m := by
  have h01 : ((x : Int) == 0) = false := by simpa using h0
  have h02 : ((x : Int) != 0) = true := by simpa using h0
  have hxl : (x : Int) < 65536 := by omega
  go_enter Tryz.func95, Tryz.ntmps95
  go_wp2_with fail
  refine (offset_any tb 0 rb cap p 2 8 (by decide) B ps x hx (by decide) w h ht).mono ?_
  rintro e w1 ⟨rfl, m, rfl⟩
  clear hx h0
  go_wp2_with fail
  refine (vectorLen_any tb 0 rb cap p x B _ (h.drew m) hq d hd l hz hn).mono ?_
  rintro e w1 ⟨rfl, rfl⟩
  go_wp2_with fail
  go_ret
  exact ⟨rfl, m, rfl⟩

set_option maxRecDepth 100000 in
theorem RecordType_PropertiesLength_none (tb rb cap p : Nat) (B : By) (ps : List Nat) (hx : ps.getD 1 0 = 0) (w : World) (h : TabIn w tb 0 rb cap B p) (ht : TabAt B p ps) :
    Calls Tryz.prog 74 #[.pointer (some ⟨tb, 0, none⟩)] w fun e w' => e = .returned (.int .i64 0) ∧ ∃ m, w' = w.drewN m := by
  go_enter Tryz.func74, Tryz.ntmps74
  go_wp2_with fail
  refine (offset_any tb 0 rb cap p 1 6 (by decide) B ps 0 hx (by decide) w h ht).mono ?_
  rintro e w1 ⟨rfl, m, rfl⟩
  go_wp2_with fail
  go_ret
  exact ⟨rfl, m, rfl⟩

set_option maxRecDepth 100000 in
theorem RecordType_PropertiesLength (tb rb cap p : Nat) (B : By) (ps : List Nat) (x : Nat) (hx : ps.getD 1 0 = x) (h0 : x ≠ 0) (w : World) (h : TabIn w tb 0 rb cap B p) (ht : TabAt B p ps) (hl : x < 65536) (hq : x + p + 4 ≤ B.length) (d l : Nat) (hd : leAt B (x + p) 4 = d) (hz : x + p + d + 4 ≤ B.length) (hn : leAt B (x + p + d) 4 = l) :
    Calls Tryz.prog 74 #[.pointer (some ⟨tb, 0, none⟩)] w fun e w' => e = .returned (.int .i64 (l : Nat)) ∧ ∃ m, w' = w.drewN m := by
  have h01 : ((x : Int) == 0) = false := by simpa using h0
  have h02 : ((x : Int) != 0) = true := by simpa using h0
  have hxl : (x : Int) < 65536 := by omega
  go_enter Tryz.func74, Tryz.ntmps74
  go_wp2_with fail
  refine (offset_any tb 0 rb cap p 1 6 (by decide) B ps x hx (by decide) w h ht).mono ?_
  rintro e w1 ⟨rfl, m, rfl⟩
  clear hx h0
  go_wp2_with fail
  refine (vectorLen_any tb 0 rb cap p x B _ (h.drew m) hq d hd l hz hn).mono ?_
  rintro e w1 ⟨rfl, rfl⟩
  go_wp2_with fail
  go_ret
  exact ⟨rfl, m, rfl⟩

set_option maxRecDepth 100000 in
theorem FunctionType_ParametersLength_none (tb rb cap p : Nat) (B : By) (ps : List Nat) (hx : ps.getD 1 0 = 0) (w : World) (h : TabIn w tb 0 rb cap B p) (ht : TabAt B p ps) :
    Calls Tryz.prog 66 #[.pointer (some ⟨tb, 0, none⟩)] w fun e w' => e = .returned (.int .i64 0) ∧ ∃ m, w' = w.drewN m := by
  go_enter Tryz.func66, Tryz.ntmps66
  go_wp2_with fail
  refine (offset_any tb 0 rb cap p 1 6 (by decide) B ps 0 hx (by decide) w h ht).mono ?_
  rintro e w1 ⟨rfl, m, rfl⟩
  go_wp2_with fail
  go_ret
  exact ⟨rfl, m, rfl⟩

set_option maxRecDepth 100000 in
theorem FunctionType_ParametersLength (tb rb cap p : Nat) (B : By) (ps : List Nat) (x : Nat) (hx : ps.getD 1 0 = x) (h0 : x ≠ 0) (w : World) (h : TabIn w tb 0 rb cap B p) (ht : TabAt B p ps) (hl : x < 65536) (hq : x + p + 4 ≤ B.length) (d l : Nat) (hd : leAt B (x + p) 4 = d) (hz : x + p + d + 4 ≤ B.length) (hn : leAt B (x + p + d) 4 = l) :
    Calls Tryz.prog 66 #[.pointer (some ⟨tb, 0, none⟩)] w fun e w' => e = .returned (.int .i64 (l : Nat)) ∧ ∃ m, w' = w.drewN m := by
  have h01 : ((x : Int) == 0) = false := by simpa using h0
  have h02 : ((x : Int) != 0) = true := by simpa using h0
  have hxl : (x : Int) < 65536 := by omega
  go_enter Tryz.func66, Tryz.ntmps66
  go_wp2_with fail
  refine (offset_any tb 0 rb cap p 1 6 (by decide) B ps x hx (by decide) w h ht).mono ?_
  rintro e w1 ⟨rfl, m, rfl⟩
  clear hx h0
  go_wp2_with fail
  refine (vectorLen_any tb 0 rb cap p x B _ (h.drew m) hq d hd l hz hn).mono ?_
  rintro e w1 ⟨rfl, rfl⟩
  go_wp2_with fail
  go_ret
  exact ⟨rfl, m, rfl⟩

set_option maxRecDepth 100000 in
theorem ArrayType_BaseNode_none (tb rb cap p : Nat) (B : By) (ps : List Nat) (hx : ps.getD 0 0 = 0) (w : World) (h : TabIn w tb 0 rb cap B p) (ht : TabAt B p ps) :
    Calls Tryz.prog 52 #[.pointer (some ⟨tb, 0, none⟩), .pointer none] w fun e w' => e = .returned (.pointer none) ∧ ∃ m, w' = w.drewN m := by
  go_enter Tryz.func52, Tryz.ntmps52
  go_wp2_with fail
  refine (offset_any tb 0 rb cap p 0 4 (by decide) B ps 0 hx (by decide) w h ht).mono ?_
  rintro e w1 ⟨rfl, m, rfl⟩
  go_wp2_with fail
  go_ret
  exact ⟨rfl, m, rfl⟩

set_option maxRecDepth 100000 in
theorem ArrayType_BaseNode (tb rb cap p : Nat) (B : By) (ps : List Nat) (x : Nat) (hx : ps.getD 0 0 = x) (h0 : x ≠ 0) (w : World) (h : TabIn w tb 0 rb cap B p) (ht : TabAt B p ps) (hl : x < 65536) (hq : x + p + 4 ≤ B.length) (d : Nat) (hd : leAt B (x + p) 4 = d) (hz : x + p + d < B.length) :
    Calls Tryz.prog 52 #[.pointer (some ⟨tb, 0, none⟩), .pointer none] w fun e w' => ∃ k, e = .returned (.pointer (some ⟨k, 0, none⟩)) ∧ w.heap.size ≤ k ∧ TabIn w' k 0 rb cap B (x + p + d) ∧ Below w.heap.size w w' := by
  have hs := h.hs
  have hp : w.cell? ⟨tb, 1, none⟩ = some (.int .u32 (p : Nat)) := h.hp
  have h01 : ((x : Int) == 0) = false := by simpa using h0
  have h02 : ((x : Int) != 0) = true := by simpa using h0
  have hxl : (x : Int) < 65536 := by omega
  have hpl : (p : Int) < 2147483648 := by have := h.hq; have := h.hl; omega
  have hrb := h.hi.lt (by have := h.hq; omega)
  go_enter Tryz.func52, Tryz.ntmps52
  go_wp2_with fail
  refine (offset_any tb 0 rb cap p 0 4 (by decide) B ps x hx (by decide) w h ht).mono ?_
  rintro e w1 ⟨rfl, m, rfl⟩
  have D : Hid (∀ n, Calls Tryz.prog 99 #[.pointer (some ⟨tb, 0, none⟩), .int .u32 ((x : Int) + (p : Int))] ((w.drewN m).drewN n) fun e w' => e = .returned (.int .u32 (x + p + d : Nat)) ∧ w' = (w.drewN m).drewN n) := Lib.hid fun n => indirect_any tb 0 rb cap p (x + p) B _ ((h.drew m).drew n) hq d hd hz
  clear hx h0
  go_upto_region 3 with fail
  have hsW : (w.drewN m).cell? ⟨tb, 0, none⟩ = some (.slice (some ⟨rb, 0, none⟩) (B.length : Nat) cap) := hs
  have hpW : (w.drewN m).cell? ⟨tb, 1, none⟩ = some (.int .u32 (p : Nat)) := hp
  have hzW : (w.drewN m).heap.size = w.heap.size := rfl
  have HBW := Lib.hid (below_drewN' (Below.refl w.heap.size w) m)
  have HI := Lib.hid (h.drew m)
  clear hs hp h
  obtain ⟨W, hW⟩ : ∃ W, W = w.drewN m := ⟨_, rfl⟩
  rw [← hW] at hsW hpW D hzW HBW HI ⊢
  clear hW
  go_quiet (first | (go_at_call 99; exact Calls.quiet_of_same (D.out _)))
  have hzq : (W.drewN nq).heap.size = w.heap.size := hzW
  have HBQ := Lib.hid (below_drewN' HBW.out nq)
  have HIQ := Lib.hid (HI.out.drew nq)
  clear hzW hsW hpW D HBW HI
  generalize W.drewN nq = V at *
  have hsV := HIQ.out.hs
  have HZ := Lib.hid hzq
  clear h01 h02 hxl hpl hzq
  go_upto_region 6 with fail
  obtain ⟨ka0, ka1, kf0, kf1⟩ := two_new V (.slice none 0 0) (.int .u32 0) 337
  have HBA := Lib.hid (Below.alloc HBQ.out (Nat.le_of_eq HZ.out.symm) (.cells #[.slice none 0 0, .int .u32 0] 337))
  have hsA := (World.cell?_alloc_old V (.cells #[.slice none 0 0, .int .u32 0] 337) ⟨tb, 0, none⟩ (Nat.ne_of_lt (World.block_lt_of_cell? V _ hsV))).trans hsV
  obtain ⟨k, hk⟩ : ∃ k, k = V.heap.size := ⟨_, rfl⟩
  rw [← hk] at ka0 ka1 kf0 kf1 ⊢
  have HK := Lib.hid hk
  clear hsV hk
  generalize V.alloc (.cells #[.slice none 0 0, .int .u32 0] 337) = U at *
  have hkw : w.heap.size ≤ k := by rw [HK.out, HZ.out]; exact Nat.le_refl _
  go_wp2_with fail
  refine (init_BaseNode k rb cap (x + p + d) B _ _ U ka0 ka1 kf0 kf1 ((HIQ.out.hi).below0 HBQ.out HBA.out hrb) (by omega) HIQ.out.hc HIQ.out.hl hz).mono ?_
  rintro e w1 ⟨rfl, hT, hB1⟩
  clear ka0 ka1 kf0 kf1 hsA
  go_wp2_with fail
  go_ret
  exact ⟨k, rfl, hkw, hT, HBA.out.trans (hB1.mono hkw)⟩

set_option maxRecDepth 100000 in
theorem FunctionType_BaseNode_none (tb rb cap p : Nat) (B : By) (ps : List Nat) (hx : ps.getD 0 0 = 0) (w : World) (h : TabIn w tb 0 rb cap B p) (ht : TabAt B p ps) :
    Calls Tryz.prog 63 #[.pointer (some ⟨tb, 0, none⟩), .pointer none] w fun e w' => e = .returned (.pointer none) ∧ ∃ m, w' = w.drewN m := by
  go_enter Tryz.func63, Tryz.ntmps63
  go_wp2_with fail
  refine (offset_any tb 0 rb cap p 0 4 (by decide) B ps 0 hx (by decide) w h ht).mono ?_
  rintro e w1 ⟨rfl, m, rfl⟩
  go_wp2_with fail
  go_ret
  exact ⟨rfl, m, rfl⟩

set_option maxRecDepth 100000 in
theorem FunctionType_BaseNode (tb rb cap p : Nat) (B : By) (ps : List Nat) (x : Nat) (hx : ps.getD 0 0 = x) (h0 : x ≠ 0) (w : World) (h : TabIn w tb 0 rb cap B p) (ht : TabAt B p ps) (hl : x < 65536) (hq : x + p + 4 ≤ B.length) (d : Nat) (hd : leAt B (x + p) 4 = d) (hz : x + p + d < B.length) :
    Calls Tryz.prog 63 #[.pointer (some ⟨tb, 0, none⟩), .pointer none] w fun e w' => ∃ k, e = .returned (.pointer (some ⟨k, 0, none⟩)) ∧ w.heap.size ≤ k ∧ TabIn w' k 0 rb cap B (x + p + d) ∧ Below w.heap.size w w' := by
  have hs := h.hs
  have hp : w.cell? ⟨tb, 1, none⟩ = some (.int .u32 (p : Nat)) := h.hp
  have h01 : ((x : Int) == 0) = false := by simpa using h0
  have h02 : ((x : Int) != 0) = true := by simpa using h0
  have hxl : (x : Int) < 65536 := by omega
  have hpl : (p : Int) < 2147483648 := by have := h.hq; have := h.hl; omega
  have hrb := h.hi.lt (by have := h.hq; omega)
  go_enter Tryz.func63, Tryz.ntmps63
  go_wp2_with fail
  refine (offset_any tb 0 rb cap p 0 4 (by decide) B ps x hx (by decide) w h ht).mono ?_
  rintro e w1 ⟨rfl, m, rfl⟩
  have D : Hid (∀ n, Calls Tryz.prog 99 #[.pointer (some ⟨tb, 0, none⟩), .int .u32 ((x : Int) + (p : Int))] ((w.drewN m).drewN n) fun e w' => e = .returned (.int .u32 (x + p + d : Nat)) ∧ w' = (w.drewN m).drewN n) := Lib.hid fun n => indirect_any tb 0 rb cap p (x + p) B _ ((h.drew m).drew n) hq d hd hz
  clear hx h0
  go_upto_region 3 with fail
  have hsW : (w.drewN m).cell? ⟨tb, 0, none⟩ = some (.slice (some ⟨rb, 0, none⟩) (B.length : Nat) cap) := hs
  have hpW : (w.drewN m).cell? ⟨tb, 1, none⟩ = some (.int .u32 (p : Nat)) := hp
  have hzW : (w.drewN m).heap.size = w.heap.size := rfl
  have HBW := Lib.hid (below_drewN' (Below.refl w.heap.size w) m)
  have HI := Lib.hid (h.drew m)
  clear hs hp h
  obtain ⟨W, hW⟩ : ∃ W, W = w.drewN m := ⟨_, rfl⟩
  rw [← hW] at hsW hpW D hzW HBW HI ⊢
  clear hW
  go_quiet (first | (go_at_call 99; exact Calls.quiet_of_same (D.out _)))
  have hzq : (W.drewN nq).heap.size = w.heap.size := hzW
  have HBQ := Lib.hid (below_drewN' HBW.out nq)
  have HIQ := Lib.hid (HI.out.drew nq)
  clear hzW hsW hpW D HBW HI
  generalize W.drewN nq = V at *
  have hsV := HIQ.out.hs
  have HZ := Lib.hid hzq
  clear h01 h02 hxl hpl hzq
  go_upto_region 6 with fail
  obtain ⟨ka0, ka1, kf0, kf1⟩ := two_new V (.slice none 0 0) (.int .u32 0) 337
  have HBA := Lib.hid (Below.alloc HBQ.out (Nat.le_of_eq HZ.out.symm) (.cells #[.slice none 0 0, .int .u32 0] 337))
  have hsA := (World.cell?_alloc_old V (.cells #[.slice none 0 0, .int .u32 0] 337) ⟨tb, 0, none⟩ (Nat.ne_of_lt (World.block_lt_of_cell? V _ hsV))).trans hsV
  obtain ⟨k, hk⟩ : ∃ k, k = V.heap.size := ⟨_, rfl⟩
  rw [← hk] at ka0 ka1 kf0 kf1 ⊢
  have HK := Lib.hid hk
  clear hsV hk
  generalize V.alloc (.cells #[.slice none 0 0, .int .u32 0] 337) = U at *
  have hkw : w.heap.size ≤ k := by rw [HK.out, HZ.out]; exact Nat.le_refl _
  go_wp2_with fail
  refine (init_BaseNode k rb cap (x + p + d) B _ _ U ka0 ka1 kf0 kf1 ((HIQ.out.hi).below0 HBQ.out HBA.out hrb) (by omega) HIQ.out.hc HIQ.out.hl hz).mono ?_
  rintro e w1 ⟨rfl, hT, hB1⟩
  clear ka0 ka1 kf0 kf1 hsA
  go_wp2_with fail
  go_ret
  exact ⟨k, rfl, hkw, hT, HBA.out.trans (hB1.mono hkw)⟩

set_option maxRecDepth 100000 in
theorem RecordType_BaseNode_none (tb rb cap p : Nat) (B : By) (ps : List Nat) (hx : ps.getD 0 0 = 0) (w : World) (h : TabIn w tb 0 rb cap B p) (ht : TabAt B p ps) :
    Calls Tryz.prog 71 #[.pointer (some ⟨tb, 0, none⟩), .pointer none] w fun e w' => e = .returned (.pointer none) ∧ ∃ m, w' = w.drewN m := by
  go_enter Tryz.func71, Tryz.ntmps71
  go_wp2_with fail
  refine (offset_any tb 0 rb cap p 0 4 (by decide) B ps 0 hx (by decide) w h ht).mono ?_
  rintro e w1 ⟨rfl, m, rfl⟩
  go_wp2_with fail
  go_ret
  exact ⟨rfl, m, rfl⟩

set_option maxRecDepth 100000 in
theorem RecordType_BaseNode (tb rb cap p : Nat) (B : By) (ps : List Nat) (x : Nat) (hx : ps.getD 0 0 = x) (h0 : x ≠ 0) (w : World) (h : TabIn w tb 0 rb cap B p) (ht : TabAt B p ps) (hl : x < 65536) (hq : x + p + 4 ≤ B.length) (d : Nat) (hd : leAt B (x + p) 4 = d) (hz : x + p + d < B.length) :
    Calls Tryz.prog 71 #[.pointer (some ⟨tb, 0, none⟩), .pointer none] w fun e w' => ∃ k, e = .returned (.pointer (some ⟨k, 0, none⟩)) ∧ w.heap.size ≤ k ∧ TabIn w' k 0 rb cap B (x + p + d) ∧ Below w.heap.size w w' := by
  have hs := h.hs
  have hp : w.cell? ⟨tb, 1, none⟩ = some (.int .u32 (p : Nat)) := h.hp
  have h01 : ((x : Int) == 0) = false := by simpa using h0
  have h02 : ((x : Int) != 0) = true := by simpa using h0
  have hxl : (x : Int) < 65536 := by omega
  have hpl : (p : Int) < 2147483648 := by have := h.hq; have := h.hl; omega
  have hrb := h.hi.lt (by have := h.hq; omega)
  go_enter Tryz.func71, Tryz.ntmps71
  go_wp2_with fail
  refine (offset_any tb 0 rb cap p 0 4 (by decide) B ps x hx (by decide) w h ht).mono ?_
  rintro e w1 ⟨rfl, m, rfl⟩
  have D : Hid (∀ n, Calls Tryz.prog 99 #[.pointer (some ⟨tb, 0, none⟩), .int .u32 ((x : Int) + (p : Int))] ((w.drewN m).drewN n) fun e w' => e = .returned (.int .u32 (x + p + d : Nat)) ∧ w' = (w.drewN m).drewN n) := Lib.hid fun n => indirect_any tb 0 rb cap p (x + p) B _ ((h.drew m).drew n) hq d hd hz
  clear hx h0
  go_upto_region 3 with fail
  have hsW : (w.drewN m).cell? ⟨tb, 0, none⟩ = some (.slice (some ⟨rb, 0, none⟩) (B.length : Nat) cap) := hs
  have hpW : (w.drewN m).cell? ⟨tb, 1, none⟩ = some (.int .u32 (p : Nat)) := hp
  have hzW : (w.drewN m).heap.size = w.heap.size := rfl
  have HBW := Lib.hid (below_drewN' (Below.refl w.heap.size w) m)
  have HI := Lib.hid (h.drew m)
  clear hs hp h
  obtain ⟨W, hW⟩ : ∃ W, W = w.drewN m := ⟨_, rfl⟩
  rw [← hW] at hsW hpW D hzW HBW HI ⊢
  clear hW
  go_quiet (first | (go_at_call 99; exact Calls.quiet_of_same (D.out _)))
  have hzq : (W.drewN nq).heap.size = w.heap.size := hzW
  have HBQ := Lib.hid (below_drewN' HBW.out nq)
  have HIQ := Lib.hid (HI.out.drew nq)
  clear hzW hsW hpW D HBW HI
  generalize W.drewN nq = V at *
  have hsV := HIQ.out.hs
  have HZ := Lib.hid hzq
  clear h01 h02 hxl hpl hzq
  go_upto_region 6 with fail
  obtain ⟨ka0, ka1, kf0, kf1⟩ := two_new V (.slice none 0 0) (.int .u32 0) 337
  have HBA := Lib.hid (Below.alloc HBQ.out (Nat.le_of_eq HZ.out.symm) (.cells #[.slice none 0 0, .int .u32 0] 337))
  have hsA := (World.cell?_alloc_old V (.cells #[.slice none 0 0, .int .u32 0] 337) ⟨tb, 0, none⟩ (Nat.ne_of_lt (World.block_lt_of_cell? V _ hsV))).trans hsV
  obtain ⟨k, hk⟩ : ∃ k, k = V.heap.size := ⟨_, rfl⟩
  rw [← hk] at ka0 ka1 kf0 kf1 ⊢
  have HK := Lib.hid hk
  clear hsV hk
  generalize V.alloc (.cells #[.slice none 0 0, .int .u32 0] 337) = U at *
  have hkw : w.heap.size ≤ k := by rw [HK.out, HZ.out]; exact Nat.le_refl _
  go_wp2_with fail
  refine (init_BaseNode k rb cap (x + p + d) B _ _ U ka0 ka1 kf0 kf1 ((HIQ.out.hi).below0 HBQ.out HBA.out hrb) (by omega) HIQ.out.hc HIQ.out.hl hz).mono ?_
  rintro e w1 ⟨rfl, hT, hB1⟩
  clear ka0 ka1 kf0 kf1 hsA
  go_wp2_with fail
  go_ret
  exact ⟨k, rfl, hkw, hT, HBA.out.trans (hB1.mono hkw)⟩

set_option maxRecDepth 100000 in
theorem DictType_BaseNode_none (tb rb cap p : Nat) (B : By) (ps : List Nat) (hx : ps.getD 0 0 = 0) (w : World) (h : TabIn w tb 0 rb cap B p) (ht : TabAt B p ps) :
    Calls Tryz.prog 166 #[.pointer (some ⟨tb, 0, none⟩), .pointer none] w fun e w' => e = .returned (.pointer none) ∧ ∃ m, w' = w.drewN m := by
  go_enter Tryz.func166, Tryz.ntmps166
  go_wp2_with fail
  refine (offset_any tb 0 rb cap p 0 4 (by decide) B ps 0 hx (by decide) w h ht).mono ?_
  rintro e w1 ⟨rfl, m, rfl⟩
  go_wp2_with fail
  go_ret
  exact ⟨rfl, m, rfl⟩

set_option maxRecDepth 100000 in
theorem DictType_BaseNode (tb rb cap p : Nat) (B : By) (ps : List Nat) (x : Nat) (hx : ps.getD 0 0 = x) (h0 : x ≠ 0) (w : World) (h : TabIn w tb 0 rb cap B p) (ht : TabAt B p ps) (hl : x < 65536) (hq : x + p + 4 ≤ B.length) (d : Nat) (hd : leAt B (x + p) 4 = d) (hz : x + p + d < B.length) :
    Calls Tryz.prog 166 #[.pointer (some ⟨tb, 0, none⟩), .pointer none] w fun e w' => ∃ k, e = .returned (.pointer (some ⟨k, 0, none⟩)) ∧ w.heap.size ≤ k ∧ TabIn w' k 0 rb cap B (x + p + d) ∧ Below w.heap.size w w' := by
  have hs := h.hs
  have hp : w.cell? ⟨tb, 1, none⟩ = some (.int .u32 (p : Nat)) := h.hp
  have h01 : ((x : Int) == 0) = false := by simpa using h0
  have h02 : ((x : Int) != 0) = true := by simpa using h0
  have hxl : (x : Int) < 65536 := by omega
  have hpl : (p : Int) < 2147483648 := by have := h.hq; have := h.hl; omega
  have hrb := h.hi.lt (by have := h.hq; omega)
  go_enter Tryz.func166, Tryz.ntmps166
  go_wp2_with fail
  refine (offset_any tb 0 rb cap p 0 4 (by decide) B ps x hx (by decide) w h ht).mono ?_
  rintro e w1 ⟨rfl, m, rfl⟩
  have D : Hid (∀ n, Calls Tryz.prog 99 #[.pointer (some ⟨tb, 0, none⟩), .int .u32 ((x : Int) + (p : Int))] ((w.drewN m).drewN n) fun e w' => e = .returned (.int .u32 (x + p + d : Nat)) ∧ w' = (w.drewN m).drewN n) := Lib.hid fun n => indirect_any tb 0 rb cap p (x + p) B _ ((h.drew m).drew n) hq d hd hz
  clear hx h0
  go_upto_region 3 with fail
  have hsW : (w.drewN m).cell? ⟨tb, 0, none⟩ = some (.slice (some ⟨rb, 0, none⟩) (B.length : Nat) cap) := hs
  have hpW : (w.drewN m).cell? ⟨tb, 1, none⟩ = some (.int .u32 (p : Nat)) := hp
  have hzW : (w.drewN m).heap.size = w.heap.size := rfl
  have HBW := Lib.hid (below_drewN' (Below.refl w.heap.size w) m)
  have HI := Lib.hid (h.drew m)
  clear hs hp h
  obtain ⟨W, hW⟩ : ∃ W, W = w.drewN m := ⟨_, rfl⟩
  rw [← hW] at hsW hpW D hzW HBW HI ⊢
  clear hW
  go_quiet (first | (go_at_call 99; exact Calls.quiet_of_same (D.out _)))
  have hzq : (W.drewN nq).heap.size = w.heap.size := hzW
  have HBQ := Lib.hid (below_drewN' HBW.out nq)
  have HIQ := Lib.hid (HI.out.drew nq)
  clear hzW hsW hpW D HBW HI
  generalize W.drewN nq = V at *
  have hsV := HIQ.out.hs
  have HZ := Lib.hid hzq
  clear h01 h02 hxl hpl hzq
  go_upto_region 6 with fail
  obtain ⟨ka0, ka1, kf0, kf1⟩ := two_new V (.slice none 0 0) (.int .u32 0) 337
  have HBA := Lib.hid (Below.alloc HBQ.out (Nat.le_of_eq HZ.out.symm) (.cells #[.slice none 0 0, .int .u32 0] 337))
  have hsA := (World.cell?_alloc_old V (.cells #[.slice none 0 0, .int .u32 0] 337) ⟨tb, 0, none⟩ (Nat.ne_of_lt (World.block_lt_of_cell? V _ hsV))).trans hsV
  obtain ⟨k, hk⟩ : ∃ k, k = V.heap.size := ⟨_, rfl⟩
  rw [← hk] at ka0 ka1 kf0 kf1 ⊢
  have HK := Lib.hid hk
  clear hsV hk
  generalize V.alloc (.cells #[.slice none 0 0, .int .u32 0] 337) = U at *
  have hkw : w.heap.size ≤ k := by rw [HK.out, HZ.out]; exact Nat.le_refl _
  go_wp2_with fail
  refine (init_BaseNode k rb cap (x + p + d) B _ _ U ka0 ka1 kf0 kf1 ((HIQ.out.hi).below0 HBQ.out HBA.out hrb) (by omega) HIQ.out.hc HIQ.out.hl hz).mono ?_
  rintro e w1 ⟨rfl, hT, hB1⟩
  clear ka0 ka1 kf0 kf1 hsA
  go_wp2_with fail
  go_ret
  exact ⟨k, rfl, hkw, hT, HBA.out.trans (hB1.mono hkw)⟩

set_option maxRecDepth 100000 in
theorem PropertyType_BaseNode_none (tb rb cap p : Nat) (B : By) (ps : List Nat) (hx : ps.getD 0 0 = 0) (w : World) (h : TabIn w tb 0 rb cap B p) (ht : TabAt B p ps) :
    Calls Tryz.prog 131 #[.pointer (some ⟨tb, 0, none⟩), .pointer none] w fun e w' => e = .returned (.pointer none) ∧ ∃ m, w' = w.drewN m := by
  go_enter Tryz.func131, Tryz.ntmps131
  go_wp2_with fail
  refine (offset_any tb 0 rb cap p 0 4 (by decide) B ps 0 hx (by decide) w h ht).mono ?_
  rintro e w1 ⟨rfl, m, rfl⟩
  go_wp2_with fail
  go_ret
  exact ⟨rfl, m, rfl⟩

set_option maxRecDepth 100000 in
theorem PropertyType_BaseNode (tb rb cap p : Nat) (B : By) (ps : List Nat) (x : Nat) (hx : ps.getD 0 0 = x) (h0 : x ≠ 0) (w : World) (h : TabIn w tb 0 rb cap B p) (ht : TabAt B p ps) (hl : x < 65536) (hq : x + p + 4 ≤ B.length) (d : Nat) (hd : leAt B (x + p) 4 = d) (hz : x + p + d < B.length) :
    Calls Tryz.prog 131 #[.pointer (some ⟨tb, 0, none⟩), .pointer none] w fun e w' => ∃ k, e = .returned (.pointer (some ⟨k, 0, none⟩)) ∧ w.heap.size ≤ k ∧ TabIn w' k 0 rb cap B (x + p + d) ∧ Below w.heap.size w w' := by
  have hs := h.hs
  have hp : w.cell? ⟨tb, 1, none⟩ = some (.int .u32 (p : Nat)) := h.hp
  have h01 : ((x : Int) == 0) = false := by simpa using h0
  have h02 : ((x : Int) != 0) = true := by simpa using h0
  have hxl : (x : Int) < 65536 := by omega
  have hpl : (p : Int) < 2147483648 := by have := h.hq; have := h.hl; omega
  have hrb := h.hi.lt (by have := h.hq; omega)
  go_enter Tryz.func131, Tryz.ntmps131
  go_wp2_with fail
  refine (offset_any tb 0 rb cap p 0 4 (by decide) B ps x hx (by decide) w h ht).mono ?_
  rintro e w1 ⟨rfl, m, rfl⟩
  have D : Hid (∀ n, Calls Tryz.prog 99 #[.pointer (some ⟨tb, 0, none⟩), .int .u32 ((x : Int) + (p : Int))] ((w.drewN m).drewN n) fun e w' => e = .returned (.int .u32 (x + p + d : Nat)) ∧ w' = (w.drewN m).drewN n) := Lib.hid fun n => indirect_any tb 0 rb cap p (x + p) B _ ((h.drew m).drew n) hq d hd hz
  clear hx h0
  go_upto_region 3 with fail
  have hsW : (w.drewN m).cell? ⟨tb, 0, none⟩ = some (.slice (some ⟨rb, 0, none⟩) (B.length : Nat) cap) := hs
  have hpW : (w.drewN m).cell? ⟨tb, 1, none⟩ = some (.int .u32 (p : Nat)) := hp
  have hzW : (w.drewN m).heap.size = w.heap.size := rfl
  have HBW := Lib.hid (below_drewN' (Below.refl w.heap.size w) m)
  have HI := Lib.hid (h.drew m)
  clear hs hp h
  obtain ⟨W, hW⟩ : ∃ W, W = w.drewN m := ⟨_, rfl⟩
  rw [← hW] at hsW hpW D hzW HBW HI ⊢
  clear hW
  go_quiet (first | (go_at_call 99; exact Calls.quiet_of_same (D.out _)))
  have hzq : (W.drewN nq).heap.size = w.heap.size := hzW
  have HBQ := Lib.hid (below_drewN' HBW.out nq)
  have HIQ := Lib.hid (HI.out.drew nq)
  clear hzW hsW hpW D HBW HI
  generalize W.drewN nq = V at *
  have hsV := HIQ.out.hs
  have HZ := Lib.hid hzq
  clear h01 h02 hxl hpl hzq
  go_upto_region 6 with fail
  obtain ⟨ka0, ka1, kf0, kf1⟩ := two_new V (.slice none 0 0) (.int .u32 0) 337
  have HBA := Lib.hid (Below.alloc HBQ.out (Nat.le_of_eq HZ.out.symm) (.cells #[.slice none 0 0, .int .u32 0] 337))
  have hsA := (World.cell?_alloc_old V (.cells #[.slice none 0 0, .int .u32 0] 337) ⟨tb, 0, none⟩ (Nat.ne_of_lt (World.block_lt_of_cell? V _ hsV))).trans hsV
  obtain ⟨k, hk⟩ : ∃ k, k = V.heap.size := ⟨_, rfl⟩
  rw [← hk] at ka0 ka1 kf0 kf1 ⊢
  have HK := Lib.hid hk
  clear hsV hk
  generalize V.alloc (.cells #[.slice none 0 0, .int .u32 0] 337) = U at *
  have hkw : w.heap.size ≤ k := by rw [HK.out, HZ.out]; exact Nat.le_refl _
  go_wp2_with fail
  refine (init_BaseNode k rb cap (x + p + d) B _ _ U ka0 ka1 kf0 kf1 ((HIQ.out.hi).below0 HBQ.out HBA.out hrb) (by omega) HIQ.out.hc HIQ.out.hl hz).mono ?_
  rintro e w1 ⟨rfl, hT, hB1⟩
  clear ka0 ka1 kf0 kf1 hsA
  go_wp2_with fail
  go_ret
  exact ⟨k, rfl, hkw, hT, HBA.out.trans (hB1.mono hkw)⟩

set_option maxRecDepth 100000 in
theorem ParameterType_BaseNode_none (tb rb cap p : Nat) (B : By) (ps : List Nat) (hx : ps.getD 0 0 = 0) (w : World) (h : TabIn w tb 0 rb cap B p) (ht : TabAt B p ps) :
    Calls Tryz.prog 121 #[.pointer (some ⟨tb, 0, none⟩), .pointer none] w fun e w' => e = .returned (.pointer none) ∧ ∃ m, w' = w.drewN m := by
  go_enter Tryz.func121, Tryz.ntmps121
  go_wp2_with fail
  refine (offset_any tb 0 rb cap p 0 4 (by decide) B ps 0 hx (by decide) w h ht).mono ?_
  rintro e w1 ⟨rfl, m, rfl⟩
  go_wp2_with fail
  go_ret
  exact ⟨rfl, m, rfl⟩

set_option maxRecDepth 100000 in
theorem ParameterType_BaseNode (tb rb cap p : Nat) (B : By) (ps : List Nat) (x : Nat) (hx : ps.getD 0 0 = x) (h0 : x ≠ 0) (w : World) (h : TabIn w tb 0 rb cap B p) (ht : TabAt B p ps) (hl : x < 65536) (hq : x + p + 4 ≤ B.length) (d : Nat) (hd : leAt B (x + p) 4 = d) (hz : x + p + d < B.length) :
    Calls Tryz.prog 121 #[.pointer (some ⟨tb, 0, none⟩), .pointer none] w fun e w' => ∃ k, e = .returned (.pointer (some ⟨k, 0, none⟩)) ∧ w.heap.size ≤ k ∧ TabIn w' k 0 rb cap B (x + p + d) ∧ Below w.heap.size w w' := by
  have hs := h.hs
  have hp : w.cell? ⟨tb, 1, none⟩ = some (.int .u32 (p : Nat)) := h.hp
  have h01 : ((x : Int) == 0) = false := by simpa using h0
  have h02 : ((x : Int) != 0) = true := by simpa using h0
  have hxl : (x : Int) < 65536 := by omega
  have hpl : (p : Int) < 2147483648 := by have := h.hq; have := h.hl; omega
  have hrb := h.hi.lt (by have := h.hq; omega)
  go_enter Tryz.func121, Tryz.ntmps121
  go_wp2_with fail
  refine (offset_any tb 0 rb cap p 0 4 (by decide) B ps x hx (by decide) w h ht).mono ?_
  rintro e w1 ⟨rfl, m, rfl⟩
  have D : Hid (∀ n, Calls Tryz.prog 99 #[.pointer (some ⟨tb, 0, none⟩), .int .u32 ((x : Int) + (p : Int))] ((w.drewN m).drewN n) fun e w' => e = .returned (.int .u32 (x + p + d : Nat)) ∧ w' = (w.drewN m).drewN n) := Lib.hid fun n => indirect_any tb 0 rb cap p (x + p) B _ ((h.drew m).drew n) hq d hd hz
  clear hx h0
  go_upto_region 3 with fail
  have hsW : (w.drewN m).cell? ⟨tb, 0, none⟩ = some (.slice (some ⟨rb, 0, none⟩) (B.length : Nat) cap) := hs
  have hpW : (w.drewN m).cell? ⟨tb, 1, none⟩ = some (.int .u32 (p : Nat)) := hp
  have hzW : (w.drewN m).heap.size = w.heap.size := rfl
  have HBW := Lib.hid (below_drewN' (Below.refl w.heap.size w) m)
  have HI := Lib.hid (h.drew m)
  clear hs hp h
  obtain ⟨W, hW⟩ : ∃ W, W = w.drewN m := ⟨_, rfl⟩
  rw [← hW] at hsW hpW D hzW HBW HI ⊢
  clear hW
  go_quiet (first | (go_at_call 99; exact Calls.quiet_of_same (D.out _)))
  have hzq : (W.drewN nq).heap.size = w.heap.size := hzW
  have HBQ := Lib.hid (below_drewN' HBW.out nq)
  have HIQ := Lib.hid (HI.out.drew nq)
  clear hzW hsW hpW D HBW HI
  generalize W.drewN nq = V at *
  have hsV := HIQ.out.hs
  have HZ := Lib.hid hzq
  clear h01 h02 hxl hpl hzq
  go_upto_region 6 with fail
  obtain ⟨ka0, ka1, kf0, kf1⟩ := two_new V (.slice none 0 0) (.int .u32 0) 337
  have HBA := Lib.hid (Below.alloc HBQ.out (Nat.le_of_eq HZ.out.symm) (.cells #[.slice none 0 0, .int .u32 0] 337))
  have hsA := (World.cell?_alloc_old V (.cells #[.slice none 0 0, .int .u32 0] 337) ⟨tb, 0, none⟩ (Nat.ne_of_lt (World.block_lt_of_cell? V _ hsV))).trans hsV
  obtain ⟨k, hk⟩ : ∃ k, k = V.heap.size := ⟨_, rfl⟩
  rw [← hk] at ka0 ka1 kf0 kf1 ⊢
  have HK := Lib.hid hk
  clear hsV hk
  generalize V.alloc (.cells #[.slice none 0 0, .int .u32 0] 337) = U at *
  have hkw : w.heap.size ≤ k := by rw [HK.out, HZ.out]; exact Nat.le_refl _
  go_wp2_with fail
  refine (init_BaseNode k rb cap (x + p + d) B _ _ U ka0 ka1 kf0 kf1 ((HIQ.out.hi).below0 HBQ.out HBA.out hrb) (by omega) HIQ.out.hc HIQ.out.hl hz).mono ?_
  rintro e w1 ⟨rfl, hT, hB1⟩
  clear ka0 ka1 kf0 kf1 hsA
  go_wp2_with fail
  go_ret
  exact ⟨k, rfl, hkw, hT, HBA.out.trans (hB1.mono hkw)⟩

set_option maxRecDepth 100000 in
theorem NamedType_BaseNode_none (tb rb cap p : Nat) (B : By) (ps : List Nat) (hx : ps.getD 0 0 = 0) (w : World) (h : TabIn w tb 0 rb cap B p) (ht : TabAt B p ps) :
    Calls Tryz.prog 162 #[.pointer (some ⟨tb, 0, none⟩), .pointer none] w fun e w' => e = .returned (.pointer none) ∧ ∃ m, w' = w.drewN m := by
  go_enter Tryz.func162, Tryz.ntmps162
  go_wp2_with fail
  refine (offset_any tb 0 rb cap p 0 4 (by decide) B ps 0 hx (by decide) w h ht).mono ?_
  rintro e w1 ⟨rfl, m, rfl⟩
  go_wp2_with fail
  go_ret
  exact ⟨rfl, m, rfl⟩

set_option maxRecDepth 100000 in
theorem NamedType_BaseNode (tb rb cap p : Nat) (B : By) (ps : List Nat) (x : Nat) (hx : ps.getD 0 0 = x) (h0 : x ≠ 0) (w : World) (h : TabIn w tb 0 rb cap B p) (ht : TabAt B p ps) (hl : x < 65536) (hq : x + p + 4 ≤ B.length) (d : Nat) (hd : leAt B (x + p) 4 = d) (hz : x + p + d < B.length) :
    Calls Tryz.prog 162 #[.pointer (some ⟨tb, 0, none⟩), .pointer none] w fun e w' => ∃ k, e = .returned (.pointer (some ⟨k, 0, none⟩)) ∧ w.heap.size ≤ k ∧ TabIn w' k 0 rb cap B (x + p + d) ∧ Below w.heap.size w w' := by
  have hs := h.hs
  have hp : w.cell? ⟨tb, 1, none⟩ = some (.int .u32 (p : Nat)) := h.hp
  have h01 : ((x : Int) == 0) = false := by simpa using h0
  have h02 : ((x : Int) != 0) = true := by simpa using h0
  have hxl : (x : Int) < 65536 := by omega
  have hpl : (p : Int) < 2147483648 := by have := h.hq; have := h.hl; omega
  have hrb := h.hi.lt (by have := h.hq; omega)
  go_enter Tryz.func162, Tryz.ntmps162
  go_wp2_with fail
  refine (offset_any tb 0 rb cap p 0 4 (by decide) B ps x hx (by decide) w h ht).mono ?_
  rintro e w1 ⟨rfl, m, rfl⟩
  have D : Hid (∀ n, Calls Tryz.prog 99 #[.pointer (some ⟨tb, 0, none⟩), .int .u32 ((x : Int) + (p : Int))] ((w.drewN m).drewN n) fun e w' => e = .returned (.int .u32 (x + p + d : Nat)) ∧ w' = (w.drewN m).drewN n) := Lib.hid fun n => indirect_any tb 0 rb cap p (x + p) B _ ((h.drew m).drew n) hq d hd hz
  clear hx h0
  go_upto_region 3 with fail
  have hsW : (w.drewN m).cell? ⟨tb, 0, none⟩ = some (.slice (some ⟨rb, 0, none⟩) (B.length : Nat) cap) := hs
  have hpW : (w.drewN m).cell? ⟨tb, 1, none⟩ = some (.int .u32 (p : Nat)) := hp
  have hzW : (w.drewN m).heap.size = w.heap.size := rfl
  have HBW := Lib.hid (below_drewN' (Below.refl w.heap.size w) m)
  have HI := Lib.hid (h.drew m)
  clear hs hp h
  obtain ⟨W, hW⟩ : ∃ W, W = w.drewN m := ⟨_, rfl⟩
  rw [← hW] at hsW hpW D hzW HBW HI ⊢
  clear hW
  go_quiet (first | (go_at_call 99; exact Calls.quiet_of_same (D.out _)))
  have hzq : (W.drewN nq).heap.size = w.heap.size := hzW
  have HBQ := Lib.hid (below_drewN' HBW.out nq)
  have HIQ := Lib.hid (HI.out.drew nq)
  clear hzW hsW hpW D HBW HI
  generalize W.drewN nq = V at *
  have hsV := HIQ.out.hs
  have HZ := Lib.hid hzq
  clear h01 h02 hxl hpl hzq
  go_upto_region 6 with fail
  obtain ⟨ka0, ka1, kf0, kf1⟩ := two_new V (.slice none 0 0) (.int .u32 0) 337
  have HBA := Lib.hid (Below.alloc HBQ.out (Nat.le_of_eq HZ.out.symm) (.cells #[.slice none 0 0, .int .u32 0] 337))
  have hsA := (World.cell?_alloc_old V (.cells #[.slice none 0 0, .int .u32 0] 337) ⟨tb, 0, none⟩ (Nat.ne_of_lt (World.block_lt_of_cell? V _ hsV))).trans hsV
  obtain ⟨k, hk⟩ : ∃ k, k = V.heap.size := ⟨_, rfl⟩
  rw [← hk] at ka0 ka1 kf0 kf1 ⊢
  have HK := Lib.hid hk
  clear hsV hk
  generalize V.alloc (.cells #[.slice none 0 0, .int .u32 0] 337) = U at *
  have hkw : w.heap.size ≤ k := by rw [HK.out, HZ.out]; exact Nat.le_refl _
  go_wp2_with fail
  refine (init_BaseNode k rb cap (x + p + d) B _ _ U ka0 ka1 kf0 kf1 ((HIQ.out.hi).below0 HBQ.out HBA.out hrb) (by omega) HIQ.out.hc HIQ.out.hl hz).mono ?_
  rintro e w1 ⟨rfl, hT, hB1⟩
  clear ka0 ka1 kf0 kf1 hsA
  go_wp2_with fail
  go_ret
  exact ⟨k, rfl, hkw, hT, HBA.out.trans (hB1.mono hkw)⟩

set_option maxRecDepth 100000 in
theorem TvarType_BaseNode_none (tb rb cap p : Nat) (B : By) (ps : List Nat) (hx : ps.getD 0 0 = 0) (w : World) (h : TabIn w tb 0 rb cap B p) (ht : TabAt B p ps) :
    Calls Tryz.prog 164 #[.pointer (some ⟨tb, 0, none⟩), .pointer none] w fun e w' => e = .returned (.pointer none) ∧ ∃ m, w' = w.drewN m := by
  go_enter Tryz.func164, Tryz.ntmps164
  go_wp2_with fail
  refine (offset_any tb 0 rb cap p 0 4 (by decide) B ps 0 hx (by decide) w h ht).mono ?_
  rintro e w1 ⟨rfl, m, rfl⟩
  go_wp2_with fail
  go_ret
  exact ⟨rfl, m, rfl⟩

set_option maxRecDepth 100000 in
theorem TvarType_BaseNode (tb rb cap p : Nat) (B : By) (ps : List Nat) (x : Nat) (hx : ps.getD 0 0 = x) (h0 : x ≠ 0) (w : World) (h : TabIn w tb 0 rb cap B p) (ht : TabAt B p ps) (hl : x < 65536) (hq : x + p + 4 ≤ B.length) (d : Nat) (hd : leAt B (x + p) 4 = d) (hz : x + p + d < B.length) :
    Calls Tryz.prog 164 #[.pointer (some ⟨tb, 0, none⟩), .pointer none] w fun e w' => ∃ k, e = .returned (.pointer (some ⟨k, 0, none⟩)) ∧ w.heap.size ≤ k ∧ TabIn w' k 0 rb cap B (x + p + d) ∧ Below w.heap.size w w' := by
  have hs := h.hs
  have hp : w.cell? ⟨tb, 1, none⟩ = some (.int .u32 (p : Nat)) := h.hp
  have h01 : ((x : Int) == 0) = false := by simpa using h0
  have h02 : ((x : Int) != 0) = true := by simpa using h0
  have hxl : (x : Int) < 65536 := by omega
  have hpl : (p : Int) < 2147483648 := by have := h.hq; have := h.hl; omega
  have hrb := h.hi.lt (by have := h.hq; omega)
  go_enter Tryz.func164, Tryz.ntmps164
  go_wp2_with fail
  refine (offset_any tb 0 rb cap p 0 4 (by decide) B ps x hx (by decide) w h ht).mono ?_
  rintro e w1 ⟨rfl, m, rfl⟩
  have D : Hid (∀ n, Calls Tryz.prog 99 #[.pointer (some ⟨tb, 0, none⟩), .int .u32 ((x : Int) + (p : Int))] ((w.drewN m).drewN n) fun e w' => e = .returned (.int .u32 (x + p + d : Nat)) ∧ w' = (w.drewN m).drewN n) := Lib.hid fun n => indirect_any tb 0 rb cap p (x + p) B _ ((h.drew m).drew n) hq d hd hz
  clear hx h0
  go_upto_region 3 with fail
  have hsW : (w.drewN m).cell? ⟨tb, 0, none⟩ = some (.slice (some ⟨rb, 0, none⟩) (B.length : Nat) cap) := hs
  have hpW : (w.drewN m).cell? ⟨tb, 1, none⟩ = some (.int .u32 (p : Nat)) := hp
  have hzW : (w.drewN m).heap.size = w.heap.size := rfl
  have HBW := Lib.hid (below_drewN' (Below.refl w.heap.size w) m)
  have HI := Lib.hid (h.drew m)
  clear hs hp h
  obtain ⟨W, hW⟩ : ∃ W, W = w.drewN m := ⟨_, rfl⟩
  rw [← hW] at hsW hpW D hzW HBW HI ⊢
  clear hW
  go_quiet (first | (go_at_call 99; exact Calls.quiet_of_same (D.out _)))
  have hzq : (W.drewN nq).heap.size = w.heap.size := hzW
  have HBQ := Lib.hid (below_drewN' HBW.out nq)
  have HIQ := Lib.hid (HI.out.drew nq)
  clear hzW hsW hpW D HBW HI
  generalize W.drewN nq = V at *
  have hsV := HIQ.out.hs
  have HZ := Lib.hid hzq
  clear h01 h02 hxl hpl hzq
  go_upto_region 6 with fail
  obtain ⟨ka0, ka1, kf0, kf1⟩ := two_new V (.slice none 0 0) (.int .u32 0) 337
  have HBA := Lib.hid (Below.alloc HBQ.out (Nat.le_of_eq HZ.out.symm) (.cells #[.slice none 0 0, .int .u32 0] 337))
  have hsA := (World.cell?_alloc_old V (.cells #[.slice none 0 0, .int .u32 0] 337) ⟨tb, 0, none⟩ (Nat.ne_of_lt (World.block_lt_of_cell? V _ hsV))).trans hsV
  obtain ⟨k, hk⟩ : ∃ k, k = V.heap.size := ⟨_, rfl⟩
  rw [← hk] at ka0 ka1 kf0 kf1 ⊢
  have HK := Lib.hid hk
  clear hsV hk
  generalize V.alloc (.cells #[.slice none 0 0, .int .u32 0] 337) = U at *
  have hkw : w.heap.size ≤ k := by rw [HK.out, HZ.out]; exact Nat.le_refl _
  go_wp2_with fail
  refine (init_BaseNode k rb cap (x + p + d) B _ _ U ka0 ka1 kf0 kf1 ((HIQ.out.hi).below0 HBQ.out HBA.out hrb) (by omega) HIQ.out.hc HIQ.out.hl hz).mono ?_
  rintro e w1 ⟨rfl, hT, hB1⟩
  clear ka0 ka1 kf0 kf1 hsA
  go_wp2_with fail
  go_ret
  exact ⟨k, rfl, hkw, hT, HBA.out.trans (hB1.mono hkw)⟩

set_option maxRecDepth 100000 in
theorem Identifier_BaseNode_none (tb rb cap p : Nat) (B : By) (ps : List Nat) (hx : ps.getD 0 0 = 0) (w : World) (h : TabIn w tb 0 rb cap B p) (ht : TabAt B p ps) :
    Calls Tryz.prog 127 #[.pointer (some ⟨tb, 0, none⟩), .pointer none] w fun e w' => e = .returned (.pointer none) ∧ ∃ m, w' = w.drewN m := by
  go_enter Tryz.func127, Tryz.ntmps127
  go_wp2_with fail
  refine (offset_any tb 0 rb cap p 0 4 (by decide) B ps 0 hx (by decide) w h ht).mono ?_
  rintro e w1 ⟨rfl, m, rfl⟩
  go_wp2_with fail
  go_ret
  exact ⟨rfl, m, rfl⟩

set_option maxRecDepth 100000 in
theorem Identifier_BaseNode (tb rb cap p : Nat) (B : By) (ps : List Nat) (x : Nat) (hx : ps.getD 0 0 = x) (h0 : x ≠ 0) (w : World) (h : TabIn w tb 0 rb cap B p) (ht : TabAt B p ps) (hl : x < 65536) (hq : x + p + 4 ≤ B.length) (d : Nat) (hd : leAt B (x + p) 4 = d) (hz : x + p + d < B.length) :
    Calls Tryz.prog 127 #[.pointer (some ⟨tb, 0, none⟩), .pointer none] w fun e w' => ∃ k, e = .returned (.pointer (some ⟨k, 0, none⟩)) ∧ w.heap.size ≤ k ∧ TabIn w' k 0 rb cap B (x + p + d) ∧ Below w.heap.size w w' := by
  have hs := h.hs
  have hp : w.cell? ⟨tb, 1, none⟩ = some (.int .u32 (p : Nat)) := h.hp
  have h01 : ((x : Int) == 0) = false := by simpa using h0
  have h02 : ((x : Int) != 0) = true := by simpa using h0
  have hxl : (x : Int) < 65536 := by omega
  have hpl : (p : Int) < 2147483648 := by have := h.hq; have := h.hl; omega
  have hrb := h.hi.lt (by have := h.hq; omega)
  go_enter Tryz.func127, Tryz.ntmps127
  go_wp2_with fail
  refine (offset_any tb 0 rb cap p 0 4 (by decide) B ps x hx (by decide) w h ht).mono ?_
  rintro e w1 ⟨rfl, m, rfl⟩
  have D : Hid (∀ n, Calls Tryz.prog 99 #[.pointer (some ⟨tb, 0, none⟩), .int .u32 ((x : Int) + (p : Int))] ((w.drewN m).drewN n) fun e w' => e = .returned (.int .u32 (x + p + d : Nat)) ∧ w' = (w.drewN m).drewN n) := Lib.hid fun n => indirect_any tb 0 rb cap p (x + p) B _ ((h.drew m).drew n) hq d hd hz
  clear hx h0
  go_upto_region 3 with fail
  have hsW : (w.drewN m).cell? ⟨tb, 0, none⟩ = some (.slice (some ⟨rb, 0, none⟩) (B.length : Nat) cap) := hs
  have hpW : (w.drewN m).cell? ⟨tb, 1, none⟩ = some (.int .u32 (p : Nat)) := hp
  have hzW : (w.drewN m).heap.size = w.heap.size := rfl
  have HBW := Lib.hid (below_drewN' (Below.refl w.heap.size w) m)
  have HI := Lib.hid (h.drew m)
  clear hs hp h
  obtain ⟨W, hW⟩ : ∃ W, W = w.drewN m := ⟨_, rfl⟩
  rw [← hW] at hsW hpW D hzW HBW HI ⊢
  clear hW
  go_quiet (first | (go_at_call 99; exact Calls.quiet_of_same (D.out _)))
  have hzq : (W.drewN nq).heap.size = w.heap.size := hzW
  have HBQ := Lib.hid (below_drewN' HBW.out nq)
  have HIQ := Lib.hid (HI.out.drew nq)
  clear hzW hsW hpW D HBW HI
  generalize W.drewN nq = V at *
  have hsV := HIQ.out.hs
  have HZ := Lib.hid hzq
  clear h01 h02 hxl hpl hzq
  go_upto_region 6 with fail
  obtain ⟨ka0, ka1, kf0, kf1⟩ := two_new V (.slice none 0 0) (.int .u32 0) 337
  have HBA := Lib.hid (Below.alloc HBQ.out (Nat.le_of_eq HZ.out.symm) (.cells #[.slice none 0 0, .int .u32 0] 337))
  have hsA := (World.cell?_alloc_old V (.cells #[.slice none 0 0, .int .u32 0] 337) ⟨tb, 0, none⟩ (Nat.ne_of_lt (World.block_lt_of_cell? V _ hsV))).trans hsV
  obtain ⟨k, hk⟩ : ∃ k, k = V.heap.size := ⟨_, rfl⟩
  rw [← hk] at ka0 ka1 kf0 kf1 ⊢
  have HK := Lib.hid hk
  clear hsV hk
  generalize V.alloc (.cells #[.slice none 0 0, .int .u32 0] 337) = U at *
  have hkw : w.heap.size ≤ k := by rw [HK.out, HZ.out]; exact Nat.le_refl _
  go_wp2_with fail
  refine (init_BaseNode k rb cap (x + p + d) B _ _ U ka0 ka1 kf0 kf1 ((HIQ.out.hi).below0 HBQ.out HBA.out hrb) (by omega) HIQ.out.hc HIQ.out.hl hz).mono ?_
  rintro e w1 ⟨rfl, hT, hB1⟩
  clear ka0 ka1 kf0 kf1 hsA
  go_wp2_with fail
  go_ret
  exact ⟨k, rfl, hkw, hT, HBA.out.trans (hB1.mono hkw)⟩

set_option maxRecDepth 100000 in
theorem BaseNode_Loc_none (tb rb cap p : Nat) (B : By) (ps : List Nat) (hx : ps.getD 0 0 = 0) (w : World) (h : TabIn w tb 0 rb cap B p) (ht : TabAt B p ps) :
    Calls Tryz.prog 91 #[.pointer (some ⟨tb, 0, none⟩), .pointer none] w fun e w' => e = .returned (.pointer none) ∧ ∃ m, w' = w.drewN m := by
  go_enter Tryz.func91, Tryz.ntmps91
  go_wp2_with fail
  refine (offset_any tb 0 rb cap p 0 4 (by decide) B ps 0 hx (by decide) w h ht).mono ?_
  rintro e w1 ⟨rfl, m, rfl⟩
  go_wp2_with fail
  go_ret
  exact ⟨rfl, m, rfl⟩

set_option maxRecDepth 100000 in
theorem BaseNode_Loc (tb rb cap p : Nat) (B : By) (ps : List Nat) (x : Nat) (hx : ps.getD 0 0 = x) (h0 : x ≠ 0) (w : World) (h : TabIn w tb 0 rb cap B p) (ht : TabAt B p ps) (hl : x < 65536) (hq : x + p + 4 ≤ B.length) (d : Nat) (hd : leAt B (x + p) 4 = d) (hz : x + p + d < B.length) :
    Calls Tryz.prog 91 #[.pointer (some ⟨tb, 0, none⟩), .pointer none] w fun e w' => ∃ k, e = .returned (.pointer (some ⟨k, 0, none⟩)) ∧ w.heap.size ≤ k ∧ TabIn w' k 0 rb cap B (x + p + d) ∧ Below w.heap.size w w' := by
  have hs := h.hs
  have hp : w.cell? ⟨tb, 1, none⟩ = some (.int .u32 (p : Nat)) := h.hp
  have h01 : ((x : Int) == 0) = false := by simpa using h0
  have h02 : ((x : Int) != 0) = true := by simpa using h0
  have hxl : (x : Int) < 65536 := by omega
  have hpl : (p : Int) < 2147483648 := by have := h.hq; have := h.hl; omega
  have hrb := h.hi.lt (by have := h.hq; omega)
  go_enter Tryz.func91, Tryz.ntmps91
  go_wp2_with fail
  refine (offset_any tb 0 rb cap p 0 4 (by decide) B ps x hx (by decide) w h ht).mono ?_
  rintro e w1 ⟨rfl, m, rfl⟩
  have D : Hid (∀ n, Calls Tryz.prog 99 #[.pointer (some ⟨tb, 0, none⟩), .int .u32 ((x : Int) + (p : Int))] ((w.drewN m).drewN n) fun e w' => e = .returned (.int .u32 (x + p + d : Nat)) ∧ w' = (w.drewN m).drewN n) := Lib.hid fun n => indirect_any tb 0 rb cap p (x + p) B _ ((h.drew m).drew n) hq d hd hz
  clear hx h0
  go_upto_region 3 with fail
  have hsW : (w.drewN m).cell? ⟨tb, 0, none⟩ = some (.slice (some ⟨rb, 0, none⟩) (B.length : Nat) cap) := hs
  have hpW : (w.drewN m).cell? ⟨tb, 1, none⟩ = some (.int .u32 (p : Nat)) := hp
  have hzW : (w.drewN m).heap.size = w.heap.size := rfl
  have HBW := Lib.hid (below_drewN' (Below.refl w.heap.size w) m)
  have HI := Lib.hid (h.drew m)
  clear hs hp h
  obtain ⟨W, hW⟩ : ∃ W, W = w.drewN m := ⟨_, rfl⟩
  rw [← hW] at hsW hpW D hzW HBW HI ⊢
  clear hW
  go_quiet (first | (go_at_call 99; exact Calls.quiet_of_same (D.out _)))
  have hzq : (W.drewN nq).heap.size = w.heap.size := hzW
  have HBQ := Lib.hid (below_drewN' HBW.out nq)
  have HIQ := Lib.hid (HI.out.drew nq)
  clear hzW hsW hpW D HBW HI
  generalize W.drewN nq = V at *
  have hsV := HIQ.out.hs
  have HZ := Lib.hid hzq
  clear h01 h02 hxl hpl hzq
  go_upto_region 6 with fail
  obtain ⟨ka0, ka1, kf0, kf1⟩ := two_new V (.slice none 0 0) (.int .u32 0) 374
  have HBA := Lib.hid (Below.alloc HBQ.out (Nat.le_of_eq HZ.out.symm) (.cells #[.slice none 0 0, .int .u32 0] 374))
  have hsA := (World.cell?_alloc_old V (.cells #[.slice none 0 0, .int .u32 0] 374) ⟨tb, 0, none⟩ (Nat.ne_of_lt (World.block_lt_of_cell? V _ hsV))).trans hsV
  obtain ⟨k, hk⟩ : ∃ k, k = V.heap.size := ⟨_, rfl⟩
  rw [← hk] at ka0 ka1 kf0 kf1 ⊢
  have HK := Lib.hid hk
  clear hsV hk
  generalize V.alloc (.cells #[.slice none 0 0, .int .u32 0] 374) = U at *
  have hkw : w.heap.size ≤ k := by rw [HK.out, HZ.out]; exact Nat.le_refl _
  go_wp2_with fail
  refine (init_SourceLocation k rb cap (x + p + d) B _ _ U ka0 ka1 kf0 kf1 ((HIQ.out.hi).below0 HBQ.out HBA.out hrb) (by omega) HIQ.out.hc HIQ.out.hl hz).mono ?_
  rintro e w1 ⟨rfl, hT, hB1⟩
  clear ka0 ka1 kf0 kf1 hsA
  go_wp2_with fail
  go_ret
  exact ⟨k, rfl, hkw, hT, HBA.out.trans (hB1.mono hkw)⟩

set_option maxRecDepth 100000 in
theorem NamedType_Id_none (tb rb cap p : Nat) (B : By) (ps : List Nat) (hx : ps.getD 1 0 = 0) (w : World) (h : TabIn w tb 0 rb cap B p) (ht : TabAt B p ps) :
    Calls Tryz.prog 163 #[.pointer (some ⟨tb, 0, none⟩), .pointer none] w fun e w' => e = .returned (.pointer none) ∧ ∃ m, w' = w.drewN m := by
  go_enter Tryz.func163, Tryz.ntmps163
  go_wp2_with fail
  refine (offset_any tb 0 rb cap p 1 6 (by decide) B ps 0 hx (by decide) w h ht).mono ?_
  rintro e w1 ⟨rfl, m, rfl⟩
  go_wp2_with fail
  go_ret
  exact ⟨rfl, m, rfl⟩

set_option maxRecDepth 100000 in
theorem NamedType_Id (tb rb cap p : Nat) (B : By) (ps : List Nat) (x : Nat) (hx : ps.getD 1 0 = x) (h0 : x ≠ 0) (w : World) (h : TabIn w tb 0 rb cap B p) (ht : TabAt B p ps) (hl : x < 65536) (hq : x + p + 4 ≤ B.length) (d : Nat) (hd : leAt B (x + p) 4 = d) (hz : x + p + d < B.length) :
    Calls Tryz.prog 163 #[.pointer (some ⟨tb, 0, none⟩), .pointer none] w fun e w' => ∃ k, e = .returned (.pointer (some ⟨k, 0, none⟩)) ∧ w.heap.size ≤ k ∧ TabIn w' k 0 rb cap B (x + p + d) ∧ Below w.heap.size w w' := by
  have hs := h.hs
  have hp : w.cell? ⟨tb, 1, none⟩ = some (.int .u32 (p : Nat)) := h.hp
  have h01 : ((x : Int) == 0) = false := by simpa using h0
  have h02 : ((x : Int) != 0) = true := by simpa using h0
  have hxl : (x : Int) < 65536 := by omega
  have hpl : (p : Int) < 2147483648 := by have := h.hq; have := h.hl; omega
  have hrb := h.hi.lt (by have := h.hq; omega)
  go_enter Tryz.func163, Tryz.ntmps163
  go_wp2_with fail
  refine (offset_any tb 0 rb cap p 1 6 (by decide) B ps x hx (by decide) w h ht).mono ?_
  rintro e w1 ⟨rfl, m, rfl⟩
  have D : Hid (∀ n, Calls Tryz.prog 99 #[.pointer (some ⟨tb, 0, none⟩), .int .u32 ((x : Int) + (p : Int))] ((w.drewN m).drewN n) fun e w' => e = .returned (.int .u32 (x + p + d : Nat)) ∧ w' = (w.drewN m).drewN n) := Lib.hid fun n => indirect_any tb 0 rb cap p (x + p) B _ ((h.drew m).drew n) hq d hd hz
  clear hx h0
  go_upto_region 3 with fail
  have hsW : (w.drewN m).cell? ⟨tb, 0, none⟩ = some (.slice (some ⟨rb, 0, none⟩) (B.length : Nat) cap) := hs
  have hpW : (w.drewN m).cell? ⟨tb, 1, none⟩ = some (.int .u32 (p : Nat)) := hp
  have hzW : (w.drewN m).heap.size = w.heap.size := rfl
  have HBW := Lib.hid (below_drewN' (Below.refl w.heap.size w) m)
  have HI := Lib.hid (h.drew m)
  clear hs hp h
  obtain ⟨W, hW⟩ : ∃ W, W = w.drewN m := ⟨_, rfl⟩
  rw [← hW] at hsW hpW D hzW HBW HI ⊢
  clear hW
  go_quiet (first | (go_at_call 99; exact Calls.quiet_of_same (D.out _)))
  have hzq : (W.drewN nq).heap.size = w.heap.size := hzW
  have HBQ := Lib.hid (below_drewN' HBW.out nq)
  have HIQ := Lib.hid (HI.out.drew nq)
  clear hzW hsW hpW D HBW HI
  generalize W.drewN nq = V at *
  have hsV := HIQ.out.hs
  have HZ := Lib.hid hzq
  clear h01 h02 hxl hpl hzq
  go_upto_region 6 with fail
  obtain ⟨ka0, ka1, kf0, kf1⟩ := two_new V (.slice none 0 0) (.int .u32 0) 359
  have HBA := Lib.hid (Below.alloc HBQ.out (Nat.le_of_eq HZ.out.symm) (.cells #[.slice none 0 0, .int .u32 0] 359))
  have hsA := (World.cell?_alloc_old V (.cells #[.slice none 0 0, .int .u32 0] 359) ⟨tb, 0, none⟩ (Nat.ne_of_lt (World.block_lt_of_cell? V _ hsV))).trans hsV
  obtain ⟨k, hk⟩ : ∃ k, k = V.heap.size := ⟨_, rfl⟩
  rw [← hk] at ka0 ka1 kf0 kf1 ⊢
  have HK := Lib.hid hk
  clear hsV hk
  generalize V.alloc (.cells #[.slice none 0 0, .int .u32 0] 359) = U at *
  have hkw : w.heap.size ≤ k := by rw [HK.out, HZ.out]; exact Nat.le_refl _
  go_wp2_with fail
  refine (init_Identifier k rb cap (x + p + d) B _ _ U ka0 ka1 kf0 kf1 ((HIQ.out.hi).below0 HBQ.out HBA.out hrb) (by omega) HIQ.out.hc HIQ.out.hl hz).mono ?_
  rintro e w1 ⟨rfl, hT, hB1⟩
  clear ka0 ka1 kf0 kf1 hsA
  go_wp2_with fail
  go_ret
  exact ⟨k, rfl, hkw, hT, HBA.out.trans (hB1.mono hkw)⟩

set_option maxRecDepth 100000 in
theorem TvarType_Id_none (tb rb cap p : Nat) (B : By) (ps : List Nat) (hx : ps.getD 1 0 = 0) (w : World) (h : TabIn w tb 0 rb cap B p) (ht : TabAt B p ps) :
    Calls Tryz.prog 165 #[.pointer (some ⟨tb, 0, none⟩), .pointer none] w fun e w' => e = .returned (.pointer none) ∧ ∃ m, w' = w.drewN m := by
  go_enter Tryz.func165, Tryz.ntmps165
  go_wp2_with fail
  refine (offset_any tb 0 rb cap p 1 6 (by decide) B ps 0 hx (by decide) w h ht).mono ?_
  rintro e w1 ⟨rfl, m, rfl⟩
  go_wp2_with fail
  go_ret
  exact ⟨rfl, m, rfl⟩

set_option maxRecDepth 100000 in
theorem TvarType_Id (tb rb cap p : Nat) (B : By) (ps : List Nat) (x : Nat) (hx : ps.getD 1 0 = x) (h0 : x ≠ 0) (w : World) (h : TabIn w tb 0 rb cap B p) (ht : TabAt B p ps) (hl : x < 65536) (hq : x + p + 4 ≤ B.length) (d : Nat) (hd : leAt B (x + p) 4 = d) (hz : x + p + d < B.length) :
    Calls Tryz.prog 165 #[.pointer (some ⟨tb, 0, none⟩), .pointer none] w fun e w' => ∃ k, e = .returned (.pointer (some ⟨k, 0, none⟩)) ∧ w.heap.size ≤ k ∧ TabIn w' k 0 rb cap B (x + p + d) ∧ Below w.heap.size w w' := by
  have hs := h.hs
  have hp : w.cell? ⟨tb, 1, none⟩ = some (.int .u32 (p : Nat)) := h.hp
  have h01 : ((x : Int) == 0) = false := by simpa using h0
  have h02 : ((x : Int) != 0) = true := by simpa using h0
  have hxl : (x : Int) < 65536 := by omega
  have hpl : (p : Int) < 2147483648 := by have := h.hq; have := h.hl; omega
  have hrb := h.hi.lt (by have := h.hq; omega)
  go_enter Tryz.func165, Tryz.ntmps165
  go_wp2_with fail
  refine (offset_any tb 0 rb cap p 1 6 (by decide) B ps x hx (by decide) w h ht).mono ?_
  rintro e w1 ⟨rfl, m, rfl⟩
  have D : Hid (∀ n, Calls Tryz.prog 99 #[.pointer (some ⟨tb, 0, none⟩), .int .u32 ((x : Int) + (p : Int))] ((w.drewN m).drewN n) fun e w' => e = .returned (.int .u32 (x + p + d : Nat)) ∧ w' = (w.drewN m).drewN n) := Lib.hid fun n => indirect_any tb 0 rb cap p (x + p) B _ ((h.drew m).drew n) hq d hd hz
  clear hx h0
  go_upto_region 3 with fail
  have hsW : (w.drewN m).cell? ⟨tb, 0, none⟩ = some (.slice (some ⟨rb, 0, none⟩) (B.length : Nat) cap) := hs
  have hpW : (w.drewN m).cell? ⟨tb, 1, none⟩ = some (.int .u32 (p : Nat)) := hp
  have hzW : (w.drewN m).heap.size = w.heap.size := rfl
  have HBW := Lib.hid (below_drewN' (Below.refl w.heap.size w) m)
  have HI := Lib.hid (h.drew m)
  clear hs hp h
  obtain ⟨W, hW⟩ : ∃ W, W = w.drewN m := ⟨_, rfl⟩
  rw [← hW] at hsW hpW D hzW HBW HI ⊢
  clear hW
  go_quiet (first | (go_at_call 99; exact Calls.quiet_of_same (D.out _)))
  have hzq : (W.drewN nq).heap.size = w.heap.size := hzW
  have HBQ := Lib.hid (below_drewN' HBW.out nq)
  have HIQ := Lib.hid (HI.out.drew nq)
  clear hzW hsW hpW D HBW HI
  generalize W.drewN nq = V at *
  have hsV := HIQ.out.hs
  have HZ := Lib.hid hzq
  clear h01 h02 hxl hpl hzq
  go_upto_region 6 with fail
  obtain ⟨ka0, ka1, kf0, kf1⟩ := two_new V (.slice none 0 0) (.int .u32 0) 359
  have HBA := Lib.hid (Below.alloc HBQ.out (Nat.le_of_eq HZ.out.symm) (.cells #[.slice none 0 0, .int .u32 0] 359))
  have hsA := (World.cell?_alloc_old V (.cells #[.slice none 0 0, .int .u32 0] 359) ⟨tb, 0, none⟩ (Nat.ne_of_lt (World.block_lt_of_cell? V _ hsV))).trans hsV
  obtain ⟨k, hk⟩ : ∃ k, k = V.heap.size := ⟨_, rfl⟩
  rw [← hk] at ka0 ka1 kf0 kf1 ⊢
  have HK := Lib.hid hk
  clear hsV hk
  generalize V.alloc (.cells #[.slice none 0 0, .int .u32 0] 359) = U at *
  have hkw : w.heap.size ≤ k := by rw [HK.out, HZ.out]; exact Nat.le_refl _
  go_wp2_with fail
  refine (init_Identifier k rb cap (x + p + d) B _ _ U ka0 ka1 kf0 kf1 ((HIQ.out.hi).below0 HBQ.out HBA.out hrb) (by omega) HIQ.out.hc HIQ.out.hl hz).mono ?_
  rintro e w1 ⟨rfl, hT, hB1⟩
  clear ka0 ka1 kf0 kf1 hsA
  go_wp2_with fail
  go_ret
  exact ⟨k, rfl, hkw, hT, HBA.out.trans (hB1.mono hkw)⟩

set_option maxRecDepth 100000 in
theorem PropertyType_Id_none (tb rb cap p : Nat) (B : By) (ps : List Nat) (hx : ps.getD 1 0 = 0) (w : World) (h : TabIn w tb 0 rb cap B p) (ht : TabAt B p ps) :
    Calls Tryz.prog 132 #[.pointer (some ⟨tb, 0, none⟩), .pointer none] w fun e w' => e = .returned (.pointer none) ∧ ∃ m, w' = w.drewN m := by
  go_enter Tryz.func132, Tryz.ntmps132
  go_wp2_with fail
  refine (offset_any tb 0 rb cap p 1 6 (by decide) B ps 0 hx (by decide) w h ht).mono ?_
  rintro e w1 ⟨rfl, m, rfl⟩
  go_wp2_with fail
  go_ret
  exact ⟨rfl, m, rfl⟩

set_option maxRecDepth 100000 in
theorem PropertyType_Id (tb rb cap p : Nat) (B : By) (ps : List Nat) (x : Nat) (hx : ps.getD 1 0 = x) (h0 : x ≠ 0) (w : World) (h : TabIn w tb 0 rb cap B p) (ht : TabAt B p ps) (hl : x < 65536) (hq : x + p + 4 ≤ B.length) (d : Nat) (hd : leAt B (x + p) 4 = d) (hz : x + p + d < B.length) :
    Calls Tryz.prog 132 #[.pointer (some ⟨tb, 0, none⟩), .pointer none] w fun e w' => ∃ k, e = .returned (.pointer (some ⟨k, 0, none⟩)) ∧ w.heap.size ≤ k ∧ TabIn w' k 0 rb cap B (x + p + d) ∧ Below w.heap.size w w' := by
  have hs := h.hs
  have hp : w.cell? ⟨tb, 1, none⟩ = some (.int .u32 (p : Nat)) := h.hp
  have h01 : ((x : Int) == 0) = false := by simpa using h0
  have h02 : ((x : Int) != 0) = true := by simpa using h0
  have hxl : (x : Int) < 65536 := by omega
  have hpl : (p : Int) < 2147483648 := by have := h.hq; have := h.hl; omega
  have hrb := h.hi.lt (by have := h.hq; omega)
  go_enter Tryz.func132, Tryz.ntmps132
  go_wp2_with fail
  refine (offset_any tb 0 rb cap p 1 6 (by decide) B ps x hx (by decide) w h ht).mono ?_
  rintro e w1 ⟨rfl, m, rfl⟩
  have D : Hid (∀ n, Calls Tryz.prog 99 #[.pointer (some ⟨tb, 0, none⟩), .int .u32 ((x : Int) + (p : Int))] ((w.drewN m).drewN n) fun e w' => e = .returned (.int .u32 (x + p + d : Nat)) ∧ w' = (w.drewN m).drewN n) := Lib.hid fun n => indirect_any tb 0 rb cap p (x + p) B _ ((h.drew m).drew n) hq d hd hz
  clear hx h0
  go_upto_region 3 with fail
  have hsW : (w.drewN m).cell? ⟨tb, 0, none⟩ = some (.slice (some ⟨rb, 0, none⟩) (B.length : Nat) cap) := hs
  have hpW : (w.drewN m).cell? ⟨tb, 1, none⟩ = some (.int .u32 (p : Nat)) := hp
  have hzW : (w.drewN m).heap.size = w.heap.size := rfl
  have HBW := Lib.hid (below_drewN' (Below.refl w.heap.size w) m)
  have HI := Lib.hid (h.drew m)
  clear hs hp h
  obtain ⟨W, hW⟩ : ∃ W, W = w.drewN m := ⟨_, rfl⟩
  rw [← hW] at hsW hpW D hzW HBW HI ⊢
  clear hW
  go_quiet (first | (go_at_call 99; exact Calls.quiet_of_same (D.out _)))
  have hzq : (W.drewN nq).heap.size = w.heap.size := hzW
  have HBQ := Lib.hid (below_drewN' HBW.out nq)
  have HIQ := Lib.hid (HI.out.drew nq)
  clear hzW hsW hpW D HBW HI
  generalize W.drewN nq = V at *
  have hsV := HIQ.out.hs
  have HZ := Lib.hid hzq
  clear h01 h02 hxl hpl hzq
  go_upto_region 6 with fail
  obtain ⟨ka0, ka1, kf0, kf1⟩ := two_new V (.slice none 0 0) (.int .u32 0) 359
  have HBA := Lib.hid (Below.alloc HBQ.out (Nat.le_of_eq HZ.out.symm) (.cells #[.slice none 0 0, .int .u32 0] 359))
  have hsA := (World.cell?_alloc_old V (.cells #[.slice none 0 0, .int .u32 0] 359) ⟨tb, 0, none⟩ (Nat.ne_of_lt (World.block_lt_of_cell? V _ hsV))).trans hsV
  obtain ⟨k, hk⟩ : ∃ k, k = V.heap.size := ⟨_, rfl⟩
  rw [← hk] at ka0 ka1 kf0 kf1 ⊢
  have HK := Lib.hid hk
  clear hsV hk
  generalize V.alloc (.cells #[.slice none 0 0, .int .u32 0] 359) = U at *
  have hkw : w.heap.size ≤ k := by rw [HK.out, HZ.out]; exact Nat.le_refl _
  go_wp2_with fail
  refine (init_Identifier k rb cap (x + p + d) B _ _ U ka0 ka1 kf0 kf1 ((HIQ.out.hi).below0 HBQ.out HBA.out hrb) (by omega) HIQ.out.hc HIQ.out.hl hz).mono ?_
  rintro e w1 ⟨rfl, hT, hB1⟩
  clear ka0 ka1 kf0 kf1 hsA
  go_wp2_with fail
  go_ret
  exact ⟨k, rfl, hkw, hT, HBA.out.trans (hB1.mono hkw)⟩

set_option maxRecDepth 100000 in
theorem ParameterType_Id_none (tb rb cap p : Nat) (B : By) (ps : List Nat) (hx : ps.getD 1 0 = 0) (w : World) (h : TabIn w tb 0 rb cap B p) (ht : TabAt B p ps) :
    Calls Tryz.prog 122 #[.pointer (some ⟨tb, 0, none⟩), .pointer none] w fun e w' => e = .returned (.pointer none) ∧ ∃ m, w' = w.drewN m := by
  go_enter Tryz.func122, Tryz.ntmps122
  go_wp2_with fail
  refine (offset_any tb 0 rb cap p 1 6 (by decide) B ps 0 hx (by decide) w h ht).mono ?_
  rintro e w1 ⟨rfl, m, rfl⟩
  go_wp2_with fail
  go_ret
  exact ⟨rfl, m, rfl⟩

set_option maxRecDepth 100000 in
theorem ParameterType_Id (tb rb cap p : Nat) (B : By) (ps : List Nat) (x : Nat) (hx : ps.getD 1 0 = x) (h0 : x ≠ 0) (w : World) (h : TabIn w tb 0 rb cap B p) (ht : TabAt B p ps) (hl : x < 65536) (hq : x + p + 4 ≤ B.length) (d : Nat) (hd : leAt B (x + p) 4 = d) (hz : x + p + d < B.length) :
    Calls Tryz.prog 122 #[.pointer (some ⟨tb, 0, none⟩), .pointer none] w fun e w' => ∃ k, e = .returned (.pointer (some ⟨k, 0, none⟩)) ∧ w.heap.size ≤ k ∧ TabIn w' k 0 rb cap B (x + p + d) ∧ Below w.heap.size w w' := by
  have hs := h.hs
  have hp : w.cell? ⟨tb, 1, none⟩ = some (.int .u32 (p : Nat)) := h.hp
  have h01 : ((x : Int) == 0) = false := by simpa using h0
  have h02 : ((x : Int) != 0) = true := by simpa using h0
  have hxl : (x : Int) < 65536 := by omega
  have hpl : (p : Int) < 2147483648 := by have := h.hq; have := h.hl; omega
  have hrb := h.hi.lt (by have := h.hq; omega)
  go_enter Tryz.func122, Tryz.ntmps122
  go_wp2_with fail
  refine (offset_any tb 0 rb cap p 1 6 (by decide) B ps x hx (by decide) w h ht).mono ?_
  rintro e w1 ⟨rfl, m, rfl⟩
  have D : Hid (∀ n, Calls Tryz.prog 99 #[.pointer (some ⟨tb, 0, none⟩), .int .u32 ((x : Int) + (p : Int))] ((w.drewN m).drewN n) fun e w' => e = .returned (.int .u32 (x + p + d : Nat)) ∧ w' = (w.drewN m).drewN n) := Lib.hid fun n => indirect_any tb 0 rb cap p (x + p) B _ ((h.drew m).drew n) hq d hd hz
  clear hx h0
  go_upto_region 3 with fail
  have hsW : (w.drewN m).cell? ⟨tb, 0, none⟩ = some (.slice (some ⟨rb, 0, none⟩) (B.length : Nat) cap) := hs
  have hpW : (w.drewN m).cell? ⟨tb, 1, none⟩ = some (.int .u32 (p : Nat)) := hp
  have hzW : (w.drewN m).heap.size = w.heap.size := rfl
  have HBW := Lib.hid (below_drewN' (Below.refl w.heap.size w) m)
  have HI := Lib.hid (h.drew m)
  clear hs hp h
  obtain ⟨W, hW⟩ : ∃ W, W = w.drewN m := ⟨_, rfl⟩
  rw [← hW] at hsW hpW D hzW HBW HI ⊢
  clear hW
  go_quiet (first | (go_at_call 99; exact Calls.quiet_of_same (D.out _)))
  have hzq : (W.drewN nq).heap.size = w.heap.size := hzW
  have HBQ := Lib.hid (below_drewN' HBW.out nq)
  have HIQ := Lib.hid (HI.out.drew nq)
  clear hzW hsW hpW D HBW HI
  generalize W.drewN nq = V at *
  have hsV := HIQ.out.hs
  have HZ := Lib.hid hzq
  clear h01 h02 hxl hpl hzq
  go_upto_region 6 with fail
  obtain ⟨ka0, ka1, kf0, kf1⟩ := two_new V (.slice none 0 0) (.int .u32 0) 359
  have HBA := Lib.hid (Below.alloc HBQ.out (Nat.le_of_eq HZ.out.symm) (.cells #[.slice none 0 0, .int .u32 0] 359))
  have hsA := (World.cell?_alloc_old V (.cells #[.slice none 0 0, .int .u32 0] 359) ⟨tb, 0, none⟩ (Nat.ne_of_lt (World.block_lt_of_cell? V _ hsV))).trans hsV
  obtain ⟨k, hk⟩ : ∃ k, k = V.heap.size := ⟨_, rfl⟩
  rw [← hk] at ka0 ka1 kf0 kf1 ⊢
  have HK := Lib.hid hk
  clear hsV hk
  generalize V.alloc (.cells #[.slice none 0 0, .int .u32 0] 359) = U at *
  have hkw : w.heap.size ≤ k := by rw [HK.out, HZ.out]; exact Nat.le_refl _
  go_wp2_with fail
  refine (init_Identifier k rb cap (x + p + d) B _ _ U ka0 ka1 kf0 kf1 ((HIQ.out.hi).below0 HBQ.out HBA.out hrb) (by omega) HIQ.out.hc HIQ.out.hl hz).mono ?_
  rintro e w1 ⟨rfl, hT, hB1⟩
  clear ka0 ka1 kf0 kf1 hsA
  go_wp2_with fail
  go_ret
  exact ⟨k, rfl, hkw, hT, HBA.out.trans (hB1.mono hkw)⟩

set_option maxRecDepth 100000 in
theorem RecordType_Tvar_none (tb rb cap p : Nat) (B : By) (ps : List Nat) (hx : ps.getD 2 0 = 0) (w : World) (h : TabIn w tb 0 rb cap B p) (ht : TabAt B p ps) :
    Calls Tryz.prog 73 #[.pointer (some ⟨tb, 0, none⟩), .pointer none] w fun e w' => e = .returned (.pointer none) ∧ ∃ m, w' = w.drewN m := by
  go_enter Tryz.func73, Tryz.ntmps73
  go_wp2_with fail
  refine (offset_any tb 0 rb cap p 2 8 (by decide) B ps 0 hx (by decide) w h ht).mono ?_
  rintro e w1 ⟨rfl, m, rfl⟩
  go_wp2_with fail
  go_ret
  exact ⟨rfl, m, rfl⟩

set_option maxRecDepth 100000 in
theorem RecordType_Tvar (tb rb cap p : Nat) (B : By) (ps : List Nat) (x : Nat) (hx : ps.getD 2 0 = x) (h0 : x ≠ 0) (w : World) (h : TabIn w tb 0 rb cap B p) (ht : TabAt B p ps) (hl : x < 65536) (hq : x + p + 4 ≤ B.length) (d : Nat) (hd : leAt B (x + p) 4 = d) (hz : x + p + d < B.length) :
    Calls Tryz.prog 73 #[.pointer (some ⟨tb, 0, none⟩), .pointer none] w fun e w' => ∃ k, e = .returned (.pointer (some ⟨k, 0, none⟩)) ∧ w.heap.size ≤ k ∧ TabIn w' k 0 rb cap B (x + p + d) ∧ Below w.heap.size w w' := by
  have hs := h.hs
  have hp : w.cell? ⟨tb, 1, none⟩ = some (.int .u32 (p : Nat)) := h.hp
  have h01 : ((x : Int) == 0) = false := by simpa using h0
  have h02 : ((x : Int) != 0) = true := by simpa using h0
  have hxl : (x : Int) < 65536 := by omega
  have hpl : (p : Int) < 2147483648 := by have := h.hq; have := h.hl; omega
  have hrb := h.hi.lt (by have := h.hq; omega)
  go_enter Tryz.func73, Tryz.ntmps73
  go_wp2_with fail
  refine (offset_any tb 0 rb cap p 2 8 (by decide) B ps x hx (by decide) w h ht).mono ?_
  rintro e w1 ⟨rfl, m, rfl⟩
  have D : Hid (∀ n, Calls Tryz.prog 99 #[.pointer (some ⟨tb, 0, none⟩), .int .u32 ((x : Int) + (p : Int))] ((w.drewN m).drewN n) fun e w' => e = .returned (.int .u32 (x + p + d : Nat)) ∧ w' = (w.drewN m).drewN n) := Lib.hid fun n => indirect_any tb 0 rb cap p (x + p) B _ ((h.drew m).drew n) hq d hd hz
  clear hx h0
  go_upto_region 3 with fail
  have hsW : (w.drewN m).cell? ⟨tb, 0, none⟩ = some (.slice (some ⟨rb, 0, none⟩) (B.length : Nat) cap) := hs
  have hpW : (w.drewN m).cell? ⟨tb, 1, none⟩ = some (.int .u32 (p : Nat)) := hp
  have hzW : (w.drewN m).heap.size = w.heap.size := rfl
  have HBW := Lib.hid (below_drewN' (Below.refl w.heap.size w) m)
  have HI := Lib.hid (h.drew m)
  clear hs hp h
  obtain ⟨W, hW⟩ : ∃ W, W = w.drewN m := ⟨_, rfl⟩
  rw [← hW] at hsW hpW D hzW HBW HI ⊢
  clear hW
  go_quiet (first | (go_at_call 99; exact Calls.quiet_of_same (D.out _)))
  have hzq : (W.drewN nq).heap.size = w.heap.size := hzW
  have HBQ := Lib.hid (below_drewN' HBW.out nq)
  have HIQ := Lib.hid (HI.out.drew nq)
  clear hzW hsW hpW D HBW HI
  generalize W.drewN nq = V at *
  have hsV := HIQ.out.hs
  have HZ := Lib.hid hzq
  clear h01 h02 hxl hpl hzq
  go_upto_region 6 with fail
  obtain ⟨ka0, ka1, kf0, kf1⟩ := two_new V (.slice none 0 0) (.int .u32 0) 359
  have HBA := Lib.hid (Below.alloc HBQ.out (Nat.le_of_eq HZ.out.symm) (.cells #[.slice none 0 0, .int .u32 0] 359))
  have hsA := (World.cell?_alloc_old V (.cells #[.slice none 0 0, .int .u32 0] 359) ⟨tb, 0, none⟩ (Nat.ne_of_lt (World.block_lt_of_cell? V _ hsV))).trans hsV
  obtain ⟨k, hk⟩ : ∃ k, k = V.heap.size := ⟨_, rfl⟩
  rw [← hk] at ka0 ka1 kf0 kf1 ⊢
  have HK := Lib.hid hk
  clear hsV hk
  generalize V.alloc (.cells #[.slice none 0 0, .int .u32 0] 359) = U at *
  have hkw : w.heap.size ≤ k := by rw [HK.out, HZ.out]; exact Nat.le_refl _
  go_wp2_with fail
  refine (init_Identifier k rb cap (x + p + d) B _ _ U ka0 ka1 kf0 kf1 ((HIQ.out.hi).below0 HBQ.out HBA.out hrb) (by omega) HIQ.out.hc HIQ.out.hl hz).mono ?_
  rintro e w1 ⟨rfl, hT, hB1⟩
  clear ka0 ka1 kf0 kf1 hsA
  go_wp2_with fail
  go_ret
  exact ⟨k, rfl, hkw, hT, HBA.out.trans (hB1.mono hkw)⟩

set_option maxRecDepth 100000 in
theorem init_Position (k rb cap p : Nat) (B : By) (c0 c1 : Value) (w : World) (h0 : w.cell? ⟨k, 0, none⟩ = some c0) (h1 : w.cell? ⟨k, 1, none⟩ = some c1) (f0 : w.frozen? ⟨k, 0, none⟩ = false) (f1 : w.frozen? ⟨k, 1, none⟩ = false) (hB : BufIn w rb B) (hk : rb ≠ k) (hc : B.length ≤ cap) (hl : B.length < 2147483648) (hp : p < B.length) :
    Calls Tryz.prog 195 #[.pointer (some ⟨k, 0, none⟩), .slice (some ⟨rb, 0, none⟩) (B.length : Nat) cap, .int .u32 (p : Nat)] w fun e w' => e = .returned (.tuple #[]) ∧ TabIn w' k 0 rb cap B p ∧ Below k w w' := by
  go_enter Tryz.func195, Tryz.ntmps195
  go_wp2_with fail
  go_end0
  exact ⟨rfl, tab_set h0 h1 hB hk hc hl hp, below_set _ _ _ _ _ _⟩

set_option maxRecDepth 100000 in
theorem SourceLocation_Start_none (tb rb cap p : Nat) (B : By) (ps : List Nat) (hx : ps.getD 1 0 = 0) (w : World) (h : TabIn w tb 0 rb cap B p) (ht : TabAt B p ps) :
    Calls Tryz.prog 152 #[.pointer (some ⟨tb, 0, none⟩), .pointer none] w fun e w' => e = .returned (.pointer none) ∧ ∃ m, w' = w.drewN m := by
  go_enter Tryz.func152, Tryz.ntmps152
  go_wp2_with fail
  refine (offset_any tb 0 rb cap p 1 6 (by decide) B ps 0 hx (by decide) w h ht).mono ?_
  rintro e w1 ⟨rfl, m, rfl⟩
  go_wp2_with fail
  go_ret
  exact ⟨rfl, m, rfl⟩

set_option maxRecDepth 100000 in
theorem SourceLocation_Start (tb rb cap p : Nat) (B : By) (ps : List Nat) (x : Nat) (hx : ps.getD 1 0 = x) (h0 : x ≠ 0) (w : World) (h : TabIn w tb 0 rb cap B p) (ht : TabAt B p ps) (hl : x < 65536) (hz : x + p < B.length) :
    Calls Tryz.prog 152 #[.pointer (some ⟨tb, 0, none⟩), .pointer none] w fun e w' => ∃ k, e = .returned (.pointer (some ⟨k, 0, none⟩)) ∧ w.heap.size ≤ k ∧ TabIn w' k 0 rb cap B (x + p) ∧ Below w.heap.size w w' := by
  have hs := h.hs
  have hp : w.cell? ⟨tb, 1, none⟩ = some (.int .u32 (p : Nat)) := h.hp
  have h01 : ((x : Int) == 0) = false := by simpa using h0
  have h02 : ((x : Int) != 0) = true := by simpa using h0
  have hxl : (x : Int) < 65536 := by omega
  have hpl : (p : Int) < 2147483648 := by have := h.hq; have := h.hl; omega
  have hrb := h.hi.lt (by have := h.hq; omega)
  go_enter Tryz.func152, Tryz.ntmps152
  go_wp2_with fail
  refine (offset_any tb 0 rb cap p 1 6 (by decide) B ps x hx (by decide) w h ht).mono ?_
  rintro e w1 ⟨rfl, m, rfl⟩
  clear hx h0
  have hsW : (w.drewN m).cell? ⟨tb, 0, none⟩ = some (.slice (some ⟨rb, 0, none⟩) (B.length : Nat) cap) := hs
  have hpW : (w.drewN m).cell? ⟨tb, 1, none⟩ = some (.int .u32 (p : Nat)) := hp
  have hzW : (w.drewN m).heap.size = w.heap.size := rfl
  have HBW := Lib.hid (below_drewN' (Below.refl w.heap.size w) m)
  have HI := Lib.hid (h.drew m)
  clear hs hp h
  obtain ⟨W, hW⟩ : ∃ W, W = w.drewN m := ⟨_, rfl⟩
  rw [← hW] at hsW hpW hzW HBW HI ⊢
  clear hW
  go_upto_region 5 with fail
  have hzq : W.heap.size = w.heap.size := hzW
  have HBQ := Lib.hid HBW.out
  have HIQ := Lib.hid HI.out
  clear hzW hpW HBW HI
  generalize W = V at *
  have hsV := HIQ.out.hs
  clear hsW
  have HZ := Lib.hid hzq
  clear h01 h02 hxl hpl hzq
  go_upto_region 6 with fail
  obtain ⟨ka0, ka1, kf0, kf1⟩ := two_new V (.slice none 0 0) (.int .u32 0) 402
  have HBA := Lib.hid (Below.alloc HBQ.out (Nat.le_of_eq HZ.out.symm) (.cells #[.slice none 0 0, .int .u32 0] 402))
  have hsA := (World.cell?_alloc_old V (.cells #[.slice none 0 0, .int .u32 0] 402) ⟨tb, 0, none⟩ (Nat.ne_of_lt (World.block_lt_of_cell? V _ hsV))).trans hsV
  obtain ⟨k, hk⟩ : ∃ k, k = V.heap.size := ⟨_, rfl⟩
  rw [← hk] at ka0 ka1 kf0 kf1 ⊢
  have HK := Lib.hid hk
  clear hsV hk
  generalize V.alloc (.cells #[.slice none 0 0, .int .u32 0] 402) = U at *
  have hkw : w.heap.size ≤ k := by rw [HK.out, HZ.out]; exact Nat.le_refl _
  go_wp2_with fail
  refine (init_Position k rb cap (x + p) B _ _ U ka0 ka1 kf0 kf1 ((HIQ.out.hi).below0 HBQ.out HBA.out hrb) (by omega) HIQ.out.hc HIQ.out.hl hz).mono ?_
  rintro e w1 ⟨rfl, hT, hB1⟩
  clear ka0 ka1 kf0 kf1 hsA
  go_wp2_with fail
  go_ret
  exact ⟨k, rfl, hkw, hT, HBA.out.trans (hB1.mono hkw)⟩

set_option maxRecDepth 100000 in
theorem SourceLocation_End_none (tb rb cap p : Nat) (B : By) (ps : List Nat) (hx : ps.getD 2 0 = 0) (w : World) (h : TabIn w tb 0 rb cap B p) (ht : TabAt B p ps) :
    Calls Tryz.prog 153 #[.pointer (some ⟨tb, 0, none⟩), .pointer none] w fun e w' => e = .returned (.pointer none) ∧ ∃ m, w' = w.drewN m := by
  go_enter Tryz.func153, Tryz.ntmps153
  go_wp2_with fail
  refine (offset_any tb 0 rb cap p 2 8 (by decide) B ps 0 hx (by decide) w h ht).mono ?_
  rintro e w1 ⟨rfl, m, rfl⟩
  go_wp2_with fail
  go_ret
  exact ⟨rfl, m, rfl⟩

set_option maxRecDepth 100000 in
theorem SourceLocation_End (tb rb cap p : Nat) (B : By) (ps : List Nat) (x : Nat) (hx : ps.getD 2 0 = x) (h0 : x ≠ 0) (w : World) (h : TabIn w tb 0 rb cap B p) (ht : TabAt B p ps) (hl : x < 65536) (hz : x + p < B.length) :
    Calls Tryz.prog 153 #[.pointer (some ⟨tb, 0, none⟩), .pointer none] w fun e w' => ∃ k, e = .returned (.pointer (some ⟨k, 0, none⟩)) ∧ w.heap.size ≤ k ∧ TabIn w' k 0 rb cap B (x + p) ∧ Below w.heap.size w w' := by
  have hs := h.hs
  have hp : w.cell? ⟨tb, 1, none⟩ = some (.int .u32 (p : Nat)) := h.hp
  have h01 : ((x : Int) == 0) = false := by simpa using h0
  have h02 : ((x : Int) != 0) = true := by simpa using h0
  have hxl : (x : Int) < 65536 := by omega
  have hpl : (p : Int) < 2147483648 := by have := h.hq; have := h.hl; omega
  have hrb := h.hi.lt (by have := h.hq; omega)
  go_enter Tryz.func153, Tryz.ntmps153
  go_wp2_with fail
  refine (offset_any tb 0 rb cap p 2 8 (by decide) B ps x hx (by decide) w h ht).mono ?_
  rintro e w1 ⟨rfl, m, rfl⟩
  clear hx h0
  have hsW : (w.drewN m).cell? ⟨tb, 0, none⟩ = some (.slice (some ⟨rb, 0, none⟩) (B.length : Nat) cap) := hs
  have hpW : (w.drewN m).cell? ⟨tb, 1, none⟩ = some (.int .u32 (p : Nat)) := hp
  have hzW : (w.drewN m).heap.size = w.heap.size := rfl
  have HBW := Lib.hid (below_drewN' (Below.refl w.heap.size w) m)
  have HI := Lib.hid (h.drew m)
  clear hs hp h
  obtain ⟨W, hW⟩ : ∃ W, W = w.drewN m := ⟨_, rfl⟩
  rw [← hW] at hsW hpW hzW HBW HI ⊢
  clear hW
  go_upto_region 5 with fail
  have hzq : W.heap.size = w.heap.size := hzW
  have HBQ := Lib.hid HBW.out
  have HIQ := Lib.hid HI.out
  clear hzW hpW HBW HI
  generalize W = V at *
  have hsV := HIQ.out.hs
  clear hsW
  have HZ := Lib.hid hzq
  clear h01 h02 hxl hpl hzq
  go_upto_region 6 with fail
  obtain ⟨ka0, ka1, kf0, kf1⟩ := two_new V (.slice none 0 0) (.int .u32 0) 402
  have HBA := Lib.hid (Below.alloc HBQ.out (Nat.le_of_eq HZ.out.symm) (.cells #[.slice none 0 0, .int .u32 0] 402))
  have hsA := (World.cell?_alloc_old V (.cells #[.slice none 0 0, .int .u32 0] 402) ⟨tb, 0, none⟩ (Nat.ne_of_lt (World.block_lt_of_cell? V _ hsV))).trans hsV
  obtain ⟨k, hk⟩ : ∃ k, k = V.heap.size := ⟨_, rfl⟩
  rw [← hk] at ka0 ka1 kf0 kf1 ⊢
  have HK := Lib.hid hk
  clear hsV hk
  generalize V.alloc (.cells #[.slice none 0 0, .int .u32 0] 402) = U at *
  have hkw : w.heap.size ≤ k := by rw [HK.out, HZ.out]; exact Nat.le_refl _
  go_wp2_with fail
  refine (init_Position k rb cap (x + p) B _ _ U ka0 ka1 kf0 kf1 ((HIQ.out.hi).below0 HBQ.out HBA.out hrb) (by omega) HIQ.out.hc HIQ.out.hl hz).mono ?_
  rintro e w1 ⟨rfl, hT, hB1⟩
  clear ka0 ka1 kf0 kf1 hsA
  go_wp2_with fail
  go_ret
  exact ⟨k, rfl, hkw, hT, HBA.out.trans (hB1.mono hkw)⟩

set_option maxRecDepth 100000 in
theorem Position_Line (tb rb cap p : Nat) (B : By) (w : World) (h : TabIn w tb 0 rb cap B p) (hq : p + 0 + 4 ≤ B.length) :
    Calls Tryz.prog 193 #[.pointer (some ⟨tb, 0, none⟩)] w fun e w' => e = .returned (.int .i32 (IntKind.i32.wrap (leAt B (p + 0) 4 : Nat))) ∧ ∃ m, w' = w.drewN m := by
  have hs := h.hs
  have hp : w.cell? ⟨tb, 1, none⟩ = some (.int .u32 (p : Nat)) := h.hp
  have hpl : (p : Int) < 2147483648 := by have := h.hq; have := h.hl; omega
  have D : Hid (∀ n, Calls Tryz.prog 218 #[.pointer (some ⟨tb, 0, none⟩), .int .u32 ((p : Int))] (w.drewN n) fun e w' => e = .returned (.int .i32 (IntKind.i32.wrap (leAt B (p + 0) 4 : Nat))) ∧ w' = w.drewN n) := Lib.hid fun n => ti32_any tb 0 rb cap p (p + 0) B _ (h.drew n) hq
  clear h
  go_enter Tryz.func193, Tryz.ntmps193
  go_upto_region 1 with fail
  go_quiet (first | (go_at_call 218; exact Calls.quiet_of_same (D.out _)))
  go_wp2_with fail
  go_ret
  exact ⟨rfl, nq, rfl⟩

set_option maxRecDepth 100000 in
theorem Position_Column (tb rb cap p : Nat) (B : By) (w : World) (h : TabIn w tb 0 rb cap B p) (hq : p + 4 + 4 ≤ B.length) :
    Calls Tryz.prog 194 #[.pointer (some ⟨tb, 0, none⟩)] w fun e w' => e = .returned (.int .i32 (IntKind.i32.wrap (leAt B (p + 4) 4 : Nat))) ∧ ∃ m, w' = w.drewN m := by
  have hs := h.hs
  have hp : w.cell? ⟨tb, 1, none⟩ = some (.int .u32 (p : Nat)) := h.hp
  have hpl : (p : Int) < 2147483648 := by have := h.hq; have := h.hl; omega
  have D : Hid (∀ n, Calls Tryz.prog 218 #[.pointer (some ⟨tb, 0, none⟩), .int .u32 ((p : Int) + 4)] (w.drewN n) fun e w' => e = .returned (.int .i32 (IntKind.i32.wrap (leAt B (p + 4) 4 : Nat))) ∧ w' = w.drewN n) := Lib.hid fun n => ti32_any tb 0 rb cap p (p + 4) B _ (h.drew n) hq
  clear h
  go_enter Tryz.func194, Tryz.ntmps194
  go_upto_region 1 with fail
  go_quiet (first | (go_at_call 218; exact Calls.quiet_of_same (D.out _)))
  go_wp2_with fail
  go_ret
  exact ⟨rfl, nq, rfl⟩

end Go.Proofs.YtcbcdgifakcooaaGreatDoor
