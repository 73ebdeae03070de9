/-
  The slots of a table, and the functions that write what they refer to. No conditions.
-/
import Derived.Test.YtcbcdgifakcooaaGreatDoorTable
import Derived.Test.YtcbcdgifakcooaaGreatDoorTabR
namespace Go.Proofs.YtcbcdgifakcooaaGreatDoor
open Go.RowKit
set_option linter.unusedVariables false
set_option linter.unusedSimpArgs false

theorem PostW.mono {K mb : Nat} {bs : Bool} {O : By} {bd bd' : Nat} {R R' : By → Nat → Prop} {w : World} {rb : Nat} {e : Ending} {w' : World} (h : PostW K mb bs O bd R w rb e w') (hb : bd ≤ bd') (hR : ∀ B p, R B p → R' B p) : PostW K mb bs O bd' R' w rb e w' := by
  obtain ⟨X, rb', cap', q, he, hm, hx, hl, h1, h2, h3⟩ := h
  exact ⟨X, rb', cap', q, he, hm, hx, Nat.le_trans hl hb, h1, h2, fun B hB => hR B q (h3 B hB)⟩
/-- Blocks have been laid ahead of the writing. -/
theorem PostW.ahead {K mb : Nat} {bs : Bool} {O : By} {bd : Nat} {R : By → Nat → Prop} {w w1 : World} {rb : Nat} {e : Ending} {w' : World} (h : PostW K mb bs O bd R w1 rb e w') (hb : Below w.heap.size w w1) : PostW K mb bs O bd R w rb e w' := by
  obtain ⟨X, rb', cap', q, he, hm, hx, hl, h1, h2, h3⟩ := h
  exact ⟨X, rb', cap', q, he, hm, (Ext.of rb hb).trans hx, hl, h1, h2, h3⟩

theorem number_any (i k u : Int) (w : World) :
    Calls Tryz.prog 116 #[.int .i64 i, .int .i64 k, .int .u64 u] w fun e w' => e = .returned (.agg #[.int .i64 i, .int .i64 k, .int .u64 u, .nilFunc]) ∧ Below w.heap.size w w' := by
  go_enter Tryz.func116, Tryz.ntmps116
  go_wp2_with fail
  exact bodyPost_ret (v := .agg #[.int .i64 i, .int .i64 k, .int .u64 u, .nilFunc]) (by simp [results, Tryz.f116, go_sem]) rfl ⟨rfl, (Below.refl _ _).alloc (Nat.le_refl _) _⟩

theorem locationAt_any (i : Int) (w : World) :
    Calls Tryz.prog 62 #[.int .i64 i] w fun e w' => e = .returned (.agg #[.int .i64 i, .int .i64 4, .int .u64 0, .func (.func 115) #[] #[]]) ∧ Below w.heap.size w w' := by
  go_enter Tryz.func62, Tryz.ntmps62
  go_wp2_with fail
  exact bodyPost_ret (v := .agg #[.int .i64 i, .int .i64 4, .int .u64 0, .func (.func 115) #[] #[]]) (by simp [results, Tryz.f62, go_sem]) rfl ⟨rfl, (Below.refl _ _).alloc (Nat.le_refl _) _⟩

theorem textAt_any (i : Int) (s : ByteArray) (w : World) :
    Calls Tryz.prog 178 #[.int .i64 i, .string s] w fun e w' => ∃ cb, e = .returned (.agg #[.int .i64 i, .int .i64 4, .int .u64 0, .func (.func 204) #[] #[.pointer (some ⟨cb, 0, none⟩)]]) ∧ w.heap.size ≤ cb ∧ w'.cell? ⟨cb, 0, none⟩ = some (.string s) ∧ Below w.heap.size w w' := by
  go_enter Tryz.func178, Tryz.ntmps178
  go_wp2_with fail
  refine bodyPost_ret (v := .agg #[.int .i64 i, .int .i64 4, .int .u64 0, .func (.func 204) #[] #[.pointer (some ⟨w.heap.size, 0, none⟩)]]) (by simp [results, Tryz.f178, go_sem]) rfl ⟨w.heap.size, rfl, Nat.le_refl _, ?_, ?_⟩
  · exact (World.cell?_of_block (Below.heap_alloc _ _ _ (by simp))).trans (World.cell?_alloc_at _ _ _ _ rfl)
  · exact ((Below.refl _ _).alloc (Nat.le_refl _) _).alloc (by simp) _

theorem nodeAt_any (i : Int) (n : Nd) (w : World) :
    Calls Tryz.prog 173 #[.int .i64 i, n.val] w fun e w' => ∃ cb, e = .returned (.agg #[.int .i64 i, .int .i64 4, .int .u64 0, .func (.func 199) #[] #[.pointer (some ⟨cb, 0, none⟩)]]) ∧ w.heap.size ≤ cb ∧ NdCells w' cb 0 n ∧ Below w.heap.size w w' := by
  unfold Nd.val
  go_enter Tryz.func173, Tryz.ntmps173
  go_wp2_with fail
  refine bodyPost_ret (v := .agg #[.int .i64 i, .int .i64 4, .int .u64 0, .func (.func 199) #[] #[.pointer (some ⟨w.heap.size, 0, none⟩)]]) (by simp [results, Tryz.f173, go_sem]) rfl ⟨w.heap.size, rfl, Nat.le_refl _, ?_, ?_⟩
  · refine ⟨?_, ?_, ?_, ?_, ?_⟩ <;> exact (World.cell?_of_block (Below.heap_alloc _ _ _ (by simp))).trans (World.cell?_alloc_at _ _ _ _ rfl)
  · exact ((Below.refl _ _).alloc (Nat.le_refl _) _).alloc (by simp) _

/-- A row of slots that has just been laid. -/
theorem flat_at : ∀ (sl : List Sl) (i j : Nat) (s : Sl) (v : Value), sl[i]? = some s → s.cells[j]? = some v → (sl.flatMap Sl.cells)[i * 4 + j]? = some v
  | [], i, j, s, v, h, _ => by simp at h
  | t :: sl, 0, j, s, v, h, hj => by
    obtain rfl : t = s := by simpa using h
    have hjl := (List.getElem?_eq_some_iff.1 hj).1
    rw [List.flatMap_cons, Nat.zero_mul, Nat.zero_add, List.getElem?_append_left hjl]
    exact hj
  | t :: sl, i + 1, j, s, v, h, hj => by
    have hl : t.cells.length = 4 := rfl
    rw [List.flatMap_cons, List.getElem?_append_right (by rw [hl]; omega), hl, show (i + 1) * 4 + j - 4 = i * 4 + j from by omega]
    exact flat_at sl i j s v (by simpa using h) hj

theorem slotsIn_new (W : World) (sl : List Sl) (T : TypeId) (mb rb : Nat) (hmb : mb < W.heap.size) (hrb : rb < W.heap.size) : SlotsIn (W.alloc (.cells (sl.flatMap Sl.cells).toArray T)) mb rb (some ⟨W.heap.size, 0, none⟩) sl W.heap.size := by
  refine ⟨fun _ => ⟨rfl, by simp, by omega, by omega⟩, fun i s hs j v hj => (World.cell?_alloc_at _ _ _ _ rfl).trans ?_⟩
  rw [List.getElem?_toArray]
  exact flat_at sl i j s v hs hj

theorem table_of (K mb rb cap bd n sb scap : Nat) (O : By) (bs : Bool) (sl : List Sl) (sp : Option Addr) (R : By → Nat → Prop) (W w1 : World) (hln : n = sl.length) (hok : okPat (patOf sl) = true) (hw4 : ∀ t ∈ sl, t.ref ≠ none → t.wid = 4) (hu : ∀ t ∈ sl, t.u < 256 ^ t.wid) (hn : sl.length ≤ 1000)
    (hbd : 70000 + (sl.map Sl.bd).sum ≤ bd) (hO : O.length + bd ≤ 1073000000) (hS : SlotsIn W mb rb sp sl sb) (hm : Mk K W mb rb cap O bs) (hR : ∀ t ∈ sl, ∀ F c, t.ref = some (F, c) → RefC K mb bs F c t.bd t.R W rb) (hT : ∀ B p, TabOf B p sl → R B p) (hb : Below w1.heap.size w1 W) :
    Calls Tryz.prog 61 #[.pointer (some ⟨mb, 0, none⟩), .slice sp n scap] W (PostW K mb bs O bd R w1 rb) := by
  subst hln
  exact (table_any K mb rb cap O bs sl sp scap sb _ W hok (fun i t h => hw4 t (List.mem_of_getElem? h)) (fun i t h => hu t (List.mem_of_getElem? h)) hn rfl (by omega) hS hm (fun i s F c h => hR s (List.mem_of_getElem? h) F c)).mono fun e w' h => (h.mono hbd hT).ahead hb

theorem text_ref (K mb : Nat) (bs : Bool) (s : ByteArray) (cb : Nat) (w : World) (rb : Nat) (hs : s.size < 65536) (hc : w.cell? ⟨cb, 0, none⟩ = some (.string s)) (h1 : cb ≠ mb) (h2 : cb ≠ rb) :
    RefC K mb bs 204 #[.pointer (some ⟨cb, 0, none⟩)] (s.size + 16) (TextAt s) w rb := by
  refine ⟨fun args w' => by kernel_rfl, fun w1 rb1 cap1 O1 he hm hb => ?_⟩
  have hcl : cb < w.heap.size := World.block_lt_of_cell? w _ hc
  have hc1 : w1.cell? ⟨cb, 0, none⟩ = some (.string s) := ((he.blk hcl h1 h2).1 0).trans hc
  show Calls _ _ #[.pointer (some ⟨mb, 0, none⟩), .pointer (some ⟨cb, 0, none⟩)] _ _
  have HM := Lib.hid hm
  clear hm
  go_enter Tryz.func204, Tryz.ntmps204
  go_wp2_with fail
  refine (text_any K mb rb1 cap1 O1 bs s hs (by omega) w1 HM.out).mono ?_
  rintro e w2 ⟨X, rb', cap', q, rfl, hm', hx, hl, hq1, hq2, hR⟩
  have HP := Lib.hid (show PostW K mb bs O1 (s.size + 16) (TextAt s) w1 rb1 (.returned (.int .i64 (q : Nat))) w2 from ⟨X, rb', cap', q, rfl, hm', hx, hl, hq1, hq2, hR⟩)
  clear hm' hx hl hq1 hq2 hR
  go_wp2_with fail
  go_ret
  exact HP.out

set_option maxHeartbeats 1000000 in
set_option maxRecDepth 100000 in
theorem loc_ref (K mb : Nat) (bs : Bool) (w : World) (rb : Nat) : RefC K mb bs 115 #[] 70000 LocAt w rb := by
  refine ⟨fun args w' => by kernel_rfl, fun w1 rb1 cap1 O1 he hm hb => ?_⟩
  show Calls _ _ #[.pointer (some ⟨mb, 0, none⟩)] _ _
  have HM := Lib.hid hm
  clear hm
  go_enter Tryz.func115, Tryz.ntmps115
  have HB := Lib.hid (Below.refl w1.heap.size w1)
  go_wp2_with (go_at_call 116; refine (number_any _ _ _ _).mono ?_; rintro e w2 ⟨rfl, hb2⟩; have HB := Lib.hid (HB.out.trans (hb2.mono HB.out.size)); clear hb2)
  have hW : Mk K w2 mb rb1 cap1 O1 bs := HM.out.below HB.out
  refine (table_of K mb rb1 cap1 70000 2 w2.heap.size 2 O1 bs locSl _ LocAt _ w1 rfl (by decide) (fun t ht => ?_) (fun t ht => ?_) (by decide) (by decide) hb (slotsIn_new w2 locSl 265 mb rb1 hW.mlt hW.row.2) (hW.alloc _) (fun t ht F c h => ?_) (fun B p h => loc_of h) (HB.out.alloc HB.out.size _)).mono ?_
  · simp only [locSl, List.mem_cons, List.not_mem_nil, or_false] at ht
    rcases ht with rfl | rfl <;> intro h <;> simp at h
  · simp only [locSl, List.mem_cons, List.not_mem_nil, or_false] at ht
    rcases ht with rfl | rfl <;> decide
  · simp only [locSl, List.mem_cons, List.not_mem_nil, or_false] at ht
    rcases ht with rfl | rfl <;> simp at h
  · rintro e w3 ⟨X, rb', cap', q, rfl, hm', hx, hl, hq1, hq2, hR⟩
    have HP := Lib.hid (show PostW K mb bs O1 70000 LocAt w1 rb1 (.returned (.int .i64 (q : Nat))) w3 from ⟨X, rb', cap', q, rfl, hm', hx, hl, hq1, hq2, hR⟩)
    clear hm' hx hl hq1 hq2 hR hW
    go_wp2_with fail
    go_ret
    exact HP.out

/-- The slot of a base: what all nodes have. -/
def baseSl : Sl := ⟨0, 4, 0, some (60, #[]), BaseR, 140000⟩
def locRef : Sl := ⟨0, 4, 0, some (115, #[]), LocAt, 70000⟩

set_option maxHeartbeats 1000000 in
set_option maxRecDepth 100000 in
theorem base_ref (K mb : Nat) (bs : Bool) (w : World) (rb : Nat) : RefC K mb bs 60 #[] 140000 BaseR w rb := by
  refine ⟨fun args w' => by kernel_rfl, fun w1 rb1 cap1 O1 he hm hb => ?_⟩
  show Calls _ _ #[.pointer (some ⟨mb, 0, none⟩)] _ _
  have HM := Lib.hid hm
  clear hm
  go_enter Tryz.func60, Tryz.ntmps60
  go_wp2_with fail
  refine (locationAt_any 0 w1).mono ?_
  rintro e w2 ⟨rfl, hb2⟩
  have HB := Lib.hid hb2
  clear hb2
  go_wp2_with fail
  have hW : Mk K w2 mb rb1 cap1 O1 bs := HM.out.below HB.out
  refine (table_of K mb rb1 cap1 140000 1 w2.heap.size 1 O1 bs [locRef] _ BaseR _ w1 rfl (by decide) (fun t ht => ?_) (fun t ht => ?_) (by decide) (by decide) hb (slotsIn_new w2 [locRef] 265 mb rb1 hW.mlt hW.row.2) (hW.alloc _) (fun t ht F c h => ?_) (fun B p h => base_of h) (HB.out.alloc HB.out.size _)).mono ?_
  · simp only [List.mem_cons, List.not_mem_nil, or_false] at ht
    subst ht
    intro _
    rfl
  · simp only [List.mem_cons, List.not_mem_nil, or_false] at ht
    subst ht
    decide
  · simp only [List.mem_cons, List.not_mem_nil, or_false] at ht
    subst ht
    cases h
    exact loc_ref _ _ _ _ _
  · rintro e w3 ⟨X, rb', cap', q, rfl, hm', hx, hl, hq1, hq2, hR⟩
    have HP := Lib.hid (show PostW K mb bs O1 140000 BaseR w1 rb1 (.returned (.int .i64 (q : Nat))) w3 from ⟨X, rb', cap', q, rfl, hm', hx, hl, hq1, hq2, hR⟩)
    clear hm' hx hl hq1 hq2 hR hW
    go_wp2_with fail
    go_ret
    exact HP.out

end Go.Proofs.YtcbcdgifakcooaaGreatDoor
