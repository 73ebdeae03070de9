/-
  plainFields kind by kind, part C. No conditions beyond the tables of the decoder.
-/
import Derived.Test.YtcbcdgifakcooaaGreatDoorPlain
import Derived.Deep.RegionWith
namespace Go.Proofs.YtcbcdgifakcooaaGreatDoor
open Go.RowKit
set_option linter.unusedVariables false

set_option maxRecDepth 100000 in
set_option maxHeartbeats 2000000 in
theorem plain_35 (t m : ByteArray) (u : Int) (ao : Option Addr) (len cap : Nat) (kids : List Nd) (w : World) (ht : t.size ≤ 9223372036854775807) (hm : m.size ≤ 9223372036854775807) (hT : Lib.Utf8Tabs 1 2 w) :
    Calls Tryz.prog 78 #[.agg #[.int .i64 35, .string t, .string m, .int .u64 u, .slice ao len cap]] w (SomeB (PlainP (.mk 35 t m u ao cap kids)) w) := by
  have HT := Lib.hid hT
  clear hT
  go_enter Tryz.func78, Tryz.ntmps78
  go_wp2_with fail
  refine (in_any _ _ [2, 3, 7, 21, 22, 23, 31, 33, 34, 40, 42] 11 _ _ rfl (by omega) ?i1).mono ?_
  case i1 => exact intsIn_at [2, 3, 7, 21, 22, 23, 31, 33, 34, 40, 42] _ _ (by simp)
  rintro e w1 ⟨rfl, rfl⟩
  rw [(show inB 35 [2, 3, 7, 21, 22, 23, 31, 33, 34, 40, 42] = false from by decide)]
  go_wp2_with fail
  refine (in_any _ _ [35, 36, 37, 38, 40, 41, 52] 7 _ _ rfl (by omega) ?i2).mono ?_
  case i2 => exact intsIn_at [35, 36, 37, 38, 40, 41, 52] _ _ (by simp)
  rintro e w1 ⟨rfl, rfl⟩
  rw [(show inB 35 [35, 36, 37, 38, 40, 41, 52] = true from by decide)]
  go_wp2_with fail
  rotate_left
  all_goals first
    | (go_ret
       exact ⟨_, rfl, (by intro h; cases h), (((Below.refl _ _).alloc (Nat.le_refl _) _).alloc (by simp) _).alloc (by simp; omega) _⟩)
    | skip
  have hB0 : ∀ o1 o2 o3, Below w.heap.size w (((w.alloc o1).alloc o2).alloc o3) := fun o1 o2 o3 => (((Below.refl w.heap.size w).alloc (Nat.le_refl _) _).alloc (by simp) _).alloc (by simp; omega) _
  refine (Tryz.utf8_ValidString _ _ ht (tabs_below HT.out (hB0 _ _ _))).mono ?_
  rintro e w1 ⟨rfl, hb1⟩
  have HB1 := Lib.hid ((hB0 _ _ _).trans (hb1.mono (by simp; omega)))
  obtain ⟨k0, -⟩ := bblk hb1 (b := w.heap.size) (by simp; omega)
  clear hB0 hb1
  generalize Lib.validD t.data.toList = bt at *
  cases bt
  · go_wp2_with fail
    go_ret
    exact ⟨_, rfl, (by intro h; cases h), HB1.out⟩
  go_wp2_with fail
  refine (Tryz.utf8_ValidString _ _ hm (tabs_below HT.out HB1.out)).mono ?_
  rintro e w2 ⟨rfl, hb2⟩
  have HB2 := Lib.hid (HB1.out.trans (hb2.mono HB1.out.size))
  have hlt : w.heap.size < w1.heap.size := by
    have h0 : w1.cell? ⟨w.heap.size, 1, none⟩ = some (.string t) := by rw [k0]; simp [go_sem]
    exact World.block_lt_of_cell? _ _ h0
  obtain ⟨k1, -⟩ := bblk hb2 (b := w.heap.size) hlt
  clear hb2
  generalize Lib.validD m.data.toList = bm at *
  cases bm
  · go_wp2_with fail
    go_ret
    exact ⟨_, rfl, (by intro h; cases h), HB2.out⟩
  go_wp2_with fail
  go_ret
  exact ⟨_, rfl, (fun hb => ⟨fun _ => empty_of (by assumption), fun h => absurd (show hasNum 35 = false from h) (by decide), fun _ _ => empty_of (by assumption), (show t.size ≤ 300 by omega), (show m.size ≤ 300 by omega), fun h => absurd (show (35 : Int) = 21 from h) (by decide), fun h => absurd (show (35 : Int) = 22 from h) (by decide), fun h => absurd (show (35 : Int) = 23 from h) (by decide), fun _ => (show u ≤ 1 from of_decide_eq_true hb), fun h => absurd (show (35 : Int) = 52 from h) (by decide), fun h => absurd (show (35 : Int) = 40 from h) (by decide)⟩), HB2.out⟩

set_option maxRecDepth 100000 in
set_option maxHeartbeats 2000000 in
theorem plain_36 (t m : ByteArray) (u : Int) (ao : Option Addr) (len cap : Nat) (kids : List Nd) (w : World) (ht : t.size ≤ 9223372036854775807) (hm : m.size ≤ 9223372036854775807) (hT : Lib.Utf8Tabs 1 2 w) :
    Calls Tryz.prog 78 #[.agg #[.int .i64 36, .string t, .string m, .int .u64 u, .slice ao len cap]] w (SomeB (PlainP (.mk 36 t m u ao cap kids)) w) := by
  have HT := Lib.hid hT
  clear hT
  go_enter Tryz.func78, Tryz.ntmps78
  go_wp2_with fail
  refine (in_any _ _ [2, 3, 7, 21, 22, 23, 31, 33, 34, 40, 42] 11 _ _ rfl (by omega) ?i1).mono ?_
  case i1 => exact intsIn_at [2, 3, 7, 21, 22, 23, 31, 33, 34, 40, 42] _ _ (by simp)
  rintro e w1 ⟨rfl, rfl⟩
  rw [(show inB 36 [2, 3, 7, 21, 22, 23, 31, 33, 34, 40, 42] = false from by decide)]
  go_wp2_with fail
  refine (in_any _ _ [35, 36, 37, 38, 40, 41, 52] 7 _ _ rfl (by omega) ?i2).mono ?_
  case i2 => exact intsIn_at [35, 36, 37, 38, 40, 41, 52] _ _ (by simp)
  rintro e w1 ⟨rfl, rfl⟩
  rw [(show inB 36 [35, 36, 37, 38, 40, 41, 52] = true from by decide)]
  go_wp2_with fail
  rotate_left
  all_goals first
    | (go_ret
       exact ⟨_, rfl, (by intro h; cases h), (((Below.refl _ _).alloc (Nat.le_refl _) _).alloc (by simp) _).alloc (by simp; omega) _⟩)
    | skip
  have hB0 : ∀ o1 o2 o3, Below w.heap.size w (((w.alloc o1).alloc o2).alloc o3) := fun o1 o2 o3 => (((Below.refl w.heap.size w).alloc (Nat.le_refl _) _).alloc (by simp) _).alloc (by simp; omega) _
  refine (Tryz.utf8_ValidString _ _ ht (tabs_below HT.out (hB0 _ _ _))).mono ?_
  rintro e w1 ⟨rfl, hb1⟩
  have HB1 := Lib.hid ((hB0 _ _ _).trans (hb1.mono (by simp; omega)))
  obtain ⟨k0, -⟩ := bblk hb1 (b := w.heap.size) (by simp; omega)
  clear hB0 hb1
  generalize Lib.validD t.data.toList = bt at *
  cases bt
  · go_wp2_with fail
    go_ret
    exact ⟨_, rfl, (by intro h; cases h), HB1.out⟩
  go_wp2_with fail
  refine (Tryz.utf8_ValidString _ _ hm (tabs_below HT.out HB1.out)).mono ?_
  rintro e w2 ⟨rfl, hb2⟩
  have HB2 := Lib.hid (HB1.out.trans (hb2.mono HB1.out.size))
  have hlt : w.heap.size < w1.heap.size := by
    have h0 : w1.cell? ⟨w.heap.size, 1, none⟩ = some (.string t) := by rw [k0]; simp [go_sem]
    exact World.block_lt_of_cell? _ _ h0
  obtain ⟨k1, -⟩ := bblk hb2 (b := w.heap.size) hlt
  clear hb2
  generalize Lib.validD m.data.toList = bm at *
  cases bm
  · go_wp2_with fail
    go_ret
    exact ⟨_, rfl, (by intro h; cases h), HB2.out⟩
  go_wp2_with fail
  go_ret
  exact ⟨_, rfl, (fun hb => ⟨fun _ => empty_of (by assumption), fun h => absurd (show hasNum 36 = false from h) (by decide), fun _ _ => empty_of (by assumption), (show t.size ≤ 300 by omega), (show m.size ≤ 300 by omega), fun h => absurd (show (36 : Int) = 21 from h) (by decide), fun h => absurd (show (36 : Int) = 22 from h) (by decide), fun h => absurd (show (36 : Int) = 23 from h) (by decide), fun h => absurd (show (36 : Int) = 35 from h) (by decide), fun h => absurd (show (36 : Int) = 52 from h) (by decide), fun h => absurd (show (36 : Int) = 40 from h) (by decide)⟩), HB2.out⟩

set_option maxRecDepth 100000 in
set_option maxHeartbeats 2000000 in
theorem plain_37 (t m : ByteArray) (u : Int) (ao : Option Addr) (len cap : Nat) (kids : List Nd) (w : World) (ht : t.size ≤ 9223372036854775807) (hm : m.size ≤ 9223372036854775807) (hT : Lib.Utf8Tabs 1 2 w) :
    Calls Tryz.prog 78 #[.agg #[.int .i64 37, .string t, .string m, .int .u64 u, .slice ao len cap]] w (SomeB (PlainP (.mk 37 t m u ao cap kids)) w) := by
  have HT := Lib.hid hT
  clear hT
  go_enter Tryz.func78, Tryz.ntmps78
  go_wp2_with fail
  refine (in_any _ _ [2, 3, 7, 21, 22, 23, 31, 33, 34, 40, 42] 11 _ _ rfl (by omega) ?i1).mono ?_
  case i1 => exact intsIn_at [2, 3, 7, 21, 22, 23, 31, 33, 34, 40, 42] _ _ (by simp)
  rintro e w1 ⟨rfl, rfl⟩
  rw [(show inB 37 [2, 3, 7, 21, 22, 23, 31, 33, 34, 40, 42] = false from by decide)]
  go_wp2_with fail
  refine (in_any _ _ [35, 36, 37, 38, 40, 41, 52] 7 _ _ rfl (by omega) ?i2).mono ?_
  case i2 => exact intsIn_at [35, 36, 37, 38, 40, 41, 52] _ _ (by simp)
  rintro e w1 ⟨rfl, rfl⟩
  rw [(show inB 37 [35, 36, 37, 38, 40, 41, 52] = true from by decide)]
  go_wp2_with fail
  rotate_left
  all_goals first
    | (go_ret
       exact ⟨_, rfl, (by intro h; cases h), (((Below.refl _ _).alloc (Nat.le_refl _) _).alloc (by simp) _).alloc (by simp; omega) _⟩)
    | skip
  have hB0 : ∀ o1 o2 o3, Below w.heap.size w (((w.alloc o1).alloc o2).alloc o3) := fun o1 o2 o3 => (((Below.refl w.heap.size w).alloc (Nat.le_refl _) _).alloc (by simp) _).alloc (by simp; omega) _
  refine (Tryz.utf8_ValidString _ _ ht (tabs_below HT.out (hB0 _ _ _))).mono ?_
  rintro e w1 ⟨rfl, hb1⟩
  have HB1 := Lib.hid ((hB0 _ _ _).trans (hb1.mono (by simp; omega)))
  obtain ⟨k0, -⟩ := bblk hb1 (b := w.heap.size) (by simp; omega)
  clear hB0 hb1
  generalize Lib.validD t.data.toList = bt at *
  cases bt
  · go_wp2_with fail
    go_ret
    exact ⟨_, rfl, (by intro h; cases h), HB1.out⟩
  go_wp2_with fail
  refine (Tryz.utf8_ValidString _ _ hm (tabs_below HT.out HB1.out)).mono ?_
  rintro e w2 ⟨rfl, hb2⟩
  have HB2 := Lib.hid (HB1.out.trans (hb2.mono HB1.out.size))
  have hlt : w.heap.size < w1.heap.size := by
    have h0 : w1.cell? ⟨w.heap.size, 1, none⟩ = some (.string t) := by rw [k0]; simp [go_sem]
    exact World.block_lt_of_cell? _ _ h0
  obtain ⟨k1, -⟩ := bblk hb2 (b := w.heap.size) hlt
  clear hb2
  generalize Lib.validD m.data.toList = bm at *
  cases bm
  · go_wp2_with fail
    go_ret
    exact ⟨_, rfl, (by intro h; cases h), HB2.out⟩
  go_wp2_with fail
  go_ret
  exact ⟨_, rfl, (fun hb => ⟨fun _ => empty_of (by assumption), fun h => absurd (show hasNum 37 = false from h) (by decide), fun _ _ => empty_of (by assumption), (show t.size ≤ 300 by omega), (show m.size ≤ 300 by omega), fun h => absurd (show (37 : Int) = 21 from h) (by decide), fun h => absurd (show (37 : Int) = 22 from h) (by decide), fun h => absurd (show (37 : Int) = 23 from h) (by decide), fun h => absurd (show (37 : Int) = 35 from h) (by decide), fun h => absurd (show (37 : Int) = 52 from h) (by decide), fun h => absurd (show (37 : Int) = 40 from h) (by decide)⟩), HB2.out⟩

set_option maxRecDepth 100000 in
set_option maxHeartbeats 2000000 in
theorem plain_38 (t m : ByteArray) (u : Int) (ao : Option Addr) (len cap : Nat) (kids : List Nd) (w : World) (ht : t.size ≤ 9223372036854775807) (hm : m.size ≤ 9223372036854775807) (hT : Lib.Utf8Tabs 1 2 w) :
    Calls Tryz.prog 78 #[.agg #[.int .i64 38, .string t, .string m, .int .u64 u, .slice ao len cap]] w (SomeB (PlainP (.mk 38 t m u ao cap kids)) w) := by
  have HT := Lib.hid hT
  clear hT
  go_enter Tryz.func78, Tryz.ntmps78
  go_wp2_with fail
  refine (in_any _ _ [2, 3, 7, 21, 22, 23, 31, 33, 34, 40, 42] 11 _ _ rfl (by omega) ?i1).mono ?_
  case i1 => exact intsIn_at [2, 3, 7, 21, 22, 23, 31, 33, 34, 40, 42] _ _ (by simp)
  rintro e w1 ⟨rfl, rfl⟩
  rw [(show inB 38 [2, 3, 7, 21, 22, 23, 31, 33, 34, 40, 42] = false from by decide)]
  go_wp2_with fail
  refine (in_any _ _ [35, 36, 37, 38, 40, 41, 52] 7 _ _ rfl (by omega) ?i2).mono ?_
  case i2 => exact intsIn_at [35, 36, 37, 38, 40, 41, 52] _ _ (by simp)
  rintro e w1 ⟨rfl, rfl⟩
  rw [(show inB 38 [35, 36, 37, 38, 40, 41, 52] = true from by decide)]
  go_wp2_with fail
  rotate_left
  all_goals first
    | (go_ret
       exact ⟨_, rfl, (by intro h; cases h), (((Below.refl _ _).alloc (Nat.le_refl _) _).alloc (by simp) _).alloc (by simp; omega) _⟩)
    | skip
  have hB0 : ∀ o1 o2 o3, Below w.heap.size w (((w.alloc o1).alloc o2).alloc o3) := fun o1 o2 o3 => (((Below.refl w.heap.size w).alloc (Nat.le_refl _) _).alloc (by simp) _).alloc (by simp; omega) _
  refine (Tryz.utf8_ValidString _ _ ht (tabs_below HT.out (hB0 _ _ _))).mono ?_
  rintro e w1 ⟨rfl, hb1⟩
  have HB1 := Lib.hid ((hB0 _ _ _).trans (hb1.mono (by simp; omega)))
  obtain ⟨k0, -⟩ := bblk hb1 (b := w.heap.size) (by simp; omega)
  clear hB0 hb1
  generalize Lib.validD t.data.toList = bt at *
  cases bt
  · go_wp2_with fail
    go_ret
    exact ⟨_, rfl, (by intro h; cases h), HB1.out⟩
  go_wp2_with fail
  refine (Tryz.utf8_ValidString _ _ hm (tabs_below HT.out HB1.out)).mono ?_
  rintro e w2 ⟨rfl, hb2⟩
  have HB2 := Lib.hid (HB1.out.trans (hb2.mono HB1.out.size))
  have hlt : w.heap.size < w1.heap.size := by
    have h0 : w1.cell? ⟨w.heap.size, 1, none⟩ = some (.string t) := by rw [k0]; simp [go_sem]
    exact World.block_lt_of_cell? _ _ h0
  obtain ⟨k1, -⟩ := bblk hb2 (b := w.heap.size) hlt
  clear hb2
  generalize Lib.validD m.data.toList = bm at *
  cases bm
  · go_wp2_with fail
    go_ret
    exact ⟨_, rfl, (by intro h; cases h), HB2.out⟩
  go_wp2_with fail
  go_ret
  exact ⟨_, rfl, (fun hb => ⟨fun _ => empty_of (by assumption), fun h => absurd (show hasNum 38 = false from h) (by decide), fun _ _ => empty_of (by assumption), (show t.size ≤ 300 by omega), (show m.size ≤ 300 by omega), fun h => absurd (show (38 : Int) = 21 from h) (by decide), fun h => absurd (show (38 : Int) = 22 from h) (by decide), fun h => absurd (show (38 : Int) = 23 from h) (by decide), fun h => absurd (show (38 : Int) = 35 from h) (by decide), fun h => absurd (show (38 : Int) = 52 from h) (by decide), fun h => absurd (show (38 : Int) = 40 from h) (by decide)⟩), HB2.out⟩

set_option maxRecDepth 100000 in
set_option maxHeartbeats 2000000 in
theorem plain_41 (t m : ByteArray) (u : Int) (ao : Option Addr) (len cap : Nat) (kids : List Nd) (w : World) (ht : t.size ≤ 9223372036854775807) (hm : m.size ≤ 9223372036854775807) (hT : Lib.Utf8Tabs 1 2 w) :
    Calls Tryz.prog 78 #[.agg #[.int .i64 41, .string t, .string m, .int .u64 u, .slice ao len cap]] w (SomeB (PlainP (.mk 41 t m u ao cap kids)) w) := by
  have HT := Lib.hid hT
  clear hT
  go_enter Tryz.func78, Tryz.ntmps78
  go_wp2_with fail
  refine (in_any _ _ [2, 3, 7, 21, 22, 23, 31, 33, 34, 40, 42] 11 _ _ rfl (by omega) ?i1).mono ?_
  case i1 => exact intsIn_at [2, 3, 7, 21, 22, 23, 31, 33, 34, 40, 42] _ _ (by simp)
  rintro e w1 ⟨rfl, rfl⟩
  rw [(show inB 41 [2, 3, 7, 21, 22, 23, 31, 33, 34, 40, 42] = false from by decide)]
  go_wp2_with fail
  refine (in_any _ _ [35, 36, 37, 38, 40, 41, 52] 7 _ _ rfl (by omega) ?i2).mono ?_
  case i2 => exact intsIn_at [35, 36, 37, 38, 40, 41, 52] _ _ (by simp)
  rintro e w1 ⟨rfl, rfl⟩
  rw [(show inB 41 [35, 36, 37, 38, 40, 41, 52] = true from by decide)]
  go_wp2_with fail
  rotate_left
  all_goals first
    | (go_ret
       exact ⟨_, rfl, (by intro h; cases h), (((Below.refl _ _).alloc (Nat.le_refl _) _).alloc (by simp) _).alloc (by simp; omega) _⟩)
    | skip
  have hB0 : ∀ o1 o2 o3, Below w.heap.size w (((w.alloc o1).alloc o2).alloc o3) := fun o1 o2 o3 => (((Below.refl w.heap.size w).alloc (Nat.le_refl _) _).alloc (by simp) _).alloc (by simp; omega) _
  refine (Tryz.utf8_ValidString _ _ ht (tabs_below HT.out (hB0 _ _ _))).mono ?_
  rintro e w1 ⟨rfl, hb1⟩
  have HB1 := Lib.hid ((hB0 _ _ _).trans (hb1.mono (by simp; omega)))
  obtain ⟨k0, -⟩ := bblk hb1 (b := w.heap.size) (by simp; omega)
  clear hB0 hb1
  generalize Lib.validD t.data.toList = bt at *
  cases bt
  · go_wp2_with fail
    go_ret
    exact ⟨_, rfl, (by intro h; cases h), HB1.out⟩
  go_wp2_with fail
  refine (Tryz.utf8_ValidString _ _ hm (tabs_below HT.out HB1.out)).mono ?_
  rintro e w2 ⟨rfl, hb2⟩
  have HB2 := Lib.hid (HB1.out.trans (hb2.mono HB1.out.size))
  have hlt : w.heap.size < w1.heap.size := by
    have h0 : w1.cell? ⟨w.heap.size, 1, none⟩ = some (.string t) := by rw [k0]; simp [go_sem]
    exact World.block_lt_of_cell? _ _ h0
  obtain ⟨k1, -⟩ := bblk hb2 (b := w.heap.size) hlt
  clear hb2
  generalize Lib.validD m.data.toList = bm at *
  cases bm
  · go_wp2_with fail
    go_ret
    exact ⟨_, rfl, (by intro h; cases h), HB2.out⟩
  go_wp2_with fail
  go_ret
  exact ⟨_, rfl, (fun hb => ⟨fun _ => empty_of (by assumption), fun h => absurd (show hasNum 41 = false from h) (by decide), fun _ _ => empty_of (by assumption), (show t.size ≤ 300 by omega), (show m.size ≤ 300 by omega), fun h => absurd (show (41 : Int) = 21 from h) (by decide), fun h => absurd (show (41 : Int) = 22 from h) (by decide), fun h => absurd (show (41 : Int) = 23 from h) (by decide), fun h => absurd (show (41 : Int) = 35 from h) (by decide), fun h => absurd (show (41 : Int) = 52 from h) (by decide), fun h => absurd (show (41 : Int) = 40 from h) (by decide)⟩), HB2.out⟩

set_option maxRecDepth 100000 in
set_option maxHeartbeats 2000000 in
theorem plain_52 (t m : ByteArray) (u : Int) (ao : Option Addr) (len cap : Nat) (kids : List Nd) (w : World) (ht : t.size ≤ 9223372036854775807) (hm : m.size ≤ 9223372036854775807) (hT : Lib.Utf8Tabs 1 2 w) :
    Calls Tryz.prog 78 #[.agg #[.int .i64 52, .string t, .string m, .int .u64 u, .slice ao len cap]] w (SomeB (PlainP (.mk 52 t m u ao cap kids)) w) := by
  have HT := Lib.hid hT
  clear hT
  go_enter Tryz.func78, Tryz.ntmps78
  go_wp2_with fail
  refine (in_any _ _ [2, 3, 7, 21, 22, 23, 31, 33, 34, 40, 42] 11 _ _ rfl (by omega) ?i1).mono ?_
  case i1 => exact intsIn_at [2, 3, 7, 21, 22, 23, 31, 33, 34, 40, 42] _ _ (by simp)
  rintro e w1 ⟨rfl, rfl⟩
  rw [(show inB 52 [2, 3, 7, 21, 22, 23, 31, 33, 34, 40, 42] = false from by decide)]
  go_wp2_with fail
  refine (in_any _ _ [35, 36, 37, 38, 40, 41, 52] 7 _ _ rfl (by omega) ?i2).mono ?_
  case i2 => exact intsIn_at [35, 36, 37, 38, 40, 41, 52] _ _ (by simp)
  rintro e w1 ⟨rfl, rfl⟩
  rw [(show inB 52 [35, 36, 37, 38, 40, 41, 52] = true from by decide)]
  go_wp2_with fail
  rotate_left
  all_goals first
    | (go_ret
       exact ⟨_, rfl, (by intro h; cases h), (((Below.refl _ _).alloc (Nat.le_refl _) _).alloc (by simp) _).alloc (by simp; omega) _⟩)
    | skip
  have hB0 : ∀ o1 o2 o3, Below w.heap.size w (((w.alloc o1).alloc o2).alloc o3) := fun o1 o2 o3 => (((Below.refl w.heap.size w).alloc (Nat.le_refl _) _).alloc (by simp) _).alloc (by simp; omega) _
  refine (Tryz.utf8_ValidString _ _ ht (tabs_below HT.out (hB0 _ _ _))).mono ?_
  rintro e w1 ⟨rfl, hb1⟩
  have HB1 := Lib.hid ((hB0 _ _ _).trans (hb1.mono (by simp; omega)))
  obtain ⟨k0, -⟩ := bblk hb1 (b := w.heap.size) (by simp; omega)
  clear hB0 hb1
  generalize Lib.validD t.data.toList = bt at *
  cases bt
  · go_wp2_with fail
    go_ret
    exact ⟨_, rfl, (by intro h; cases h), HB1.out⟩
  go_wp2_with fail
  refine (Tryz.utf8_ValidString _ _ hm (tabs_below HT.out HB1.out)).mono ?_
  rintro e w2 ⟨rfl, hb2⟩
  have HB2 := Lib.hid (HB1.out.trans (hb2.mono HB1.out.size))
  have hlt : w.heap.size < w1.heap.size := by
    have h0 : w1.cell? ⟨w.heap.size, 1, none⟩ = some (.string t) := by rw [k0]; simp [go_sem]
    exact World.block_lt_of_cell? _ _ h0
  obtain ⟨k1, -⟩ := bblk hb2 (b := w.heap.size) hlt
  clear hb2
  generalize Lib.validD m.data.toList = bm at *
  cases bm
  · go_wp2_with fail
    go_ret
    exact ⟨_, rfl, (by intro h; cases h), HB2.out⟩
  go_wp2_with fail
  go_ret
  exact ⟨_, rfl, (fun hb => ⟨fun _ => empty_of (by assumption), fun h => absurd (show hasNum 52 = false from h) (by decide), fun _ _ => empty_of (by assumption), (show t.size ≤ 300 by omega), (show m.size ≤ 300 by omega), fun h => absurd (show (52 : Int) = 21 from h) (by decide), fun h => absurd (show (52 : Int) = 22 from h) (by decide), fun h => absurd (show (52 : Int) = 23 from h) (by decide), fun h => absurd (show (52 : Int) = 35 from h) (by decide), fun _ => (show u ≤ 2 from of_decide_eq_true hb), fun h => absurd (show (52 : Int) = 40 from h) (by decide)⟩), HB2.out⟩

set_option maxRecDepth 100000 in
set_option maxHeartbeats 2000000 in
theorem plain_other (k : Int) (hk : k ≠ 2 ∧ k ≠ 3 ∧ k ≠ 7 ∧ k ≠ 21 ∧ k ≠ 22 ∧ k ≠ 23 ∧ k ≠ 31 ∧ k ≠ 33 ∧ k ≠ 34 ∧ k ≠ 35 ∧ k ≠ 36 ∧ k ≠ 37 ∧ k ≠ 38 ∧ k ≠ 40 ∧ k ≠ 41 ∧ k ≠ 42 ∧ k ≠ 52) (t m : ByteArray) (u : Int) (ao : Option Addr) (len cap : Nat) (kids : List Nd) (w : World) (ht : t.size ≤ 9223372036854775807) (hm : m.size ≤ 9223372036854775807) (hT : Lib.Utf8Tabs 1 2 w) :
    Calls Tryz.prog 78 #[.agg #[.int .i64 k, .string t, .string m, .int .u64 u, .slice ao len cap]] w (SomeB (PlainP (.mk k t m u ao cap kids)) w) := by
  have HT := Lib.hid hT
  clear hT
  have HK := Lib.hid hk
  have d2 : (k == 2) = false := by simpa using (show k ≠ 2 by omega)
  have d3 : (k == 3) = false := by simpa using (show k ≠ 3 by omega)
  have d7 : (k == 7) = false := by simpa using (show k ≠ 7 by omega)
  have d21 : (k == 21) = false := by simpa using (show k ≠ 21 by omega)
  have d22 : (k == 22) = false := by simpa using (show k ≠ 22 by omega)
  have d23 : (k == 23) = false := by simpa using (show k ≠ 23 by omega)
  have d31 : (k == 31) = false := by simpa using (show k ≠ 31 by omega)
  have d33 : (k == 33) = false := by simpa using (show k ≠ 33 by omega)
  have d34 : (k == 34) = false := by simpa using (show k ≠ 34 by omega)
  have d35 : (k == 35) = false := by simpa using (show k ≠ 35 by omega)
  have d36 : (k == 36) = false := by simpa using (show k ≠ 36 by omega)
  have d37 : (k == 37) = false := by simpa using (show k ≠ 37 by omega)
  have d38 : (k == 38) = false := by simpa using (show k ≠ 38 by omega)
  have d40 : (k == 40) = false := by simpa using (show k ≠ 40 by omega)
  have d41 : (k == 41) = false := by simpa using (show k ≠ 41 by omega)
  have d42 : (k == 42) = false := by simpa using (show k ≠ 42 by omega)
  have d52 : (k == 52) = false := by simpa using (show k ≠ 52 by omega)
  have e2 : (k != 2) = true := by simpa using (show k ≠ 2 by omega)
  have e3 : (k != 3) = true := by simpa using (show k ≠ 3 by omega)
  clear hk
  go_enter Tryz.func78, Tryz.ntmps78
  go_wp2_with fail
  refine (in_any _ _ [2, 3, 7, 21, 22, 23, 31, 33, 34, 40, 42] 11 _ _ rfl (by omega) ?i1).mono ?_
  case i1 => exact intsIn_at [2, 3, 7, 21, 22, 23, 31, 33, 34, 40, 42] _ _ (by simp)
  rintro e w1 ⟨rfl, rfl⟩
  rw [(show inB k [2, 3, 7, 21, 22, 23, 31, 33, 34, 40, 42] = false from by have := HK.out; unfold inB; simp; omega)]
  go_wp2_with fail
  refine (in_any _ _ [35, 36, 37, 38, 40, 41, 52] 7 _ _ rfl (by omega) ?i2).mono ?_
  case i2 => exact intsIn_at [35, 36, 37, 38, 40, 41, 52] _ _ (by simp)
  rintro e w1 ⟨rfl, rfl⟩
  rw [(show inB k [35, 36, 37, 38, 40, 41, 52] = false from by have := HK.out; unfold inB; simp; omega)]
  go_wp2_with fail
  rotate_left
  all_goals first
    | (go_ret
       exact ⟨_, rfl, (by intro h; cases h), (((Below.refl _ _).alloc (Nat.le_refl _) _).alloc (by simp) _).alloc (by simp; omega) _⟩)
    | skip
  have hB0 : ∀ o1 o2 o3, Below w.heap.size w (((w.alloc o1).alloc o2).alloc o3) := fun o1 o2 o3 => (((Below.refl w.heap.size w).alloc (Nat.le_refl _) _).alloc (by simp) _).alloc (by simp; omega) _
  refine (Tryz.utf8_ValidString _ _ ht (tabs_below HT.out (hB0 _ _ _))).mono ?_
  rintro e w1 ⟨rfl, hb1⟩
  have HB1 := Lib.hid ((hB0 _ _ _).trans (hb1.mono (by simp; omega)))
  obtain ⟨k0, -⟩ := bblk hb1 (b := w.heap.size) (by simp; omega)
  clear hB0 hb1
  generalize Lib.validD t.data.toList = bt at *
  cases bt
  · go_wp2_with fail
    go_ret
    exact ⟨_, rfl, (by intro h; cases h), HB1.out⟩
  go_wp2_with fail
  refine (Tryz.utf8_ValidString _ _ hm (tabs_below HT.out HB1.out)).mono ?_
  rintro e w2 ⟨rfl, hb2⟩
  have HB2 := Lib.hid (HB1.out.trans (hb2.mono HB1.out.size))
  have hlt : w.heap.size < w1.heap.size := by
    have h0 : w1.cell? ⟨w.heap.size, 1, none⟩ = some (.string t) := by rw [k0]; simp [go_sem]
    exact World.block_lt_of_cell? _ _ h0
  obtain ⟨k1, -⟩ := bblk hb2 (b := w.heap.size) hlt
  clear hb2
  generalize Lib.validD m.data.toList = bm at *
  cases bm
  · go_wp2_with fail
    go_ret
    exact ⟨_, rfl, (by intro h; cases h), HB2.out⟩
  go_wp2_with fail
  go_ret
  have hk := HK.out
  refine ⟨_, rfl, (fun hb => ⟨fun _ => empty_of (by assumption), fun _ => (by first | rfl | assumption), fun _ _ => empty_of (by assumption), (show t.size ≤ 300 by omega), (show m.size ≤ 300 by omega), (fun h => absurd h (show k ≠ 21 by omega)), (fun h => absurd h (show k ≠ 22 by omega)), (fun h => absurd h (show k ≠ 23 by omega)), (fun h => absurd h (show k ≠ 35 by omega)), (fun h => absurd h (show k ≠ 52 by omega)), (fun h => absurd h (show k ≠ 40 by omega))⟩), HB2.out⟩

end Go.Proofs.YtcbcdgifakcooaaGreatDoor
