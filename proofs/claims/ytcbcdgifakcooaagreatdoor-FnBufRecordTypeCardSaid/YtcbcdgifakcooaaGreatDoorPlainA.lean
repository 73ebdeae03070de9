/-
  plainFields kind by kind, part A. No conditions beyond the tables of the decoder.
-/
import Derived.Test.YtcbcdgifakcooaaGreatDoorPlain
import Derived.Deep.RegionWith
namespace Go.Proofs.YtcbcdgifakcooaaGreatDoor
open Go.RowKit
set_option linter.unusedVariables false

set_option maxRecDepth 100000 in
set_option maxHeartbeats 2000000 in
theorem plain_2 (t m : ByteArray) (u : Int) (ao : Option Addr) (len cap : Nat) (kids : List Nd) (w : World) (ht : t.size ≤ 9223372036854775807) (hm : m.size ≤ 9223372036854775807) (hT : Lib.Utf8Tabs 1 2 w) :
    Calls Tryz.prog 78 #[.agg #[.int .i64 2, .string t, .string m, .int .u64 u, .slice ao len cap]] w (SomeB (PlainP (.mk 2 t m u ao cap kids)) w) := by
  have HT := Lib.hid hT
  clear hT
  by_cases hme : m.toList = []
  · have hm2 : m.toList.isEmpty = true := by rw [hme]; rfl
    go_enter Tryz.func78, Tryz.ntmps78
    go_wp2_with fail
    refine (in_any _ _ [2, 3, 7, 21, 22, 23, 31, 33, 34, 40, 42] 11 _ _ rfl (by omega) ?i1).mono ?_
    case i1 => exact intsIn_at [2, 3, 7, 21, 22, 23, 31, 33, 34, 40, 42] _ _ (by simp)
    rintro e w1 ⟨rfl, rfl⟩
    rw [(show inB 2 [2, 3, 7, 21, 22, 23, 31, 33, 34, 40, 42] = true from by decide)]
    go_wp2_with fail
    refine (in_any _ _ [35, 36, 37, 38, 40, 41, 52] 7 _ _ rfl (by omega) ?i2).mono ?_
    case i2 => exact intsIn_at [35, 36, 37, 38, 40, 41, 52] _ _ (by simp)
    rintro e w1 ⟨rfl, rfl⟩
    rw [(show inB 2 [35, 36, 37, 38, 40, 41, 52] = false from by decide)]
    go_wp2_with fail
    rotate_left
    all_goals first
      | (go_ret
         exact ⟨_, rfl, (by intro h; cases h), (((Below.refl _ _).alloc (Nat.le_refl _) _).alloc (by simp) _).alloc (by simp; omega) _⟩)
      | skip
    have hB0 : ∀ o1 o2 o3, Below w.heap.size w (((w.alloc o1).alloc o2).alloc o3) := fun o1 o2 o3 => (((Below.refl w.heap.size w).alloc (Nat.le_refl _) _).alloc (by simp) _).alloc (by simp; omega) _
    refine (Tryz.utf8_ValidString _ _ ht (tabs_below HT.out (hB0 _ _ _))).mono ?_
    rintro e w1 ⟨rfl, hb1⟩
    have HB1 := Lib.hid ((hB0 _ _ _).trans (hb1.mono (by simp; omega)))
    obtain ⟨k0, -⟩ := bblk hb1 (b := w.heap.size) (by simp; omega)
    clear hB0 hb1
    generalize Lib.validD t.data.toList = bt at *
    cases bt
    · go_wp2_with fail
      go_ret
      exact ⟨_, rfl, (by intro h; cases h), HB1.out⟩
    go_wp2_with fail
    refine (Tryz.utf8_ValidString _ _ hm (tabs_below HT.out HB1.out)).mono ?_
    rintro e w2 ⟨rfl, hb2⟩
    have HB2 := Lib.hid (HB1.out.trans (hb2.mono HB1.out.size))
    have hlt : w.heap.size < w1.heap.size := by
      have h0 : w1.cell? ⟨w.heap.size, 1, none⟩ = some (.string t) := by rw [k0]; simp [go_sem]
      exact World.block_lt_of_cell? _ _ h0
    obtain ⟨k1, -⟩ := bblk hb2 (b := w.heap.size) hlt
    clear hb2
    generalize Lib.validD m.data.toList = bm at *
    cases bm
    · go_wp2_with fail
      go_ret
      exact ⟨_, rfl, (by intro h; cases h), HB2.out⟩
    go_wp2_with fail
    go_ret
    exact ⟨_, rfl, (fun hb => ⟨fun h => absurd (show hasText 2 = false from h) (by decide), fun _ => by first | rfl | assumption, fun h => absurd rfl h, (show t.size ≤ 300 by omega), (show m.size ≤ 300 by omega), fun h => absurd (show (2 : Int) = 21 from h) (by decide), fun h => absurd (show (2 : Int) = 22 from h) (by decide), fun h => absurd (show (2 : Int) = 23 from h) (by decide), fun h => absurd (show (2 : Int) = 35 from h) (by decide), fun h => absurd (show (2 : Int) = 52 from h) (by decide), fun h => absurd (show (2 : Int) = 40 from h) (by decide)⟩), HB2.out⟩
  · have hm2 : m.toList.isEmpty = false := by simpa using hme
    go_enter Tryz.func78, Tryz.ntmps78
    go_wp2_with fail
    refine (in_any _ _ [2, 3, 7, 21, 22, 23, 31, 33, 34, 40, 42] 11 _ _ rfl (by omega) ?i1).mono ?_
    case i1 => exact intsIn_at [2, 3, 7, 21, 22, 23, 31, 33, 34, 40, 42] _ _ (by simp)
    rintro e w1 ⟨rfl, rfl⟩
    rw [(show inB 2 [2, 3, 7, 21, 22, 23, 31, 33, 34, 40, 42] = true from by decide)]
    go_wp2_with fail
    refine (in_any _ _ [35, 36, 37, 38, 40, 41, 52] 7 _ _ rfl (by omega) ?i2).mono ?_
    case i2 => exact intsIn_at [35, 36, 37, 38, 40, 41, 52] _ _ (by simp)
    rintro e w1 ⟨rfl, rfl⟩
    rw [(show inB 2 [35, 36, 37, 38, 40, 41, 52] = false from by decide)]
    go_wp2_with fail
    rotate_left
    all_goals first
      | (go_ret
         exact ⟨_, rfl, (by intro h; cases h), (((Below.refl _ _).alloc (Nat.le_refl _) _).alloc (by simp) _).alloc (by simp; omega) _⟩)
      | skip
    have hB0 : ∀ o1 o2 o3, Below w.heap.size w (((w.alloc o1).alloc o2).alloc o3) := fun o1 o2 o3 => (((Below.refl w.heap.size w).alloc (Nat.le_refl _) _).alloc (by simp) _).alloc (by simp; omega) _
    refine (Tryz.utf8_ValidString _ _ ht (tabs_below HT.out (hB0 _ _ _))).mono ?_
    rintro e w1 ⟨rfl, hb1⟩
    have HB1 := Lib.hid ((hB0 _ _ _).trans (hb1.mono (by simp; omega)))
    obtain ⟨k0, -⟩ := bblk hb1 (b := w.heap.size) (by simp; omega)
    clear hB0 hb1
    generalize Lib.validD t.data.toList = bt at *
    cases bt
    · go_wp2_with fail
      go_ret
      exact ⟨_, rfl, (by intro h; cases h), HB1.out⟩
    go_wp2_with fail
    refine (Tryz.utf8_ValidString _ _ hm (tabs_below HT.out HB1.out)).mono ?_
    rintro e w2 ⟨rfl, hb2⟩
    have HB2 := Lib.hid (HB1.out.trans (hb2.mono HB1.out.size))
    have hlt : w.heap.size < w1.heap.size := by
      have h0 : w1.cell? ⟨w.heap.size, 1, none⟩ = some (.string t) := by rw [k0]; simp [go_sem]
      exact World.block_lt_of_cell? _ _ h0
    obtain ⟨k1, -⟩ := bblk hb2 (b := w.heap.size) hlt
    clear hb2
    generalize Lib.validD m.data.toList = bm at *
    cases bm
    · go_wp2_with fail
      go_ret
      exact ⟨_, rfl, (by intro h; cases h), HB2.out⟩
    go_wp2_with fail
    go_ret
    exact ⟨_, rfl, (fun hb => ⟨fun h => absurd (show hasText 2 = false from h) (by decide), fun _ => by first | rfl | assumption, fun h => absurd rfl h, (show t.size ≤ 300 by omega), (show m.size ≤ 300 by omega), fun h => absurd (show (2 : Int) = 21 from h) (by decide), fun h => absurd (show (2 : Int) = 22 from h) (by decide), fun h => absurd (show (2 : Int) = 23 from h) (by decide), fun h => absurd (show (2 : Int) = 35 from h) (by decide), fun h => absurd (show (2 : Int) = 52 from h) (by decide), fun h => absurd (show (2 : Int) = 40 from h) (by decide)⟩), HB2.out⟩

set_option maxRecDepth 100000 in
set_option maxHeartbeats 2000000 in
theorem plain_3 (t m : ByteArray) (u : Int) (ao : Option Addr) (len cap : Nat) (kids : List Nd) (w : World) (ht : t.size ≤ 9223372036854775807) (hm : m.size ≤ 9223372036854775807) (hT : Lib.Utf8Tabs 1 2 w) :
    Calls Tryz.prog 78 #[.agg #[.int .i64 3, .string t, .string m, .int .u64 u, .slice ao len cap]] w (SomeB (PlainP (.mk 3 t m u ao cap kids)) w) := by
  have HT := Lib.hid hT
  clear hT
  by_cases hme : m.toList = []
  · have hm2 : m.toList.isEmpty = true := by rw [hme]; rfl
    go_enter Tryz.func78, Tryz.ntmps78
    go_wp2_with fail
    refine (in_any _ _ [2, 3, 7, 21, 22, 23, 31, 33, 34, 40, 42] 11 _ _ rfl (by omega) ?i1).mono ?_
    case i1 => exact intsIn_at [2, 3, 7, 21, 22, 23, 31, 33, 34, 40, 42] _ _ (by simp)
    rintro e w1 ⟨rfl, rfl⟩
    rw [(show inB 3 [2, 3, 7, 21, 22, 23, 31, 33, 34, 40, 42] = true from by decide)]
    go_wp2_with fail
    refine (in_any _ _ [35, 36, 37, 38, 40, 41, 52] 7 _ _ rfl (by omega) ?i2).mono ?_
    case i2 => exact intsIn_at [35, 36, 37, 38, 40, 41, 52] _ _ (by simp)
    rintro e w1 ⟨rfl, rfl⟩
    rw [(show inB 3 [35, 36, 37, 38, 40, 41, 52] = false from by decide)]
    go_wp2_with fail
    rotate_left
    all_goals first
      | (go_ret
         exact ⟨_, rfl, (by intro h; cases h), (((Below.refl _ _).alloc (Nat.le_refl _) _).alloc (by simp) _).alloc (by simp; omega) _⟩)
      | skip
    have hB0 : ∀ o1 o2 o3, Below w.heap.size w (((w.alloc o1).alloc o2).alloc o3) := fun o1 o2 o3 => (((Below.refl w.heap.size w).alloc (Nat.le_refl _) _).alloc (by simp) _).alloc (by simp; omega) _
    refine (Tryz.utf8_ValidString _ _ ht (tabs_below HT.out (hB0 _ _ _))).mono ?_
    rintro e w1 ⟨rfl, hb1⟩
    have HB1 := Lib.hid ((hB0 _ _ _).trans (hb1.mono (by simp; omega)))
    obtain ⟨k0, -⟩ := bblk hb1 (b := w.heap.size) (by simp; omega)
    clear hB0 hb1
    generalize Lib.validD t.data.toList = bt at *
    cases bt
    · go_wp2_with fail
      go_ret
      exact ⟨_, rfl, (by intro h; cases h), HB1.out⟩
    go_wp2_with fail
    refine (Tryz.utf8_ValidString _ _ hm (tabs_below HT.out HB1.out)).mono ?_
    rintro e w2 ⟨rfl, hb2⟩
    have HB2 := Lib.hid (HB1.out.trans (hb2.mono HB1.out.size))
    have hlt : w.heap.size < w1.heap.size := by
      have h0 : w1.cell? ⟨w.heap.size, 1, none⟩ = some (.string t) := by rw [k0]; simp [go_sem]
      exact World.block_lt_of_cell? _ _ h0
    obtain ⟨k1, -⟩ := bblk hb2 (b := w.heap.size) hlt
    clear hb2
    generalize Lib.validD m.data.toList = bm at *
    cases bm
    · go_wp2_with fail
      go_ret
      exact ⟨_, rfl, (by intro h; cases h), HB2.out⟩
    go_wp2_with fail
    go_ret
    exact ⟨_, rfl, (fun hb => ⟨fun h => absurd (show hasText 3 = false from h) (by decide), fun _ => by first | rfl | assumption, fun _ h => absurd rfl h, (show t.size ≤ 300 by omega), (show m.size ≤ 300 by omega), fun h => absurd (show (3 : Int) = 21 from h) (by decide), fun h => absurd (show (3 : Int) = 22 from h) (by decide), fun h => absurd (show (3 : Int) = 23 from h) (by decide), fun h => absurd (show (3 : Int) = 35 from h) (by decide), fun h => absurd (show (3 : Int) = 52 from h) (by decide), fun h => absurd (show (3 : Int) = 40 from h) (by decide)⟩), HB2.out⟩
  · have hm2 : m.toList.isEmpty = false := by simpa using hme
    go_enter Tryz.func78, Tryz.ntmps78
    go_wp2_with fail
    refine (in_any _ _ [2, 3, 7, 21, 22, 23, 31, 33, 34, 40, 42] 11 _ _ rfl (by omega) ?i1).mono ?_
    case i1 => exact intsIn_at [2, 3, 7, 21, 22, 23, 31, 33, 34, 40, 42] _ _ (by simp)
    rintro e w1 ⟨rfl, rfl⟩
    rw [(show inB 3 [2, 3, 7, 21, 22, 23, 31, 33, 34, 40, 42] = true from by decide)]
    go_wp2_with fail
    refine (in_any _ _ [35, 36, 37, 38, 40, 41, 52] 7 _ _ rfl (by omega) ?i2).mono ?_
    case i2 => exact intsIn_at [35, 36, 37, 38, 40, 41, 52] _ _ (by simp)
    rintro e w1 ⟨rfl, rfl⟩
    rw [(show inB 3 [35, 36, 37, 38, 40, 41, 52] = false from by decide)]
    go_wp2_with fail
    rotate_left
    all_goals first
      | (go_ret
         exact ⟨_, rfl, (by intro h; cases h), (((Below.refl _ _).alloc (Nat.le_refl _) _).alloc (by simp) _).alloc (by simp; omega) _⟩)
      | skip
    have hB0 : ∀ o1 o2 o3, Below w.heap.size w (((w.alloc o1).alloc o2).alloc o3) := fun o1 o2 o3 => (((Below.refl w.heap.size w).alloc (Nat.le_refl _) _).alloc (by simp) _).alloc (by simp; omega) _
    refine (Tryz.utf8_ValidString _ _ ht (tabs_below HT.out (hB0 _ _ _))).mono ?_
    rintro e w1 ⟨rfl, hb1⟩
    have HB1 := Lib.hid ((hB0 _ _ _).trans (hb1.mono (by simp; omega)))
    obtain ⟨k0, -⟩ := bblk hb1 (b := w.heap.size) (by simp; omega)
    clear hB0 hb1
    generalize Lib.validD t.data.toList = bt at *
    cases bt
    · go_wp2_with fail
      go_ret
      exact ⟨_, rfl, (by intro h; cases h), HB1.out⟩
    go_wp2_with fail
    refine (Tryz.utf8_ValidString _ _ hm (tabs_below HT.out HB1.out)).mono ?_
    rintro e w2 ⟨rfl, hb2⟩
    have HB2 := Lib.hid (HB1.out.trans (hb2.mono HB1.out.size))
    have hlt : w.heap.size < w1.heap.size := by
      have h0 : w1.cell? ⟨w.heap.size, 1, none⟩ = some (.string t) := by rw [k0]; simp [go_sem]
      exact World.block_lt_of_cell? _ _ h0
    obtain ⟨k1, -⟩ := bblk hb2 (b := w.heap.size) hlt
    clear hb2
    generalize Lib.validD m.data.toList = bm at *
    cases bm
    · go_wp2_with fail
      go_ret
      exact ⟨_, rfl, (by intro h; cases h), HB2.out⟩
    go_wp2_with fail
    go_ret
    exact ⟨_, rfl, (fun hb => ⟨fun h => absurd (show hasText 3 = false from h) (by decide), fun _ => by first | rfl | assumption, fun _ h => absurd rfl h, (show t.size ≤ 300 by omega), (show m.size ≤ 300 by omega), fun h => absurd (show (3 : Int) = 21 from h) (by decide), fun h => absurd (show (3 : Int) = 22 from h) (by decide), fun h => absurd (show (3 : Int) = 23 from h) (by decide), fun h => absurd (show (3 : Int) = 35 from h) (by decide), fun h => absurd (show (3 : Int) = 52 from h) (by decide), fun h => absurd (show (3 : Int) = 40 from h) (by decide)⟩), HB2.out⟩

set_option maxRecDepth 100000 in
set_option maxHeartbeats 2000000 in
theorem plain_7 (t m : ByteArray) (u : Int) (ao : Option Addr) (len cap : Nat) (kids : List Nd) (w : World) (ht : t.size ≤ 9223372036854775807) (hm : m.size ≤ 9223372036854775807) (hT : Lib.Utf8Tabs 1 2 w) :
    Calls Tryz.prog 78 #[.agg #[.int .i64 7, .string t, .string m, .int .u64 u, .slice ao len cap]] w (SomeB (PlainP (.mk 7 t m u ao cap kids)) w) := by
  have HT := Lib.hid hT
  clear hT
  go_enter Tryz.func78, Tryz.ntmps78
  go_wp2_with fail
  refine (in_any _ _ [2, 3, 7, 21, 22, 23, 31, 33, 34, 40, 42] 11 _ _ rfl (by omega) ?i1).mono ?_
  case i1 => exact intsIn_at [2, 3, 7, 21, 22, 23, 31, 33, 34, 40, 42] _ _ (by simp)
  rintro e w1 ⟨rfl, rfl⟩
  rw [(show inB 7 [2, 3, 7, 21, 22, 23, 31, 33, 34, 40, 42] = true from by decide)]
  go_wp2_with fail
  refine (in_any _ _ [35, 36, 37, 38, 40, 41, 52] 7 _ _ rfl (by omega) ?i2).mono ?_
  case i2 => exact intsIn_at [35, 36, 37, 38, 40, 41, 52] _ _ (by simp)
  rintro e w1 ⟨rfl, rfl⟩
  rw [(show inB 7 [35, 36, 37, 38, 40, 41, 52] = false from by decide)]
  go_wp2_with fail
  rotate_left
  all_goals first
    | (go_ret
       exact ⟨_, rfl, (by intro h; cases h), (((Below.refl _ _).alloc (Nat.le_refl _) _).alloc (by simp) _).alloc (by simp; omega) _⟩)
    | skip
  have hB0 : ∀ o1 o2 o3, Below w.heap.size w (((w.alloc o1).alloc o2).alloc o3) := fun o1 o2 o3 => (((Below.refl w.heap.size w).alloc (Nat.le_refl _) _).alloc (by simp) _).alloc (by simp; omega) _
  refine (Tryz.utf8_ValidString _ _ ht (tabs_below HT.out (hB0 _ _ _))).mono ?_
  rintro e w1 ⟨rfl, hb1⟩
  have HB1 := Lib.hid ((hB0 _ _ _).trans (hb1.mono (by simp; omega)))
  obtain ⟨k0, -⟩ := bblk hb1 (b := w.heap.size) (by simp; omega)
  clear hB0 hb1
  generalize Lib.validD t.data.toList = bt at *
  cases bt
  · go_wp2_with fail
    go_ret
    exact ⟨_, rfl, (by intro h; cases h), HB1.out⟩
  go_wp2_with fail
  refine (Tryz.utf8_ValidString _ _ hm (tabs_below HT.out HB1.out)).mono ?_
  rintro e w2 ⟨rfl, hb2⟩
  have HB2 := Lib.hid (HB1.out.trans (hb2.mono HB1.out.size))
  have hlt : w.heap.size < w1.heap.size := by
    have h0 : w1.cell? ⟨w.heap.size, 1, none⟩ = some (.string t) := by rw [k0]; simp [go_sem]
    exact World.block_lt_of_cell? _ _ h0
  obtain ⟨k1, -⟩ := bblk hb2 (b := w.heap.size) hlt
  clear hb2
  generalize Lib.validD m.data.toList = bm at *
  cases bm
  · go_wp2_with fail
    go_ret
    exact ⟨_, rfl, (by intro h; cases h), HB2.out⟩
  go_wp2_with fail
  go_ret
  exact ⟨_, rfl, (fun hb => ⟨fun h => absurd (show hasText 7 = false from h) (by decide), fun _ => by first | rfl | assumption, fun _ _ => empty_of (by assumption), (show t.size ≤ 300 by omega), (show m.size ≤ 300 by omega), fun h => absurd (show (7 : Int) = 21 from h) (by decide), fun h => absurd (show (7 : Int) = 22 from h) (by decide), fun h => absurd (show (7 : Int) = 23 from h) (by decide), fun h => absurd (show (7 : Int) = 35 from h) (by decide), fun h => absurd (show (7 : Int) = 52 from h) (by decide), fun h => absurd (show (7 : Int) = 40 from h) (by decide)⟩), HB2.out⟩

set_option maxRecDepth 100000 in
set_option maxHeartbeats 2000000 in
theorem plain_31 (t m : ByteArray) (u : Int) (ao : Option Addr) (len cap : Nat) (kids : List Nd) (w : World) (ht : t.size ≤ 9223372036854775807) (hm : m.size ≤ 9223372036854775807) (hT : Lib.Utf8Tabs 1 2 w) :
    Calls Tryz.prog 78 #[.agg #[.int .i64 31, .string t, .string m, .int .u64 u, .slice ao len cap]] w (SomeB (PlainP (.mk 31 t m u ao cap kids)) w) := by
  have HT := Lib.hid hT
  clear hT
  go_enter Tryz.func78, Tryz.ntmps78
  go_wp2_with fail
  refine (in_any _ _ [2, 3, 7, 21, 22, 23, 31, 33, 34, 40, 42] 11 _ _ rfl (by omega) ?i1).mono ?_
  case i1 => exact intsIn_at [2, 3, 7, 21, 22, 23, 31, 33, 34, 40, 42] _ _ (by simp)
  rintro e w1 ⟨rfl, rfl⟩
  rw [(show inB 31 [2, 3, 7, 21, 22, 23, 31, 33, 34, 40, 42] = true from by decide)]
  go_wp2_with fail
  refine (in_any _ _ [35, 36, 37, 38, 40, 41, 52] 7 _ _ rfl (by omega) ?i2).mono ?_
  case i2 => exact intsIn_at [35, 36, 37, 38, 40, 41, 52] _ _ (by simp)
  rintro e w1 ⟨rfl, rfl⟩
  rw [(show inB 31 [35, 36, 37, 38, 40, 41, 52] = false from by decide)]
  go_wp2_with fail
  rotate_left
  all_goals first
    | (go_ret
       exact ⟨_, rfl, (by intro h; cases h), (((Below.refl _ _).alloc (Nat.le_refl _) _).alloc (by simp) _).alloc (by simp; omega) _⟩)
    | skip
  have hB0 : ∀ o1 o2 o3, Below w.heap.size w (((w.alloc o1).alloc o2).alloc o3) := fun o1 o2 o3 => (((Below.refl w.heap.size w).alloc (Nat.le_refl _) _).alloc (by simp) _).alloc (by simp; omega) _
  refine (Tryz.utf8_ValidString _ _ ht (tabs_below HT.out (hB0 _ _ _))).mono ?_
  rintro e w1 ⟨rfl, hb1⟩
  have HB1 := Lib.hid ((hB0 _ _ _).trans (hb1.mono (by simp; omega)))
  obtain ⟨k0, -⟩ := bblk hb1 (b := w.heap.size) (by simp; omega)
  clear hB0 hb1
  generalize Lib.validD t.data.toList = bt at *
  cases bt
  · go_wp2_with fail
    go_ret
    exact ⟨_, rfl, (by intro h; cases h), HB1.out⟩
  go_wp2_with fail
  refine (Tryz.utf8_ValidString _ _ hm (tabs_below HT.out HB1.out)).mono ?_
  rintro e w2 ⟨rfl, hb2⟩
  have HB2 := Lib.hid (HB1.out.trans (hb2.mono HB1.out.size))
  have hlt : w.heap.size < w1.heap.size := by
    have h0 : w1.cell? ⟨w.heap.size, 1, none⟩ = some (.string t) := by rw [k0]; simp [go_sem]
    exact World.block_lt_of_cell? _ _ h0
  obtain ⟨k1, -⟩ := bblk hb2 (b := w.heap.size) hlt
  clear hb2
  generalize Lib.validD m.data.toList = bm at *
  cases bm
  · go_wp2_with fail
    go_ret
    exact ⟨_, rfl, (by intro h; cases h), HB2.out⟩
  go_wp2_with fail
  go_ret
  exact ⟨_, rfl, (fun hb => ⟨fun h => absurd (show hasText 31 = false from h) (by decide), fun _ => by first | rfl | assumption, fun _ _ => empty_of (by assumption), (show t.size ≤ 300 by omega), (show m.size ≤ 300 by omega), fun h => absurd (show (31 : Int) = 21 from h) (by decide), fun h => absurd (show (31 : Int) = 22 from h) (by decide), fun h => absurd (show (31 : Int) = 23 from h) (by decide), fun h => absurd (show (31 : Int) = 35 from h) (by decide), fun h => absurd (show (31 : Int) = 52 from h) (by decide), fun h => absurd (show (31 : Int) = 40 from h) (by decide)⟩), HB2.out⟩

set_option maxRecDepth 100000 in
set_option maxHeartbeats 2000000 in
theorem plain_34 (t m : ByteArray) (u : Int) (ao : Option Addr) (len cap : Nat) (kids : List Nd) (w : World) (ht : t.size ≤ 9223372036854775807) (hm : m.size ≤ 9223372036854775807) (hT : Lib.Utf8Tabs 1 2 w) :
    Calls Tryz.prog 78 #[.agg #[.int .i64 34, .string t, .string m, .int .u64 u, .slice ao len cap]] w (SomeB (PlainP (.mk 34 t m u ao cap kids)) w) := by
  have HT := Lib.hid hT
  clear hT
  go_enter Tryz.func78, Tryz.ntmps78
  go_wp2_with fail
  refine (in_any _ _ [2, 3, 7, 21, 22, 23, 31, 33, 34, 40, 42] 11 _ _ rfl (by omega) ?i1).mono ?_
  case i1 => exact intsIn_at [2, 3, 7, 21, 22, 23, 31, 33, 34, 40, 42] _ _ (by simp)
  rintro e w1 ⟨rfl, rfl⟩
  rw [(show inB 34 [2, 3, 7, 21, 22, 23, 31, 33, 34, 40, 42] = true from by decide)]
  go_wp2_with fail
  refine (in_any _ _ [35, 36, 37, 38, 40, 41, 52] 7 _ _ rfl (by omega) ?i2).mono ?_
  case i2 => exact intsIn_at [35, 36, 37, 38, 40, 41, 52] _ _ (by simp)
  rintro e w1 ⟨rfl, rfl⟩
  rw [(show inB 34 [35, 36, 37, 38, 40, 41, 52] = false from by decide)]
  go_wp2_with fail
  rotate_left
  all_goals first
    | (go_ret
       exact ⟨_, rfl, (by intro h; cases h), (((Below.refl _ _).alloc (Nat.le_refl _) _).alloc (by simp) _).alloc (by simp; omega) _⟩)
    | skip
  have hB0 : ∀ o1 o2 o3, Below w.heap.size w (((w.alloc o1).alloc o2).alloc o3) := fun o1 o2 o3 => (((Below.refl w.heap.size w).alloc (Nat.le_refl _) _).alloc (by simp) _).alloc (by simp; omega) _
  refine (Tryz.utf8_ValidString _ _ ht (tabs_below HT.out (hB0 _ _ _))).mono ?_
  rintro e w1 ⟨rfl, hb1⟩
  have HB1 := Lib.hid ((hB0 _ _ _).trans (hb1.mono (by simp; omega)))
  obtain ⟨k0, -⟩ := bblk hb1 (b := w.heap.size) (by simp; omega)
  clear hB0 hb1
  generalize Lib.validD t.data.toList = bt at *
  cases bt
  · go_wp2_with fail
    go_ret
    exact ⟨_, rfl, (by intro h; cases h), HB1.out⟩
  go_wp2_with fail
  refine (Tryz.utf8_ValidString _ _ hm (tabs_below HT.out HB1.out)).mono ?_
  rintro e w2 ⟨rfl, hb2⟩
  have HB2 := Lib.hid (HB1.out.trans (hb2.mono HB1.out.size))
  have hlt : w.heap.size < w1.heap.size := by
    have h0 : w1.cell? ⟨w.heap.size, 1, none⟩ = some (.string t) := by rw [k0]; simp [go_sem]
    exact World.block_lt_of_cell? _ _ h0
  obtain ⟨k1, -⟩ := bblk hb2 (b := w.heap.size) hlt
  clear hb2
  generalize Lib.validD m.data.toList = bm at *
  cases bm
  · go_wp2_with fail
    go_ret
    exact ⟨_, rfl, (by intro h; cases h), HB2.out⟩
  go_wp2_with fail
  go_ret
  exact ⟨_, rfl, (fun hb => ⟨fun h => absurd (show hasText 34 = false from h) (by decide), fun _ => by first | rfl | assumption, fun _ _ => empty_of (by assumption), (show t.size ≤ 300 by omega), (show m.size ≤ 300 by omega), fun h => absurd (show (34 : Int) = 21 from h) (by decide), fun h => absurd (show (34 : Int) = 22 from h) (by decide), fun h => absurd (show (34 : Int) = 23 from h) (by decide), fun h => absurd (show (34 : Int) = 35 from h) (by decide), fun h => absurd (show (34 : Int) = 52 from h) (by decide), fun h => absurd (show (34 : Int) = 40 from h) (by decide)⟩), HB2.out⟩

set_option maxRecDepth 100000 in
set_option maxHeartbeats 2000000 in
theorem plain_42 (t m : ByteArray) (u : Int) (ao : Option Addr) (len cap : Nat) (kids : List Nd) (w : World) (ht : t.size ≤ 9223372036854775807) (hm : m.size ≤ 9223372036854775807) (hT : Lib.Utf8Tabs 1 2 w) :
    Calls Tryz.prog 78 #[.agg #[.int .i64 42, .string t, .string m, .int .u64 u, .slice ao len cap]] w (SomeB (PlainP (.mk 42 t m u ao cap kids)) w) := by
  have HT := Lib.hid hT
  clear hT
  go_enter Tryz.func78, Tryz.ntmps78
  go_wp2_with fail
  refine (in_any _ _ [2, 3, 7, 21, 22, 23, 31, 33, 34, 40, 42] 11 _ _ rfl (by omega) ?i1).mono ?_
  case i1 => exact intsIn_at [2, 3, 7, 21, 22, 23, 31, 33, 34, 40, 42] _ _ (by simp)
  rintro e w1 ⟨rfl, rfl⟩
  rw [(show inB 42 [2, 3, 7, 21, 22, 23, 31, 33, 34, 40, 42] = true from by decide)]
  go_wp2_with fail
  refine (in_any _ _ [35, 36, 37, 38, 40, 41, 52] 7 _ _ rfl (by omega) ?i2).mono ?_
  case i2 => exact intsIn_at [35, 36, 37, 38, 40, 41, 52] _ _ (by simp)
  rintro e w1 ⟨rfl, rfl⟩
  rw [(show inB 42 [35, 36, 37, 38, 40, 41, 52] = false from by decide)]
  go_wp2_with fail
  rotate_left
  all_goals first
    | (go_ret
       exact ⟨_, rfl, (by intro h; cases h), (((Below.refl _ _).alloc (Nat.le_refl _) _).alloc (by simp) _).alloc (by simp; omega) _⟩)
    | skip
  have hB0 : ∀ o1 o2 o3, Below w.heap.size w (((w.alloc o1).alloc o2).alloc o3) := fun o1 o2 o3 => (((Below.refl w.heap.size w).alloc (Nat.le_refl _) _).alloc (by simp) _).alloc (by simp; omega) _
  refine (Tryz.utf8_ValidString _ _ ht (tabs_below HT.out (hB0 _ _ _))).mono ?_
  rintro e w1 ⟨rfl, hb1⟩
  have HB1 := Lib.hid ((hB0 _ _ _).trans (hb1.mono (by simp; omega)))
  obtain ⟨k0, -⟩ := bblk hb1 (b := w.heap.size) (by simp; omega)
  clear hB0 hb1
  generalize Lib.validD t.data.toList = bt at *
  cases bt
  · go_wp2_with fail
    go_ret
    exact ⟨_, rfl, (by intro h; cases h), HB1.out⟩
  go_wp2_with fail
  refine (Tryz.utf8_ValidString _ _ hm (tabs_below HT.out HB1.out)).mono ?_
  rintro e w2 ⟨rfl, hb2⟩
  have HB2 := Lib.hid (HB1.out.trans (hb2.mono HB1.out.size))
  have hlt : w.heap.size < w1.heap.size := by
    have h0 : w1.cell? ⟨w.heap.size, 1, none⟩ = some (.string t) := by rw [k0]; simp [go_sem]
    exact World.block_lt_of_cell? _ _ h0
  obtain ⟨k1, -⟩ := bblk hb2 (b := w.heap.size) hlt
  clear hb2
  generalize Lib.validD m.data.toList = bm at *
  cases bm
  · go_wp2_with fail
    go_ret
    exact ⟨_, rfl, (by intro h; cases h), HB2.out⟩
  go_wp2_with fail
  go_ret
  exact ⟨_, rfl, (fun hb => ⟨fun h => absurd (show hasText 42 = false from h) (by decide), fun _ => by first | rfl | assumption, fun _ _ => empty_of (by assumption), (show t.size ≤ 300 by omega), (show m.size ≤ 300 by omega), fun h => absurd (show (42 : Int) = 21 from h) (by decide), fun h => absurd (show (42 : Int) = 22 from h) (by decide), fun h => absurd (show (42 : Int) = 23 from h) (by decide), fun h => absurd (show (42 : Int) = 35 from h) (by decide), fun h => absurd (show (42 : Int) = 52 from h) (by decide), fun h => absurd (show (42 : Int) = 40 from h) (by decide)⟩), HB2.out⟩

end Go.Proofs.YtcbcdgifakcooaaGreatDoor
