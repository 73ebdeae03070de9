/-
  plainFields kind by kind, part B. No conditions beyond the tables of the decoder.
-/
import Derived.Test.YtcbcdgifakcooaaGreatDoorPlain
import Derived.Deep.RegionWith
namespace Go.Proofs.YtcbcdgifakcooaaGreatDoor
open Go.RowKit
set_option linter.unusedVariables false

theorem no12 : (!(op 12).toList == ([110, 111, 116] : List UInt8) && !(op 12).toList == ([101, 120, 105, 115, 116, 115] : List UInt8)) = false := by decide +kernel
theorem no13 : (!(op 13).toList == ([110, 111, 116] : List UInt8) && !(op 13).toList == ([101, 120, 105, 115, 116, 115] : List UInt8)) = false := by decide +kernel

set_option maxRecDepth 100000 in
set_option maxHeartbeats 2000000 in
theorem plain_21 (t m : ByteArray) (u : Int) (ao : Option Addr) (len cap : Nat) (kids : List Nd) (w : World) (ht : t.size ≤ 9223372036854775807) (hm : m.size ≤ 9223372036854775807) (hT : Lib.Utf8Tabs 1 2 w) :
    Calls Tryz.prog 78 #[.agg #[.int .i64 21, .string t, .string m, .int .u64 u, .slice ao len cap]] w (SomeB (PlainP (.mk 21 t m u ao cap kids)) w) := by
  have HT := Lib.hid hT
  clear hT
  go_enter Tryz.func78, Tryz.ntmps78
  go_wp2_with fail
  refine (in_any _ _ [2, 3, 7, 21, 22, 23, 31, 33, 34, 40, 42] 11 _ _ rfl (by omega) ?i1).mono ?_
  case i1 => exact intsIn_at [2, 3, 7, 21, 22, 23, 31, 33, 34, 40, 42] _ _ (by simp)
  rintro e w1 ⟨rfl, rfl⟩
  rw [(show inB 21 [2, 3, 7, 21, 22, 23, 31, 33, 34, 40, 42] = true from by decide)]
  go_wp2_with fail
  refine (in_any _ _ [35, 36, 37, 38, 40, 41, 52] 7 _ _ rfl (by omega) ?i2).mono ?_
  case i2 => exact intsIn_at [35, 36, 37, 38, 40, 41, 52] _ _ (by simp)
  rintro e w1 ⟨rfl, rfl⟩
  rw [(show inB 21 [35, 36, 37, 38, 40, 41, 52] = false from by decide)]
  go_wp2_with fail
  rotate_left
  all_goals first
    | (go_ret
       exact ⟨_, rfl, (by intro h; cases h), (((Below.refl _ _).alloc (Nat.le_refl _) _).alloc (by simp) _).alloc (by simp; omega) _⟩)
    | skip
  have hB0 : ∀ o1 o2 o3, Below w.heap.size w (((w.alloc o1).alloc o2).alloc o3) := fun o1 o2 o3 => (((Below.refl w.heap.size w).alloc (Nat.le_refl _) _).alloc (by simp) _).alloc (by simp; omega) _
  refine (Tryz.utf8_ValidString _ _ ht (tabs_below HT.out (hB0 _ _ _))).mono ?_
  rintro e w1 ⟨rfl, hb1⟩
  have HB1 := Lib.hid ((hB0 _ _ _).trans (hb1.mono (by simp; omega)))
  obtain ⟨k0, -⟩ := bblk hb1 (b := w.heap.size) (by simp; omega)
  clear hB0 hb1
  generalize Lib.validD t.data.toList = bt at *
  cases bt
  · go_wp2_with fail
    go_ret
    exact ⟨_, rfl, (by intro h; cases h), HB1.out⟩
  go_wp2_with fail
  refine (Tryz.utf8_ValidString _ _ hm (tabs_below HT.out HB1.out)).mono ?_
  rintro e w2 ⟨rfl, hb2⟩
  have HB2 := Lib.hid (HB1.out.trans (hb2.mono HB1.out.size))
  have hlt : w.heap.size < w1.heap.size := by
    have h0 : w1.cell? ⟨w.heap.size, 1, none⟩ = some (.string t) := by rw [k0]; simp [go_sem]
    exact World.block_lt_of_cell? _ _ h0
  obtain ⟨k1, -⟩ := bblk hb2 (b := w.heap.size) hlt
  clear hb2
  generalize Lib.validD m.data.toList = bm at *
  cases bm
  · go_wp2_with fail
    go_ret
    exact ⟨_, rfl, (by intro h; cases h), HB2.out⟩
  by_cases ho : isOp t
  · obtain ⟨j, hj, rfl⟩ := ho
    go_wp2_with fail
    refine (num_yes j hj _).mono ?_
    rintro e w3 ⟨rfl, hb3⟩
    have HB3 := Lib.hid (HB2.out.trans (hb3.mono HB2.out.size))
    obtain ⟨k2, -⟩ := bblk hb3 (b := w.heap.size) (by have h0 : w2.cell? ⟨w.heap.size, 1, none⟩ = some (.string (op j)) := (by rw [k1, k0]; simp [go_sem])
                                                      exact World.block_lt_of_cell? _ _ h0)
    clear hb3
    have hp : 0 < (j : Int) + 1 := by omega
    by_cases j12 : j = 12
    · subst j12
      go_wp2_with fail
      all_goals
        go_ret
        exact ⟨_, rfl, (by intro h; first | (cases h; done) | exact absurd (no12.symm.trans h) Bool.false_ne_true), HB3.out⟩
    by_cases j13 : j = 13
    · subst j13
      go_wp2_with fail
      all_goals
        go_ret
        exact ⟨_, rfl, (by intro h; first | (cases h; done) | exact absurd (no13.symm.trans h) Bool.false_ne_true), HB3.out⟩
    go_wp2_with fail
    all_goals
      go_ret
      exact ⟨_, rfl, (fun hb => ⟨fun h => absurd (show hasText 21 = false from h) (by decide), fun _ => by first | rfl | assumption, fun _ _ => empty_of (by assumption), (show (op j).size ≤ 300 by omega), (show m.size ≤ 300 by omega), fun _ => ⟨j, hj, j12, j13, rfl⟩, fun h => absurd (show (21 : Int) = 22 from h) (by decide), fun h => absurd (show (21 : Int) = 23 from h) (by decide), fun h => absurd (show (21 : Int) = 35 from h) (by decide), fun h => absurd (show (21 : Int) = 52 from h) (by decide), fun h => absurd (show (21 : Int) = 40 from h) (by decide)⟩), HB3.out⟩
  · go_wp2_with fail
    refine (num0_no t ho _).mono ?_
    rintro e w3 ⟨rfl, hb3⟩
    have HB3 := Lib.hid (HB2.out.trans (hb3.mono HB2.out.size))
    clear hb3
    go_wp2_with fail
    go_ret
    exact ⟨_, rfl, (by intro h; revert h; simp), HB3.out⟩

set_option maxRecDepth 100000 in
set_option maxHeartbeats 2000000 in
theorem plain_22 (t m : ByteArray) (u : Int) (ao : Option Addr) (len cap : Nat) (kids : List Nd) (w : World) (ht : t.size ≤ 9223372036854775807) (hm : m.size ≤ 9223372036854775807) (hT : Lib.Utf8Tabs 1 2 w) :
    Calls Tryz.prog 78 #[.agg #[.int .i64 22, .string t, .string m, .int .u64 u, .slice ao len cap]] w (SomeB (PlainP (.mk 22 t m u ao cap kids)) w) := by
  have HT := Lib.hid hT
  clear hT
  go_enter Tryz.func78, Tryz.ntmps78
  go_wp2_with fail
  refine (in_any _ _ [2, 3, 7, 21, 22, 23, 31, 33, 34, 40, 42] 11 _ _ rfl (by omega) ?i1).mono ?_
  case i1 => exact intsIn_at [2, 3, 7, 21, 22, 23, 31, 33, 34, 40, 42] _ _ (by simp)
  rintro e w1 ⟨rfl, rfl⟩
  rw [(show inB 22 [2, 3, 7, 21, 22, 23, 31, 33, 34, 40, 42] = true from by decide)]
  go_wp2_with fail
  refine (in_any _ _ [35, 36, 37, 38, 40, 41, 52] 7 _ _ rfl (by omega) ?i2).mono ?_
  case i2 => exact intsIn_at [35, 36, 37, 38, 40, 41, 52] _ _ (by simp)
  rintro e w1 ⟨rfl, rfl⟩
  rw [(show inB 22 [35, 36, 37, 38, 40, 41, 52] = false from by decide)]
  go_wp2_with fail
  rotate_left
  all_goals first
    | (go_ret
       exact ⟨_, rfl, (by intro h; cases h), (((Below.refl _ _).alloc (Nat.le_refl _) _).alloc (by simp) _).alloc (by simp; omega) _⟩)
    | skip
  have hB0 : ∀ o1 o2 o3, Below w.heap.size w (((w.alloc o1).alloc o2).alloc o3) := fun o1 o2 o3 => (((Below.refl w.heap.size w).alloc (Nat.le_refl _) _).alloc (by simp) _).alloc (by simp; omega) _
  refine (Tryz.utf8_ValidString _ _ ht (tabs_below HT.out (hB0 _ _ _))).mono ?_
  rintro e w1 ⟨rfl, hb1⟩
  have HB1 := Lib.hid ((hB0 _ _ _).trans (hb1.mono (by simp; omega)))
  obtain ⟨k0, -⟩ := bblk hb1 (b := w.heap.size) (by simp; omega)
  clear hB0 hb1
  generalize Lib.validD t.data.toList = bt at *
  cases bt
  · go_wp2_with fail
    go_ret
    exact ⟨_, rfl, (by intro h; cases h), HB1.out⟩
  go_wp2_with fail
  refine (Tryz.utf8_ValidString _ _ hm (tabs_below HT.out HB1.out)).mono ?_
  rintro e w2 ⟨rfl, hb2⟩
  have HB2 := Lib.hid (HB1.out.trans (hb2.mono HB1.out.size))
  have hlt : w.heap.size < w1.heap.size := by
    have h0 : w1.cell? ⟨w.heap.size, 1, none⟩ = some (.string t) := by rw [k0]; simp [go_sem]
    exact World.block_lt_of_cell? _ _ h0
  obtain ⟨k1, -⟩ := bblk hb2 (b := w.heap.size) hlt
  clear hb2
  generalize Lib.validD m.data.toList = bm at *
  cases bm
  · go_wp2_with fail
    go_ret
    exact ⟨_, rfl, (by intro h; cases h), HB2.out⟩
  go_wp2_with fail
  have hw2 : w.heap.size < w2.heap.size := by
    have h0 : w2.cell? ⟨w.heap.size, 1, none⟩ = some (.string t) := (by rw [k1, k0]; simp [go_sem])
    exact World.block_lt_of_cell? _ _ h0
  have c2 : ∀ j, w2.cell? ⟨w.heap.size, j, none⟩ = (w.alloc (.cells #[.int .i64 22, .string t, .string m, .int .u64 0, .slice ao len cap] 25)).cell? ⟨w.heap.size, j, none⟩ := fun j => by rw [k1, k0]; simp [go_sem]
  go_region_with (first | (go_at_call 139; refine (unaries_any _).mono ?_; rintro e w3 ⟨b3, rfl, hs3, hb3⟩; obtain ⟨k2, -⟩ := bblk hb3 (b := w.heap.size) (by first | exact hw2 | (simp; exact hw2))) | (go_at_call 138; refine (hasText_any _ unaryL 4 _ _ _ rfl (by omega) ‹StrsIn _ _ _›).mono ?_; rintro e w4 ⟨rfl, rfl⟩))
  all_goals
    go_wp2_with fail
    go_ret
    exact ⟨_, rfl, (fun hb => ⟨fun h => absurd (show hasText 22 = false from h) (by decide), fun _ => by first | rfl | assumption, fun _ _ => empty_of (by assumption), (show t.size ≤ 300 by omega), (show m.size ≤ 300 by omega), fun h => absurd (show (22 : Int) = 21 from h) (by decide), fun _ => memB_mem (show memB t unaryL = true from hb), fun h => absurd (show (22 : Int) = 23 from h) (by decide), fun h => absurd (show (22 : Int) = 35 from h) (by decide), fun h => absurd (show (22 : Int) = 52 from h) (by decide), fun h => absurd (show (22 : Int) = 40 from h) (by decide)⟩), (by first | exact HB2.out.trans (hb3.mono HB2.out.size) | exact (HB2.out.drew).trans (hb3.mono (by have := HB2.out.size; simpa using this)))⟩

set_option maxRecDepth 100000 in
set_option maxHeartbeats 2000000 in
theorem plain_23 (t m : ByteArray) (u : Int) (ao : Option Addr) (len cap : Nat) (kids : List Nd) (w : World) (ht : t.size ≤ 9223372036854775807) (hm : m.size ≤ 9223372036854775807) (hT : Lib.Utf8Tabs 1 2 w) :
    Calls Tryz.prog 78 #[.agg #[.int .i64 23, .string t, .string m, .int .u64 u, .slice ao len cap]] w (SomeB (PlainP (.mk 23 t m u ao cap kids)) w) := by
  have HT := Lib.hid hT
  clear hT
  go_enter Tryz.func78, Tryz.ntmps78
  go_wp2_with fail
  refine (in_any _ _ [2, 3, 7, 21, 22, 23, 31, 33, 34, 40, 42] 11 _ _ rfl (by omega) ?i1).mono ?_
  case i1 => exact intsIn_at [2, 3, 7, 21, 22, 23, 31, 33, 34, 40, 42] _ _ (by simp)
  rintro e w1 ⟨rfl, rfl⟩
  rw [(show inB 23 [2, 3, 7, 21, 22, 23, 31, 33, 34, 40, 42] = true from by decide)]
  go_wp2_with fail
  refine (in_any _ _ [35, 36, 37, 38, 40, 41, 52] 7 _ _ rfl (by omega) ?i2).mono ?_
  case i2 => exact intsIn_at [35, 36, 37, 38, 40, 41, 52] _ _ (by simp)
  rintro e w1 ⟨rfl, rfl⟩
  rw [(show inB 23 [35, 36, 37, 38, 40, 41, 52] = false from by decide)]
  go_wp2_with fail
  rotate_left
  all_goals first
    | (go_ret
       exact ⟨_, rfl, (by intro h; cases h), (((Below.refl _ _).alloc (Nat.le_refl _) _).alloc (by simp) _).alloc (by simp; omega) _⟩)
    | skip
  have hB0 : ∀ o1 o2 o3, Below w.heap.size w (((w.alloc o1).alloc o2).alloc o3) := fun o1 o2 o3 => (((Below.refl w.heap.size w).alloc (Nat.le_refl _) _).alloc (by simp) _).alloc (by simp; omega) _
  refine (Tryz.utf8_ValidString _ _ ht (tabs_below HT.out (hB0 _ _ _))).mono ?_
  rintro e w1 ⟨rfl, hb1⟩
  have HB1 := Lib.hid ((hB0 _ _ _).trans (hb1.mono (by simp; omega)))
  obtain ⟨k0, -⟩ := bblk hb1 (b := w.heap.size) (by simp; omega)
  clear hB0 hb1
  generalize Lib.validD t.data.toList = bt at *
  cases bt
  · go_wp2_with fail
    go_ret
    exact ⟨_, rfl, (by intro h; cases h), HB1.out⟩
  go_wp2_with fail
  refine (Tryz.utf8_ValidString _ _ hm (tabs_below HT.out HB1.out)).mono ?_
  rintro e w2 ⟨rfl, hb2⟩
  have HB2 := Lib.hid (HB1.out.trans (hb2.mono HB1.out.size))
  have hlt : w.heap.size < w1.heap.size := by
    have h0 : w1.cell? ⟨w.heap.size, 1, none⟩ = some (.string t) := by rw [k0]; simp [go_sem]
    exact World.block_lt_of_cell? _ _ h0
  obtain ⟨k1, -⟩ := bblk hb2 (b := w.heap.size) hlt
  clear hb2
  generalize Lib.validD m.data.toList = bm at *
  cases bm
  · go_wp2_with fail
    go_ret
    exact ⟨_, rfl, (by intro h; cases h), HB2.out⟩
  by_cases ha : t = ⟨#[97, 110, 100]⟩
  · subst ha
    go_wp2_with fail
    go_ret
    exact ⟨_, rfl, (fun hb => ⟨fun h => absurd (show hasText 23 = false from h) (by decide), fun _ => by first | rfl | assumption, fun _ _ => empty_of (by assumption), (show (⟨#[97, 110, 100]⟩ : ByteArray).size ≤ 300 by decide), (show m.size ≤ 300 by omega), fun h => absurd (show (23 : Int) = 21 from h) (by decide), fun h => absurd (show (23 : Int) = 22 from h) (by decide), fun _ => Or.inl rfl, fun h => absurd (show (23 : Int) = 35 from h) (by decide), fun h => absurd (show (23 : Int) = 52 from h) (by decide), fun h => absurd (show (23 : Int) = 40 from h) (by decide)⟩), HB2.out⟩
  by_cases ho : t = ⟨#[111, 114]⟩
  · subst ho
    go_wp2_with fail
    go_ret
    exact ⟨_, rfl, (fun hb => ⟨fun h => absurd (show hasText 23 = false from h) (by decide), fun _ => by first | rfl | assumption, fun _ _ => empty_of (by assumption), (show (⟨#[111, 114]⟩ : ByteArray).size ≤ 300 by decide), (show m.size ≤ 300 by omega), fun h => absurd (show (23 : Int) = 21 from h) (by decide), fun h => absurd (show (23 : Int) = 22 from h) (by decide), fun _ => Or.inr rfl, fun h => absurd (show (23 : Int) = 35 from h) (by decide), fun h => absurd (show (23 : Int) = 52 from h) (by decide), fun h => absurd (show (23 : Int) = 40 from h) (by decide)⟩), HB2.out⟩
  · have n1 : (t.toList == (⟨#[97, 110, 100]⟩ : ByteArray).toList) = false := by
      cases hh : (t.toList == (⟨#[97, 110, 100]⟩ : ByteArray).toList) with
      | false => rfl
      | true => exact absurd (str_eq hh) ha
    have n2 : (t.toList == (⟨#[111, 114]⟩ : ByteArray).toList) = false := by
      cases hh : (t.toList == (⟨#[111, 114]⟩ : ByteArray).toList) with
      | false => rfl
      | true => exact absurd (str_eq hh) ho
    have HA := Lib.hid ha
    have HO := Lib.hid ho
    clear ha ho
    go_wp2_with fail
    all_goals
      go_ret
      exact ⟨_, rfl, (by intro h; exfalso; revert h; simp_all), HB2.out⟩

set_option maxRecDepth 100000 in
set_option maxHeartbeats 2000000 in
theorem plain_40 (t m : ByteArray) (u : Int) (ao : Option Addr) (len cap : Nat) (kids : List Nd) (w : World) (ht : t.size ≤ 9223372036854775807) (hm : m.size ≤ 9223372036854775807) (hT : Lib.Utf8Tabs 1 2 w) :
    Calls Tryz.prog 78 #[.agg #[.int .i64 40, .string t, .string m, .int .u64 u, .slice ao len cap]] w (SomeB (PlainP (.mk 40 t m u ao cap kids)) w) := by
  have HT := Lib.hid hT
  clear hT
  go_enter Tryz.func78, Tryz.ntmps78
  go_wp2_with fail
  refine (in_any _ _ [2, 3, 7, 21, 22, 23, 31, 33, 34, 40, 42] 11 _ _ rfl (by omega) ?i1).mono ?_
  case i1 => exact intsIn_at [2, 3, 7, 21, 22, 23, 31, 33, 34, 40, 42] _ _ (by simp)
  rintro e w1 ⟨rfl, rfl⟩
  rw [(show inB 40 [2, 3, 7, 21, 22, 23, 31, 33, 34, 40, 42] = true from by decide)]
  go_wp2_with fail
  refine (in_any _ _ [35, 36, 37, 38, 40, 41, 52] 7 _ _ rfl (by omega) ?i2).mono ?_
  case i2 => exact intsIn_at [35, 36, 37, 38, 40, 41, 52] _ _ (by simp)
  rintro e w1 ⟨rfl, rfl⟩
  rw [(show inB 40 [35, 36, 37, 38, 40, 41, 52] = true from by decide)]
  go_wp2_with fail
  rotate_left
  all_goals first
    | (go_ret
       exact ⟨_, rfl, (by intro h; cases h), (((Below.refl _ _).alloc (Nat.le_refl _) _).alloc (by simp) _).alloc (by simp; omega) _⟩)
    | skip
  have hB0 : ∀ o1 o2 o3, Below w.heap.size w (((w.alloc o1).alloc o2).alloc o3) := fun o1 o2 o3 => (((Below.refl w.heap.size w).alloc (Nat.le_refl _) _).alloc (by simp) _).alloc (by simp; omega) _
  refine (Tryz.utf8_ValidString _ _ ht (tabs_below HT.out (hB0 _ _ _))).mono ?_
  rintro e w1 ⟨rfl, hb1⟩
  have HB1 := Lib.hid ((hB0 _ _ _).trans (hb1.mono (by simp; omega)))
  obtain ⟨k0, -⟩ := bblk hb1 (b := w.heap.size) (by simp; omega)
  clear hB0 hb1
  generalize Lib.validD t.data.toList = bt at *
  cases bt
  · go_wp2_with fail
    go_ret
    exact ⟨_, rfl, (by intro h; cases h), HB1.out⟩
  go_wp2_with fail
  refine (Tryz.utf8_ValidString _ _ hm (tabs_below HT.out HB1.out)).mono ?_
  rintro e w2 ⟨rfl, hb2⟩
  have HB2 := Lib.hid (HB1.out.trans (hb2.mono HB1.out.size))
  have hlt : w.heap.size < w1.heap.size := by
    have h0 : w1.cell? ⟨w.heap.size, 1, none⟩ = some (.string t) := by rw [k0]; simp [go_sem]
    exact World.block_lt_of_cell? _ _ h0
  obtain ⟨k1, -⟩ := bblk hb2 (b := w.heap.size) hlt
  clear hb2
  generalize Lib.validD m.data.toList = bm at *
  cases bm
  · go_wp2_with fail
    go_ret
    exact ⟨_, rfl, (by intro h; cases h), HB2.out⟩
  go_wp2_with fail
  have hw2 : w.heap.size < w2.heap.size := by
    have h0 : w2.cell? ⟨w.heap.size, 1, none⟩ = some (.string t) := (by rw [k1, k0]; simp [go_sem])
    exact World.block_lt_of_cell? _ _ h0
  have c2 : ∀ j, w2.cell? ⟨w.heap.size, j, none⟩ = (w.alloc (.cells #[.int .i64 40, .string t, .string m, .int .u64 u, .slice ao len cap] 25)).cell? ⟨w.heap.size, j, none⟩ := fun j => by rw [k1, k0]; simp [go_sem]
  go_region_with (first | (go_at_call 140; refine (units_any _).mono ?_; rintro e w3 ⟨b3, rfl, hs3, hb3⟩; obtain ⟨k2, -⟩ := bblk hb3 (b := w.heap.size) (by first | exact hw2 | (simp; exact hw2))) | (go_at_call 138; refine (hasText_any _ unitsL 10 _ _ _ rfl (by omega) ‹StrsIn _ _ _›).mono ?_; rintro e w4 ⟨rfl, rfl⟩))
  all_goals
    go_wp2_with fail
    go_ret
    exact ⟨_, rfl, (fun hb => ⟨fun h => absurd (show hasText 40 = false from h) (by decide), fun h => absurd (show hasNum 40 = false from h) (by decide), fun _ _ => empty_of (by assumption), (show t.size ≤ 300 by omega), (show m.size ≤ 300 by omega), fun h => absurd (show (40 : Int) = 21 from h) (by decide), fun h => absurd (show (40 : Int) = 22 from h) (by decide), fun h => absurd (show (40 : Int) = 23 from h) (by decide), fun h => absurd (show (40 : Int) = 35 from h) (by decide), fun h => absurd (show (40 : Int) = 52 from h) (by decide), fun _ => memB_mem (show memB t unitsL = true from hb)⟩), (by first | exact HB2.out.trans (hb3.mono HB2.out.size) | exact (HB2.out.drew).trans (hb3.mono (by have := HB2.out.size; simpa using this)))⟩

set_option maxRecDepth 100000 in
set_option maxHeartbeats 2000000 in
theorem plain_33 (t m : ByteArray) (u : Int) (ao : Option Addr) (len cap : Nat) (kids : List Nd) (w : World) (ht : t.size ≤ 9223372036854775807) (hm : m.size ≤ 9223372036854775807) (hT : Lib.Utf8Tabs 1 2 w) :
    Calls Tryz.prog 78 #[.agg #[.int .i64 33, .string t, .string m, .int .u64 u, .slice ao len cap]] w (SomeB (PlainP (.mk 33 t m u ao cap kids)) w) := by
  have HT := Lib.hid hT
  clear hT
  go_enter Tryz.func78, Tryz.ntmps78
  go_wp2_with fail
  refine (in_any _ _ [2, 3, 7, 21, 22, 23, 31, 33, 34, 40, 42] 11 _ _ rfl (by omega) ?i1).mono ?_
  case i1 => exact intsIn_at [2, 3, 7, 21, 22, 23, 31, 33, 34, 40, 42] _ _ (by simp)
  rintro e w1 ⟨rfl, rfl⟩
  rw [(show inB 33 [2, 3, 7, 21, 22, 23, 31, 33, 34, 40, 42] = true from by decide)]
  go_wp2_with fail
  refine (in_any _ _ [35, 36, 37, 38, 40, 41, 52] 7 _ _ rfl (by omega) ?i2).mono ?_
  case i2 => exact intsIn_at [35, 36, 37, 38, 40, 41, 52] _ _ (by simp)
  rintro e w1 ⟨rfl, rfl⟩
  rw [(show inB 33 [35, 36, 37, 38, 40, 41, 52] = false from by decide)]
  go_wp2_with fail
  rotate_left
  all_goals first
    | (go_ret
       exact ⟨_, rfl, (by intro h; cases h), (((Below.refl _ _).alloc (Nat.le_refl _) _).alloc (by simp) _).alloc (by simp; omega) _⟩)
    | skip
  have hB0 : ∀ o1 o2 o3, Below w.heap.size w (((w.alloc o1).alloc o2).alloc o3) := fun o1 o2 o3 => (((Below.refl w.heap.size w).alloc (Nat.le_refl _) _).alloc (by simp) _).alloc (by simp; omega) _
  refine (Tryz.utf8_ValidString _ _ ht (tabs_below HT.out (hB0 _ _ _))).mono ?_
  rintro e w1 ⟨rfl, hb1⟩
  have HB1 := Lib.hid ((hB0 _ _ _).trans (hb1.mono (by simp; omega)))
  obtain ⟨k0, -⟩ := bblk hb1 (b := w.heap.size) (by simp; omega)
  clear hB0 hb1
  generalize Lib.validD t.data.toList = bt at *
  cases bt
  · go_wp2_with fail
    go_ret
    exact ⟨_, rfl, (by intro h; cases h), HB1.out⟩
  go_wp2_with fail
  refine (Tryz.utf8_ValidString _ _ hm (tabs_below HT.out HB1.out)).mono ?_
  rintro e w2 ⟨rfl, hb2⟩
  have HB2 := Lib.hid (HB1.out.trans (hb2.mono HB1.out.size))
  have hlt : w.heap.size < w1.heap.size := by
    have h0 : w1.cell? ⟨w.heap.size, 1, none⟩ = some (.string t) := by rw [k0]; simp [go_sem]
    exact World.block_lt_of_cell? _ _ h0
  obtain ⟨k1, -⟩ := bblk hb2 (b := w.heap.size) hlt
  clear hb2
  generalize Lib.validD m.data.toList = bm at *
  cases bm
  · go_wp2_with fail
    go_ret
    exact ⟨_, rfl, (by intro h; cases h), HB2.out⟩
  go_wp2_with fail
  refine (name_some t _ (by omega) (tabs_below HT.out HB2.out)).mono ?_
  rintro e w3 ⟨nb, rfl, hb3⟩
  have HB3 := Lib.hid (HB2.out.trans (hb3.mono HB2.out.size))
  clear hb3
  go_wp2_with fail
  go_ret
  exact ⟨_, rfl, (fun hb => ⟨fun h => absurd (show hasText 33 = false from h) (by decide), fun _ => by first | rfl | assumption, fun _ _ => empty_of (by assumption), (show t.size ≤ 300 by omega), (show m.size ≤ 300 by omega), fun h => absurd (show (33 : Int) = 21 from h) (by decide), fun h => absurd (show (33 : Int) = 22 from h) (by decide), fun h => absurd (show (33 : Int) = 23 from h) (by decide), fun h => absurd (show (33 : Int) = 35 from h) (by decide), fun h => absurd (show (33 : Int) = 52 from h) (by decide), fun h => absurd (show (33 : Int) = 40 from h) (by decide)⟩), HB3.out⟩

end Go.Proofs.YtcbcdgifakcooaaGreatDoor
