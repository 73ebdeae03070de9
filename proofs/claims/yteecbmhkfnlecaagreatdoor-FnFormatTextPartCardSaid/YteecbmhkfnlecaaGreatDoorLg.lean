/-
  A string's node alone: spec.Writable, Same; the law's tree. No conditions.
-/
import Derived.Test.YteecbmhkfnlecaaGreatDoorLf
import Derived.Lib.Hide
import Derived.Deep.LoopGhost
namespace Go.Proofs.YteecbmhkfnlecaaGreatDoor
open Go.RowKit
set_option linter.unusedVariables false
set_option linter.unusedSimpArgs false

set_option maxRecDepth 100000 in
theorem literal_str (t : ByteArray) (w : World) (ht : t.size ≤ 2147483647) :
    Calls Tryz.prog 13 #[leafV 34 t 0] w (SomeB (PT t.data.toList) w) := by
  show Calls _ _ #[.agg #[.int .i64 34, .string t, .string ⟨#[]⟩, .int .u64 0, .slice none 0 0]] w _
  go_enter Tryz.func13, Tryz.ntmps13
  go_wp2_with fail
  refine (plainText_any t _ ht).mono ?_
  rintro e w1 ⟨b, rfl, hb, hb1⟩
  have HB1 := Lib.hid (((Below.refl w.heap.size w).alloc (Nat.le_refl _) _).trans (hb1.mono (by simp)))
  have HPl := Lib.hid hb
  clear hb hb1
  go_wp2_with fail
  go_ret
  exact ⟨_, rfl, HPl.out, HB1.out⟩

set_option maxRecDepth 100000 in
theorem rooted_str (t : ByteArray) (w : World) :
    Calls Tryz.prog 14 #[leafV 34 t 0] w fun e w' => e = .returned (.bool true) ∧ Below w.heap.size w w' := by
  show Calls _ _ #[.agg #[.int .i64 34, .string t, .string ⟨#[]⟩, .int .u64 0, .slice none 0 0]] w _
  go_enter Tryz.func14, Tryz.ntmps14
  go_wp2_with fail
  go_ret
  exact ⟨rfl, (Below.refl w.heap.size w).alloc (Nat.le_refl _) _⟩

set_option maxRecDepth 100000 in
theorem Writable_str (t : ByteArray) (w : World) (ht : t.size ≤ 2147483647) :
    Calls Tryz.prog 7 #[leafV 34 t 0] w (SomeB (PT t.data.toList) w) := by
  show Calls _ _ #[.agg #[.int .i64 34, .string t, .string ⟨#[]⟩, .int .u64 0, .slice none 0 0]] w _
  go_enter Tryz.func7, Tryz.ntmps7
  go_wp2_with fail
  refine (literal_str t _ ht).mono ?_
  rintro e w1 ⟨b, rfl, hb, hb1⟩
  have HB1 := Lib.hid (((Below.refl w.heap.size w).alloc (Nat.le_refl _) _).trans (hb1.mono (by simp)))
  obtain ⟨k0, -⟩ := oblk hb1 (b := w.heap.size) (by simp)
  have hz1 : w.heap.size < w1.heap.size := by have := hb1.size; simp at this; omega
  have HPl := Lib.hid hb
  clear hb hb1
  cases b
  · go_wp2_with fail
    go_ret
    exact ⟨_, rfl, (by intro h; cases h), HB1.out⟩
  go_wp2_with fail
  refine (rooted_str t _).mono ?_
  rintro e w2 ⟨rfl, hb2⟩
  have HB2 := Lib.hid (HB1.out.trans (hb2.mono HB1.out.size))
  obtain ⟨k1, -⟩ := oblk hb2 (b := w.heap.size) hz1
  clear hb2
  go_wp2_with fail
  go_loopg [16] 0 (fun gk i wr => i = .int .i64 0 ∧ wr = w2)
  case atStart => exact ⟨rfl, rfl⟩
  case round =>
    obtain ⟨rfl, rfl⟩ := hrel
    go_wp2_with fail
    go_ret
    exact ⟨_, rfl, (fun _ => HPl.out (by first | rfl | trivial)), HB2.out⟩

set_option maxRecDepth 100000 in
theorem same_str (t : ByteArray) (w : World) :
    Calls Tryz.prog 9 #[leafV 34 t 0, leafV 34 t 0] w fun e w' => e = .returned (.bool true) ∧ Below w.heap.size w w' := by
  have he : (t.toList != t.toList) = false := by simp
  have HB0 := Lib.hid (fun o1 o2 => ((Below.refl w.heap.size w).alloc (Nat.le_refl _) o1).alloc (by simp) o2)
  show Calls _ _ #[.agg #[.int .i64 34, .string t, .string ⟨#[]⟩, .int .u64 0, .slice none 0 0], .agg #[.int .i64 34, .string t, .string ⟨#[]⟩, .int .u64 0, .slice none 0 0]] w _
  go_enter Tryz.func9, Tryz.ntmps9
  go_wp2_with fail
  go_loopg [44] 0 (fun gk i wr => i = .int .i64 0 ∧ wr = (w.alloc (.cells #[.int .i64 34, .string t, .string ⟨#[]⟩, .int .u64 0, .slice none 0 0] 26)).alloc (.cells #[.int .i64 34, .string t, .string ⟨#[]⟩, .int .u64 0, .slice none 0 0] 26))
  case atStart => exact ⟨rfl, rfl⟩
  case round =>
    obtain ⟨rfl, rfl⟩ := hrel
    go_wp2_with fail
    go_ret
    exact ⟨rfl, HB0.out _ _⟩

theorem tree_str (t : ByteArray) (w : World) : Calls Tryz.prog 5 #[.int .i64 34, .string t, .slice none 0 0] w fun e w' => e = .returned (leafV 34 t 0) ∧ Below w.heap.size w w' := by
  go_enter Tryz.func5, Tryz.ntmps5
  go_wp2_with fail
  refine bodyPost_ret (v := leafV 34 t 0) ?_ rfl ⟨rfl, ?_⟩
  · simp [results, Tryz.results5, go_sem]
  · first | exact (Below.refl _ _).alloc (Nat.le_refl _) _ | (repeat (refine Below.setCell ?_ (by simp) _)); exact (Below.refl _ _).alloc (Nat.le_refl _) _
end Go.Proofs.YteecbmhkfnlecaaGreatDoor
