/-
  plainFields at this seat's numbers: it answers, and where it says yes the node's texts and number are those that its kind has. No conditions beyond the tables of the decoder.
-/
import Derived.Test.YtongafghllkomaaGreatDoorOps
import Derived.Test.YtongafghllkomaaGreatDoorLex
import Derived.Test.YtongafghllkomaaGreatDoorValid

import Derived.WideShapes
namespace Go.Proofs.YtongafghllkomaaGreatDoor
open Go.RowKit
set_option linter.unusedVariables false

def StrsIn (ao : Option Addr) (l : List ByteArray) (w : World) : Prop := ∀ k s, l[k]? = some s → ∃ a, ao = some a ∧ w.cell? (a.add k) = some (.string s)

theorem StrsIn.below {ao : Option Addr} {l : List ByteArray} {w w' : World} (h : StrsIn ao l w) (hb : Below w.heap.size w w') : StrsIn ao l w' := by
  intro k z hk
  obtain ⟨a, ha, hc⟩ := h k z hk
  exact ⟨a, ha, (hb.cell (World.block_lt_of_cell? _ _ hc)).trans hc⟩

theorem strsIn_new (w : World) (l : List ByteArray) (T : TypeId) (m : Nat × Nat) : StrsIn (some ⟨w.heap.size, 0, none⟩) l (w.alloc (.cells (l.map Value.string).toArray T m)) := by
  intro k z hk
  refine ⟨_, rfl, ?_⟩
  rw [add0, Lib.cell_of_heap (heap_alloc_new w _)]
  simp [hk]

def memB (s : ByteArray) (l : List ByteArray) : Bool := l.any (fun k => k.toList == s.toList)
theorem str_eq {s t : ByteArray} (h : (s.toList == t.toList) = true) : s = t := by
  have : s.toList = t.toList := by simpa using h
  rw [ByteArray.toList_eq, ByteArray.toList_eq] at this
  exact WideShapes.bytes_inj this
theorem memB_mem {s : ByteArray} {l : List ByteArray} (h : memB s l = true) : s ∈ l := by
  unfold memB at h
  rw [List.any_eq_true] at h
  obtain ⟨x, hx, e⟩ := h
  rw [← str_eq e]; exact hx

theorem intsIn_at {g : Nat} {w : World} (zs : List Int) (T : TypeId) (m : Nat × Nat) (hg : g = w.heap.size) : IntsIn (some ⟨g, 0, none⟩) zs (w.alloc (.cells (zs.map (Value.int .i64)).toArray T m)) := by
  subst hg; exact intsIn_new w zs T m

theorem hasText_any (ao : Option Addr) (l : List ByteArray) (m cap : Nat) (s : ByteArray) (w : World) (hm : l.length = m) (hM : m ≤ 2147483647) (HL : StrsIn ao l w) :
    Calls Tryz.prog 138 #[.slice ao m cap, .string s] w fun e w' => e = .returned (.bool (memB s l)) ∧ w = w' := by
  have HL := Lib.hid HL
  have HN := Lib.hid hm
  clear hm
  go_enter Tryz.func138, Tryz.ntmps138
  go_wp2_with fail
  go_loopg [9] m (fun gk i wr => wr = w ∧ ∃ k : Nat, k ≤ m ∧ gk = m - k ∧ i = .int .i64 (k : Int) ∧ Hid (∀ j y, j < k → l[j]? = some y → (y.toList == s.toList) = false))
  case atStart => exact ⟨rfl, 0, by omega, by omega, rfl, Lib.hid (fun j y h => by omega)⟩
  case round =>
    obtain ⟨rfl, k, hk, rfl, rfl, hall⟩ := hrel
    by_cases hkm : k < m
    · have hkz : (k : Int) < (m : Int) := by omega
      have hlen := HN.out
      obtain ⟨y, hy⟩ : ∃ y, l[k]? = some y := ⟨l[k]'(by omega), List.getElem?_eq_getElem _⟩
      obtain ⟨a, rfl, hc⟩ := HL.out k y hy
      have HY := Lib.hid hy
      clear hy hlen
      cases h1 : (y.toList == s.toList)
      · have H1 := Lib.hid h1
        go_wp2_with fail
        go_roundg (m - (k + 1))
        case measure => omega
        case rel =>
          refine ⟨rfl, k + 1, by omega, rfl, by push_cast; rfl, Lib.hid ?_⟩
          intro j z hj hz
          by_cases hjk : j < k
          · exact hall.out j z hjk hz
          · obtain rfl : j = k := by omega
            rw [HY.out] at hz; cases hz; exact H1.out
      · have H1 := Lib.hid h1
        go_wp2_with fail
        go_ret
        refine ⟨ret_bool (Eq.symm ?_), rfl⟩
        unfold memB
        rw [List.any_eq_true]
        exact ⟨y, List.mem_of_getElem? HY.out, H1.out⟩
    · have hkz : ¬ (k : Int) < (m : Int) := by omega
      obtain rfl : k = m := by omega
      go_wp2_with fail
      go_ret
      refine ⟨ret_bool (Eq.symm ?_), rfl⟩
      unfold memB
      rw [List.any_eq_false]
      intro x hx
      obtain ⟨i, hi, e⟩ := List.mem_iff_getElem.1 hx
      simpa using hall.out i x (by have := HN.out; omega) (by rw [List.getElem?_eq_getElem hi, e])

theorem row_strs {b : Nat} {l : List ByteArray} {w : World} (h : ∀ i, i < l.length → w.cell? ⟨b, i, none⟩ = some (.string (l.getD i ⟨#[]⟩))) : StrsIn (some ⟨b, 0, none⟩) l w := by
  intro k s hk
  have hl := (List.getElem?_eq_some_iff.1 hk).1
  refine ⟨_, rfl, ?_⟩
  rw [add0, h k hl]
  simp [List.getD, hk]

theorem unaries_any (w : World) : Calls Tryz.prog 139 #[] w fun e w' => ∃ b, e = .returned (.slice (some ⟨b, 0, none⟩) 4 4) ∧ StrsIn (some ⟨b, 0, none⟩) unaryL w' ∧ Below w.heap.size w w' := by
  go_enter Tryz.func139, Tryz.ntmps139
  go_wp2
  go_ret
  refine ⟨w.heap.size, rfl, row_strs fun i hi => ?_, (Below.refl _ _).alloc (Nat.le_refl _) _⟩
  match i, hi with
  | 0, _ => simp [go_sem]; rfl
  | 1, _ => simp [go_sem]; rfl
  | 2, _ => simp [go_sem]; rfl
  | 3, _ => simp [go_sem]; rfl
  | i + 4, h => exact absurd h (by simp [unaryL])

set_option maxHeartbeats 1000000 in
set_option maxRecDepth 100000 in
theorem units_any (w : World) : Calls Tryz.prog 140 #[] w fun e w' => ∃ b, e = .returned (.slice (some ⟨b, 0, none⟩) 10 10) ∧ StrsIn (some ⟨b, 0, none⟩) unitsL w' ∧ Below w.heap.size w w' := by
  go_enter Tryz.func140, Tryz.ntmps140
  go_wp2
  go_ret
  refine ⟨w.heap.size, rfl, row_strs fun i hi => ?_, (Below.refl _ _).alloc (Nat.le_refl _) _⟩
  match i, hi with
  | 0, _ => simp [go_sem]; rfl
  | 1, _ => simp [go_sem]; rfl
  | 2, _ => simp [go_sem]; rfl
  | 3, _ => simp [go_sem]; rfl
  | 4, _ => simp [go_sem]; rfl
  | 5, _ => simp [go_sem]; rfl
  | 6, _ => simp [go_sem]; rfl
  | 7, _ => simp [go_sem]; rfl
  | 8, _ => simp [go_sem]; rfl
  | 9, _ => simp [go_sem]; rfl
  | i + 10, h => exact absurd h (by simp [unitsL])

theorem empty_of {s : ByteArray} (h : s.toList = []) : s = empties := by
  rw [ByteArray.toList_eq] at h
  exact WideShapes.bytes_inj h

/-- A Bool of which it is known what it says where it is true. -/
def SomeB (P : Prop) (w : World) (e : Ending) (w' : World) : Prop := ∃ b : Bool, e = .returned (.bool b) ∧ (b = true → P) ∧ Below w.heap.size w w'

end Go.Proofs.YtongafghllkomaaGreatDoor
