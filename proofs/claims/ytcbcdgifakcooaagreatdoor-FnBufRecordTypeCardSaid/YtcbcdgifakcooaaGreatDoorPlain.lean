/-
  The lexer's small parts at this seat's numbers: letter, digit; keyword and Name (that they answer).
  utf8.ValidString at this seat's numbers, by the library's contract.
  plainFields at this seat's numbers: it answers, and where it says yes the node's texts and number are those that its kind has. No conditions beyond the tables of the decoder.
-/
import Derived.Test.YtcbcdgifakcooaaGreatDoorMap
import Derived.Test.YtcbcdgifakcooaaGreatDoorShelf
import Derived.WalkKit
import Derived.Lib.Hide
import Derived.Deep.LoopGhost
import Derived.Shelf.Unicode.ValidAny
import Derived.Test.YtcbcdgifakcooaaGreatDoorProg
import Derived.Test.YtcbcdgifakcooaaGreatDoorOps
import Derived.WideShapes
namespace Go.Proofs.YtcbcdgifakcooaaGreatDoor
open Go.RowKit
set_option linter.unusedVariables false

/-- The tables of the library's decoder hold on while nothing old is written. -/
theorem tabs_below {w w' : World} (hT : Lib.Utf8Tabs 1 2 w) (hb : Below w.heap.size w w') : Lib.Utf8Tabs 1 2 w' := by
  have l0 : 1 < w.heap.size := by
    have := hT.1 0 (by omega)
    exact block_lt_of_cell this
  have l1 : 2 < w.heap.size := by
    have := (hT.2 0 (by omega)).1
    exact block_lt_of_cell this
  refine ⟨fun c hc => ?_, fun i hi => ⟨?_, ?_⟩⟩
  · rw [hb.cell (p := ⟨1, c, none⟩) l0]; exact hT.1 c hc
  · rw [hb.cell (p := ⟨2, 2 * i, none⟩) l1]; exact (hT.2 i hi).1
  · rw [hb.cell (p := ⟨2, 2 * i + 1, none⟩) l1]; exact (hT.2 i hi).2

/-- A letter, as the language has them. -/
def isL (r : Nat) : Bool := r == 95 || (decide (97 ≤ r) && decide (r ≤ 122)) || (decide (65 ≤ r) && decide (r ≤ 90)) || (decide (128 ≤ r) && !(r == 65533))

theorem isL_iff (r : Nat) : isL r = true ↔ (r = 95 ∨ (97 ≤ r ∧ r ≤ 122) ∨ (65 ≤ r ∧ r ≤ 90) ∨ (128 ≤ r ∧ r ≠ 65533)) := by
  simp [isL, or_assoc]

/-- How long a letter is that stands at a place. -/
def letterN (s : ByteArray) (i : Nat) : Nat := if i < s.size then (if isL (Lib.decodeGo (s.extract i s.size)).1 then (Lib.decodeGo (s.extract i s.size)).2 else 0) else 0

theorem letter_any (s : ByteArray) (b o i : Nat) (w : World) (hs : s.size ≤ 2147483647) (hT : Lib.Utf8Tabs 1 2 w) (hc : w.cell? ⟨b, o, none⟩ = some (.string s)) (hi : i ≤ s.size) :
    Calls Tryz.prog 188 #[.pointer (some ⟨b, o, none⟩), .int .i64 i] w fun e w' => e = .returned (.int .i64 (letterN s i)) ∧ Below w.heap.size w w' := by
  by_cases h : i < s.size
  · have H := Lib.hid hT
    clear hT
    have hd : letterN s i = if isL (Lib.decodeGo (s.extract i s.size)).1 then (Lib.decodeGo (s.extract i s.size)).2 else 0 := by simp [letterN, h]
    have HD := Lib.hid hd
    clear hd
    go_enter Tryz.func188, Tryz.ntmps188
    go_wp2_with fail
    refine (Tryz.utf8_DecodeRuneInString _ _ H.out).mono ?_
    rintro e w1 ⟨rfl, hb1⟩
    generalize (Lib.decodeGo (s.extract i s.size)).1 = r at *
    generalize (Lib.decodeGo (s.extract i s.size)).2 = n at *
    clear H hc
    go_wp2_with fail
    all_goals
      (try simp only [beq_iff_eq, bne_iff_ne, ne_eq, beq_eq_false_iff_ne, bne_eq_false_iff_eq] at *)
      go_ret
      refine ⟨?_, hb1⟩
      rw [HD.out]
      first
        | (have e : isL r = true := by (rw [isL_iff]; omega)
           rw [if_pos e]; rfl)
        | (have e : ¬ isL r = true := by (rw [isL_iff]; omega)
           rw [if_neg e]; rfl)
        | (exfalso; omega)
  · go_enter Tryz.func188, Tryz.ntmps188
    go_wp2_with fail
    go_ret
    exact ⟨by simp [letterN, h], Below.refl _ _⟩

/-- A digit stands at a place. -/
def digitB (s : ByteArray) (i : Nat) : Bool := if h : i < s.size then decide (48 ≤ (s[i]'h).toNat) && decide ((s[i]'h).toNat ≤ 57) else false

theorem digit_any (s : ByteArray) (b o i : Nat) (w : World) (hs : s.size ≤ 2147483647) (hc : w.cell? ⟨b, o, none⟩ = some (.string s)) (hi : i ≤ 2147483647) :
    Calls Tryz.prog 189 #[.pointer (some ⟨b, o, none⟩), .int .i64 i] w fun e w' => e = .returned (.bool (digitB s i)) ∧ w = w' := by
  by_cases h : i < s.size
  · have hd : digitB s i = (decide (48 ≤ (s[i]'h).toNat) && decide ((s[i]'h).toNat ≤ 57)) := by simp [digitB, h]
    have HD := Lib.hid hd
    clear hd
    go_enter Tryz.func189, Tryz.ntmps189
    go_wp2_with fail
    all_goals
      go_ret
      refine ⟨?_, rfl⟩
      rw [HD.out]
      first
        | (have e : 48 ≤ (s[i]'h).toNat := by omega
           have e2 : ((((s[i]'h).toNat : Int) ≤ 57) = ((s[i]'h).toNat ≤ 57)) := by apply propext; omega
           simp [e, e2])
        | (have e : ¬ 48 ≤ (s[i]'h).toNat := by omega
           simp [e])
  · have hd : digitB s i = false := by simp [digitB, h]
    have HD := Lib.hid hd
    clear hd
    go_enter Tryz.func189, Tryz.ntmps189
    go_wp2_with fail
    go_ret
    exact ⟨by rw [HD.out]; rfl, rfl⟩

theorem keyword_some (s : ByteArray) (w : World) : Calls Tryz.prog 190 #[.string s] w fun e w' => ∃ b : Bool, e = .returned (.bool b) ∧ w = w' := by
  go_enter Tryz.func190, Tryz.ntmps190
  go_wp2_with fail
  all_goals
    go_ret
    exact ⟨_, rfl, rfl⟩

theorem decodeGo_le (s : ByteArray) : (Lib.decodeGo s).2 ≤ s.size := by
  unfold Lib.decodeGo
  split
  · simp
  · rename_i h
    unfold Utf8.decode
    simp only [Bool.and_eq_true, decide_eq_true_eq, Nat.zero_add]
    repeat' split
    all_goals (simp only []; omega)

theorem letterN_le (s : ByteArray) (i : Nat) (hi : i ≤ s.size) : i + letterN s i ≤ s.size := by
  unfold letterN
  split
  · split
    · have := decodeGo_le (s.extract i s.size)
      have e : (s.extract i s.size).size = s.size - i := by simp
      omega
    · omega
  · omega

/-- What Name's loop keeps. -/
def NameRel (s : ByteArray) (w : World) (k : Nat) (wr : World) : Prop :=
  ∃ i : Nat, i ≤ s.size ∧ k = s.size - i ∧ wr.cell? ⟨w.heap.size, 0, none⟩ = some (.string s) ∧ wr.cell? ⟨w.heap.size, 1, none⟩ = some (.int .i64 i) ∧ wr.frozen? ⟨w.heap.size, 1, none⟩ = false ∧ w.heap.size < wr.heap.size ∧ Below w.heap.size w wr

theorem rel_step {s : ByteArray} {w wr w1 : World} {i n : Nat} (hn : 1 ≤ n) (hi : i + n ≤ s.size) (c0 : wr.cell? ⟨w.heap.size, 0, none⟩ = some (.string s)) (c1 : wr.cell? ⟨w.heap.size, 1, none⟩ = some (.int .i64 i))
    (f1 : wr.frozen? ⟨w.heap.size, 1, none⟩ = false) (hz : w.heap.size < wr.heap.size) (hb : Below w.heap.size w wr) (hb1 : Below wr.heap.size wr w1) :
    NameRel s w (s.size - (i + n)) (w1.setCell ⟨w.heap.size, 1, none⟩ (.int .i64 ((i : Int) + n))) := by
  obtain ⟨k0, f0⟩ := bblk hb1 (b := w.heap.size) hz
  have hz1 := hb1.size
  refine ⟨i + n, hi, rfl, by simp [go_sem, k0, c0], by simp [go_sem, k0, c1], by simp [go_sem, f0, f1], by simp [go_sem]; omega, (hb.trans (hb1.mono (by omega))).setCell (by simp) _⟩

set_option maxHeartbeats 800000 in
theorem name_some (s : ByteArray) (w : World) (hs : s.size ≤ 2147483647) (hT : Lib.Utf8Tabs 1 2 w) :
    Calls Tryz.prog 141 #[.string s] w fun e w' => ∃ b : Bool, e = .returned (.bool b) ∧ Below w.heap.size w w' := by
  have HT := Lib.hid hT
  clear hT
  go_enter Tryz.func141, Tryz.ntmps141
  go_wp2_with fail
  go_loopg [] s.size (fun k wr => NameRel s w k wr)
  case atStart =>
    exact ⟨0, Nat.zero_le _, rfl, by simp [go_sem], by simp [go_sem], by simp [go_sem], by simp, (Below.refl _ _).alloc (Nat.le_refl _) _⟩
  case round =>
    obtain ⟨i, hi, hk, c0, c1, f1, hz, hb⟩ := hrel
    have HK := Lib.hid hk
    clear hk
    by_cases hlt : i < s.size
    · have hle := letterN_le s i hi
      go_wp2_with fail
      refine (letter_any s _ _ i _ hs (tabs_below HT.out hb) c0 hi).mono ?_
      rintro e w1 ⟨rfl, hb1⟩
      generalize letterN s i = n at *
      obtain ⟨k0, f0⟩ := bblk hb1 (b := w.heap.size) hz
      have hz1 := hb1.size
      by_cases hn : n = 0
      · subst hn
        by_cases hi0 : i = 0
        · subst hi0
          go_wp2_with fail
          go_ret
          exact ⟨_, rfl, hb.trans (hb1.mono (by omega))⟩
        · have hi1 : ((i : Int) == 0) = false := by simp; omega
          have D1 : w1.cell? ⟨w.heap.size, 0, none⟩ = some (.string s) := by rw [k0]; exact c0
          cases hd : digitB s i
          · go_wp2_with fail
            refine (digit_any s _ _ i _ hs D1 (by omega)).mono ?_
            rintro e w2 ⟨rfl, rfl⟩
            go_wp2_with fail
            go_ret
            exact ⟨_, rfl, hb.trans (hb1.mono (by omega))⟩
          · go_wp2_with fail
            refine (digit_any s _ _ i _ hs D1 (by omega)).mono ?_
            rintro e w2 ⟨rfl, rfl⟩
            go_wp2_with fail
            go_roundg (s.size - (i + 1))
            case measure => rw [HK.out]; omega
            case rel => exact rel_step (n := 1) (by omega) (by omega) c0 c1 f1 hz hb hb1
      · have hn1 : ((n : Int) == 0) = false := by simp; omega
        have hm : max (n : Int) 1 = (n : Int) := by omega
        go_wp2_with fail
        go_roundg (s.size - (i + n))
        case measure => rw [HK.out]; omega
        case rel => exact rel_step (n := n) (by omega) (by omega) c0 c1 f1 hz hb hb1
    · go_wp2_with (go_at_call 190; refine (keyword_some _ _).mono ?_; rintro e w2 ⟨kb, rfl, rfl⟩)
      all_goals
        go_ret
        exact ⟨_, rfl, hb⟩
end Go.Proofs.YtcbcdgifakcooaaGreatDoor

namespace Go.Proofs
open Go.Shelf

def Tryz.lays196_ren : Go.Shelf.Ren := ⟨fun | 196 => 136 | 259 => 186 | n => n, fun | 0 => 0 | 3 => 3 | 4 => 4 | 5 => 5 | 9 => 9 | 12 => 12 | 46 => 380 | 53 => 22 | 119 => 390 | 138 => 392 | 139 => 393 | n => n, fun | 3 => 1 | 4 => 2 | n => n⟩
theorem Tryz.lays196 : Go.Proofs.Lays.n196 Tryz.prog Tryz.lays196_ren := {
  mixed := by kernel_rfl
  f196 := Tryz.func136.trans (congrArg some (by kernel_rfl))
  f259 := Tryz.func186.trans (congrArg some (by kernel_rfl))
  t0 := Tryz.underlying0
  a0 := Tryz.isAgg0
  z0 := Tryz.sizeOf0
  v0 := Tryz.zeroValue0
  t3 := Tryz.underlying3
  a3 := Tryz.isAgg3
  z3 := Tryz.sizeOf3
  v3 := Tryz.zeroValue3
  t4 := Tryz.underlying4
  a4 := Tryz.isAgg4
  z4 := Tryz.sizeOf4
  v4 := Tryz.zeroValue4
  t5 := Tryz.underlying5
  a5 := Tryz.isAgg5
  z5 := Tryz.sizeOf5
  v5 := Tryz.zeroValue5
  t9 := Tryz.underlying9
  a9 := Tryz.isAgg9
  z9 := Tryz.sizeOf9
  v9 := Tryz.zeroValue9
  t12 := Tryz.underlying12
  a12 := Tryz.isAgg12
  z12 := Tryz.sizeOf12
  v12 := Tryz.zeroValue12
  t46 := Tryz.underlying380
  a46 := Tryz.isAgg380
  z46 := Tryz.sizeOf380
  v46 := Tryz.zeroValue380
  t53 := Tryz.underlying22
  a53 := Tryz.isAgg22
  z53 := Tryz.sizeOf22
  v53 := Tryz.zeroValue22
  t119 := Tryz.underlying390
  a119 := Tryz.isAgg390
  z119 := Tryz.sizeOf390
  t138 := Tryz.underlying392
  a138 := Tryz.isAgg392
  z138 := Tryz.sizeOf392
  v138 := Tryz.zeroValue392
  t139 := Tryz.underlying393
  a139 := Tryz.isAgg393
  z139 := Tryz.sizeOf393
  v139 := Tryz.zeroValue393
  g3 := by kernel_rfl
  g4 := by kernel_rfl }
open Go.RowKit Go.Lib in
theorem Tryz.utf8_ValidString (s : ByteArray) (w : World) (hs : s.size ≤ 9223372036854775807) (hT : Lib.Utf8Tabs 1 2 w) :
    Calls Tryz.prog 136 #[.string s] w fun e w' => e = .returned (.bool (Lib.validD s.data.toList)) ∧ Below w.heap.size w w' := Any.utf8_ValidString Tryz.lays196 s w hs hT
end Go.Proofs

namespace Go.Proofs.YtcbcdgifakcooaaGreatDoor
open Go.RowKit
set_option linter.unusedVariables false

def StrsIn (ao : Option Addr) (l : List ByteArray) (w : World) : Prop := ∀ k s, l[k]? = some s → ∃ a, ao = some a ∧ w.cell? (a.add k) = some (.string s)

theorem StrsIn.below {ao : Option Addr} {l : List ByteArray} {w w' : World} (h : StrsIn ao l w) (hb : Below w.heap.size w w') : StrsIn ao l w' := by
  intro k z hk
  obtain ⟨a, ha, hc⟩ := h k z hk
  exact ⟨a, ha, (hb.cell (World.block_lt_of_cell? _ _ hc)).trans hc⟩

theorem strsIn_new (w : World) (l : List ByteArray) (T : TypeId) (m : Nat × Nat) : StrsIn (some ⟨w.heap.size, 0, none⟩) l (w.alloc (.cells (l.map Value.string).toArray T m)) := by
  intro k z hk
  refine ⟨_, rfl, ?_⟩
  rw [add0, Lib.cell_of_heap (heap_alloc_new w _)]
  simp [hk]

def memB (s : ByteArray) (l : List ByteArray) : Bool := l.any (fun k => k.toList == s.toList)
theorem str_eq {s t : ByteArray} (h : (s.toList == t.toList) = true) : s = t := by
  have : s.toList = t.toList := by simpa using h
  rw [ByteArray.toList_eq, ByteArray.toList_eq] at this
  exact WideShapes.bytes_inj this
theorem memB_mem {s : ByteArray} {l : List ByteArray} (h : memB s l = true) : s ∈ l := by
  unfold memB at h
  rw [List.any_eq_true] at h
  obtain ⟨x, hx, e⟩ := h
  rw [← str_eq e]; exact hx

theorem intsIn_at {g : Nat} {w : World} (zs : List Int) (T : TypeId) (m : Nat × Nat) (hg : g = w.heap.size) : IntsIn (some ⟨g, 0, none⟩) zs (w.alloc (.cells (zs.map (Value.int .i64)).toArray T m)) := by
  subst hg; exact intsIn_new w zs T m

theorem hasText_any (ao : Option Addr) (l : List ByteArray) (m cap : Nat) (s : ByteArray) (w : World) (hm : l.length = m) (hM : m ≤ 2147483647) (HL : StrsIn ao l w) :
    Calls Tryz.prog 138 #[.slice ao m cap, .string s] w fun e w' => e = .returned (.bool (memB s l)) ∧ w = w' := by
  have HL := Lib.hid HL
  have HN := Lib.hid hm
  clear hm
  go_enter Tryz.func138, Tryz.ntmps138
  go_wp2_with fail
  go_loopg [9] m (fun gk i wr => wr = w ∧ ∃ k : Nat, k ≤ m ∧ gk = m - k ∧ i = .int .i64 (k : Int) ∧ Hid (∀ j y, j < k → l[j]? = some y → (y.toList == s.toList) = false))
  case atStart => exact ⟨rfl, 0, by omega, by omega, rfl, Lib.hid (fun j y h => by omega)⟩
  case round =>
    obtain ⟨rfl, k, hk, rfl, rfl, hall⟩ := hrel
    by_cases hkm : k < m
    · have hkz : (k : Int) < (m : Int) := by omega
      have hlen := HN.out
      obtain ⟨y, hy⟩ : ∃ y, l[k]? = some y := ⟨l[k]'(by omega), List.getElem?_eq_getElem _⟩
      obtain ⟨a, rfl, hc⟩ := HL.out k y hy
      have HY := Lib.hid hy
      clear hy hlen
      cases h1 : (y.toList == s.toList)
      · have H1 := Lib.hid h1
        go_wp2_with fail
        go_roundg (m - (k + 1))
        case measure => omega
        case rel =>
          refine ⟨rfl, k + 1, by omega, rfl, by push_cast; rfl, Lib.hid ?_⟩
          intro j z hj hz
          by_cases hjk : j < k
          · exact hall.out j z hjk hz
          · obtain rfl : j = k := by omega
            rw [HY.out] at hz; cases hz; exact H1.out
      · have H1 := Lib.hid h1
        go_wp2_with fail
        go_ret
        refine ⟨ret_bool (Eq.symm ?_), rfl⟩
        unfold memB
        rw [List.any_eq_true]
        exact ⟨y, List.mem_of_getElem? HY.out, H1.out⟩
    · have hkz : ¬ (k : Int) < (m : Int) := by omega
      obtain rfl : k = m := by omega
      go_wp2_with fail
      go_ret
      refine ⟨ret_bool (Eq.symm ?_), rfl⟩
      unfold memB
      rw [List.any_eq_false]
      intro x hx
      obtain ⟨i, hi, e⟩ := List.mem_iff_getElem.1 hx
      simpa using hall.out i x (by have := HN.out; omega) (by rw [List.getElem?_eq_getElem hi, e])

theorem row_strs {b : Nat} {l : List ByteArray} {w : World} (h : ∀ i, i < l.length → w.cell? ⟨b, i, none⟩ = some (.string (l.getD i ⟨#[]⟩))) : StrsIn (some ⟨b, 0, none⟩) l w := by
  intro k s hk
  have hl := (List.getElem?_eq_some_iff.1 hk).1
  refine ⟨_, rfl, ?_⟩
  rw [add0, h k hl]
  simp [List.getD, hk]

theorem unaries_any (w : World) : Calls Tryz.prog 139 #[] w fun e w' => ∃ b, e = .returned (.slice (some ⟨b, 0, none⟩) 4 4) ∧ StrsIn (some ⟨b, 0, none⟩) unaryL w' ∧ Below w.heap.size w w' := by
  go_enter Tryz.func139, Tryz.ntmps139
  go_wp2
  go_ret
  refine ⟨w.heap.size, rfl, row_strs fun i hi => ?_, (Below.refl _ _).alloc (Nat.le_refl _) _⟩
  match i, hi with
  | 0, _ => simp [go_sem]; rfl
  | 1, _ => simp [go_sem]; rfl
  | 2, _ => simp [go_sem]; rfl
  | 3, _ => simp [go_sem]; rfl
  | i + 4, h => exact absurd h (by simp [unaryL])

set_option maxHeartbeats 1000000 in
set_option maxRecDepth 100000 in
theorem units_any (w : World) : Calls Tryz.prog 140 #[] w fun e w' => ∃ b, e = .returned (.slice (some ⟨b, 0, none⟩) 10 10) ∧ StrsIn (some ⟨b, 0, none⟩) unitsL w' ∧ Below w.heap.size w w' := by
  go_enter Tryz.func140, Tryz.ntmps140
  go_wp2
  go_ret
  refine ⟨w.heap.size, rfl, row_strs fun i hi => ?_, (Below.refl _ _).alloc (Nat.le_refl _) _⟩
  match i, hi with
  | 0, _ => simp [go_sem]; rfl
  | 1, _ => simp [go_sem]; rfl
  | 2, _ => simp [go_sem]; rfl
  | 3, _ => simp [go_sem]; rfl
  | 4, _ => simp [go_sem]; rfl
  | 5, _ => simp [go_sem]; rfl
  | 6, _ => simp [go_sem]; rfl
  | 7, _ => simp [go_sem]; rfl
  | 8, _ => simp [go_sem]; rfl
  | 9, _ => simp [go_sem]; rfl
  | i + 10, h => exact absurd h (by simp [unitsL])

theorem empty_of {s : ByteArray} (h : s.toList = []) : s = empties := by
  rw [ByteArray.toList_eq] at h
  exact WideShapes.bytes_inj h

/-- A Bool of which it is known what it says where it is true. -/
def SomeB (P : Prop) (w : World) (e : Ending) (w' : World) : Prop := ∃ b : Bool, e = .returned (.bool b) ∧ (b = true → P) ∧ Below w.heap.size w w'

end Go.Proofs.YtcbcdgifakcooaaGreatDoor
