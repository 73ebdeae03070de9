/-
  The lexer of Flux at bytes of ASCII: no letter, a digit or none, digits, no blank. No conditions.
-/
import Derived.Test.YteecbmhkfnlecaaGreatDoorRdB
import Derived.Test.YteecbmhkfnlecaaGreatDoorShelf
import Derived.Lib.Hide
import Derived.Deep.LoopGhost
import Derived.BigQuiet
namespace Go.Proofs.YteecbmhkfnlecaaGreatDoor
open Go.RowKit
set_option linter.unusedVariables false
set_option linter.unusedSimpArgs false

theorem bsize (s : ByteArray) : s.size = s.data.toList.length := by simp
theorem bdata (s : ByteArray) (a b : Nat) : (s.extract a b).data.toList = (s.data.toList.drop a).take (b - a) := by
  rw [ByteArray.data_extract, Array.toList_extract, List.extract_eq_take_drop]

/-- A byte of a text. -/
theorem byteIs {s : ByteArray} {i : Nat} {x : UInt8} (hx : s.data.toList[i]? = some x) : ∃ h : i < s.size, (s[i]'h).toNat = x.toNat := by
  obtain ⟨h', e⟩ := List.getElem?_eq_some_iff.1 hx
  have h : i < s.size := by rw [bsize]; exact h'
  refine ⟨h, ?_⟩
  show (s.data[i]'h).toNat = _
  rw [← e]
  simp

/-- The number of a byte that is no letter of ASCII. -/
def noL (c : Nat) : Prop := c < 128 ∧ c ≠ 95 ∧ (c < 97 ∨ 122 < c) ∧ (c < 65 ∨ 90 < c)

set_option maxRecDepth 100000 in
theorem letter_no (s : ByteArray) (b i : Nat) (x : UInt8) (w : World) (hs : s.size ≤ 2147483647) (hc : w.cell? ⟨b, 0, none⟩ = some (.string s)) (hx : s.data.toList[i]? = some x) (hn : noL x.toNat) :
    Calls Tryz.prog 68 #[.pointer (some ⟨b, 0, none⟩), .int .i64 i] w fun e w' => e = .returned (.int .i64 0) ∧ w' = w := by
  obtain ⟨hi, -⟩ := byteIs hx
  obtain ⟨n1, n2, n3, n4⟩ := hn
  have n5 : ((x.toNat : Int) == 95) = false := by simp; omega
  have h0 : (s.extract i s.size).data.toList[0]? = some x := by
    rw [bdata, List.getElem?_take, if_pos (by omega), List.getElem?_drop]
    exact hx
  have H := Lib.hid (Tryz.utf8_DecodeRuneInString_ascii (s.extract i s.size) x w h0 n1)
  generalize x.toNat = c at *
  clear h0 hx
  go_enter Tryz.func68, Tryz.ntmps68
  go_wp2_with fail
  refine H.out.mono ?_
  rintro e w1 ⟨rfl, rfl⟩
  by_cases a1 : c < 97
  · have a2 : ¬ (97 : Int) ≤ (c : Int) := by omega
    by_cases a3 : c < 65
    · have a4 : ¬ (65 : Int) ≤ (c : Int) := by omega
      have a5 : ¬ (128 : Int) ≤ (c : Int) := by omega
      go_wp2_with fail
      go_ret
      exact ⟨rfl, rfl⟩
    · have a4 : (65 : Int) ≤ (c : Int) := by omega
      have a6 : ¬ (c : Int) ≤ 90 := by omega
      have a5 : ¬ (128 : Int) ≤ (c : Int) := by omega
      go_wp2_with fail
      go_ret
      exact ⟨rfl, rfl⟩
  · have a2 : (97 : Int) ≤ (c : Int) := by omega
    have a3 : ¬ (c : Int) ≤ 122 := by omega
    have a4 : (65 : Int) ≤ (c : Int) := by omega
    have a6 : ¬ (c : Int) ≤ 90 := by omega
    have a5 : ¬ (128 : Int) ≤ (c : Int) := by omega
    go_wp2_with fail
    go_ret
    exact ⟨rfl, rfl⟩

/-- A digit stands at a place. -/
def dgB (s : ByteArray) (i : Nat) : Bool := if h : i < s.size then decide (48 ≤ (s[i]'h).toNat) && decide ((s[i]'h).toNat ≤ 57) else false

theorem dg_any (s : ByteArray) (b o i : Nat) (w : World) (hs : s.size ≤ 2147483647) (hc : w.cell? ⟨b, o, none⟩ = some (.string s)) (hi : i ≤ 2147483647) :
    Calls Tryz.prog 69 #[.pointer (some ⟨b, o, none⟩), .int .i64 i] w fun e w' => e = .returned (.bool (dgB s i)) ∧ w' = w := by
  by_cases h : i < s.size
  · have hd : dgB s i = (decide (48 ≤ (s[i]'h).toNat) && decide ((s[i]'h).toNat ≤ 57)) := by simp [dgB, h]
    have HD := Lib.hid hd
    clear hd
    go_enter Tryz.func69, Tryz.ntmps69
    go_wp2_with fail
    all_goals
      go_ret
      refine ⟨?_, rfl⟩
      rw [HD.out]
      first
        | (have e : 48 ≤ (s[i]'h).toNat := by omega
           have e2 : ((((s[i]'h).toNat : Int) ≤ 57) = ((s[i]'h).toNat ≤ 57)) := by apply propext; omega
           simp [e, e2])
        | (have e : ¬ 48 ≤ (s[i]'h).toNat := by omega
           simp [e])
  · have hd : dgB s i = false := by simp [dgB, h]
    have HD := Lib.hid hd
    clear hd
    go_enter Tryz.func69, Tryz.ntmps69
    go_wp2_with fail
    go_ret
    exact ⟨by rw [HD.out]; rfl, rfl⟩

theorem dgB_of {s : ByteArray} {i : Nat} {x : UInt8} (hx : s.data.toList[i]? = some x) : dgB s i = (decide (48 ≤ x.toNat) && decide (x.toNat ≤ 57)) := by
  obtain ⟨h, e⟩ := byteIs hx
  unfold dgB
  rw [dif_pos h, e]
theorem dgB_end {s : ByteArray} {i : Nat} (h : s.size ≤ i) : dgB s i = false := by
  unfold dgB
  rw [dif_neg (by omega)]

theorem NextW.refl {b i : Nat} {w : World} (h : w.cell? ⟨b, 1, none⟩ = some (.int .i64 i)) : NextW b i w w := ⟨But.refl b w, h, fun _ _ => rfl, fun _ => rfl⟩
theorem NextW.trans {b i j : Nat} {w w1 w2 : World} (h : NextW b i w w1) (g : NextW b j w1 w2) : NextW b j w w2 :=
  ⟨h.1.trans g.1, g.2.1, fun o ho => (g.2.2.1 o ho).trans (h.2.2.1 o ho), fun o => (g.2.2.2 o).trans (h.2.2.2 o)⟩
theorem NextW.set {b i j : Nat} {w w1 : World} (h : NextW b i w w1) (hb : b < w.heap.size) : NextW b j w (w1.setCell ⟨b, 1, none⟩ (.int .i64 j)) := by
  refine ⟨h.1.setCell (p := ⟨b, 1, none⟩) (Or.inl rfl) _, ?_, fun o ho => ?_, fun o => ?_⟩
  · have h1 := h.2.1
    simp [go_sem, h1]
  · have h1 := h.2.2.1 o ho
    rw [← h1]
    simp [go_sem, Ne.symm ho, ho]
  · have h1 := h.2.2.2 o
    rw [← h1]
    simp [go_sem]

set_option maxRecDepth 100000 in
theorem digits_any (s : ByteArray) (b i n : Nat) (w : World) (hs : s.size ≤ 2000000000) (hc : w.cell? ⟨b, 0, none⟩ = some (.string s)) (h1 : w.cell? ⟨b, 1, none⟩ = some (.int .i64 i)) (f : ∀ o, w.frozen? ⟨b, o, none⟩ = false)
    (hd : ∀ j, j < n → dgB s (i + j) = true) (he : dgB s (i + n) = false) (hin : i + n ≤ s.size) :
    Calls Tryz.prog 93 #[.pointer (some ⟨b, 0, none⟩)] w fun e w' => e = .returned (.int .i64 n) ∧ NextW b (i + n) w w' := by
  have hlt := block_lt_of_cell hc
  have HD := Lib.hid hd
  have HE := Lib.hid he
  have HC := Lib.hid hc
  have HF := Lib.hid f
  have H1 := Lib.hid h1
  clear hd he hc f h1
  go_enter Tryz.func93, Tryz.ntmps93
  go_wp2_with fail
  go_loopg [3] n (fun gk v wr => ∃ j : Nat, j ≤ n ∧ gk = n - j ∧ v = .int .i64 j ∧ Hid (NextW b (i + j) w wr))
  case atStart => exact ⟨0, by omega, by omega, rfl, Lib.hid (NextW.refl H1.out)⟩
  case round =>
    obtain ⟨j, hj, hgk, rfl, HN⟩ := hrel
    have HK := Lib.hid hgk
    clear hgk
    have q0 := (HN.out.2.2.1 0 (by decide)).trans HC.out
    have q1 := HN.out.2.1
    have qf : ∀ o, wr.frozen? ⟨b, o, none⟩ = false := fun o => (HN.out.2.2.2 o).trans (HF.out o)
    have hqs := HN.out.1.size
    by_cases hjn : j < n
    · have hd := HD.out j hjn
      go_wp2_with fail
      refine (dg_any s b 0 (i + j) wr (by omega) q0 (by omega)).mono ?_
      rintro e w1 ⟨rfl, rfl⟩
      rw [hd]
      go_wp2_with fail
      go_roundg (n - (j + 1))
      case measure => rw [HK.out]; omega
      case rel => exact ⟨j + 1, by omega, rfl, by push_cast; rfl, Lib.hid (by have h := HN.out.set (j := i + (j + 1)) hlt; push_cast at h ⊢; rw [← Int.add_assoc] at h; exact h)⟩
    · obtain rfl : j = n := by omega
      have he := HE.out
      go_wp2_with fail
      refine (dg_any s b 0 (i + j) wr (by omega) q0 (by omega)).mono ?_
      rintro e w1 ⟨rfl, rfl⟩
      rw [he]
      go_wp2_with fail
      go_ret
      exact ⟨rfl, HN.out⟩
end Go.Proofs.YteecbmhkfnlecaaGreatDoor
