/-
  The lexer of Flux: blanks where there are none, and its end. No conditions.
-/
import Derived.Test.YteecbmhkfnlecaaGreatDoorRdC
import Derived.Lib.Hide
import Derived.Deep.LoopGhost
import Derived.BigQuiet
import Derived.Lib.QuietBelow
import Derived.WideShapes
namespace Go.Proofs.YteecbmhkfnlecaaGreatDoor
open Go.RowKit
set_option linter.unusedVariables false
set_option linter.unusedSimpArgs false

theorem below_drew {B : Nat} {a w : World} (h : Below B a w) : ∀ n, Below B a (w.drewN n)
  | 0 => h
  | n + 1 => (below_drew h n).drew

set_option maxRecDepth 100000 in
theorem blank_end (s : ByteArray) (b i : Nat) (w : World) (hs : s.size ≤ 2000000000) (hc : w.cell? ⟨b, 0, none⟩ = some (.string s)) (h1 : w.cell? ⟨b, 1, none⟩ = some (.int .i64 i)) (hi : s.size ≤ i) :
    Calls Tryz.prog 74 #[.pointer (some ⟨b, 0, none⟩)] w fun e w' => e = .returned (.tuple #[]) ∧ Below w.heap.size w w' := by
  have hz : ¬ (i : Int) < (s.size : Int) := by omega
  go_enter Tryz.func74, Tryz.ntmps74
  go_wp2_with fail
  go_loopg [] 1 (fun _ wr => wr = w)
  case atStart => rfl
  case round =>
    subst hrel
    go_wp2_with fail
    go_quiet (fail)
    go_wp2_with fail
    go_end0
    exact ⟨rfl, below_drew (Below.refl _ _) _⟩

theorem str_of {s t : ByteArray} (h : s.toList = t.toList) : s = t := by
  have := h
  rw [ByteArray.toList_eq, ByteArray.toList_eq] at this
  exact WideShapes.bytes_inj this

/-- A byte that is no blank and no slash. -/
def noB (c : Nat) : Prop := c ≠ 32 ∧ c ≠ 10 ∧ c ≠ 13 ∧ c ≠ 9 ∧ c ≠ 47

set_option maxRecDepth 100000 in
theorem blank_no (s : ByteArray) (b i : Nat) (x : UInt8) (w : World) (hs : s.size ≤ 2000000000) (hc : w.cell? ⟨b, 0, none⟩ = some (.string s)) (h1 : w.cell? ⟨b, 1, none⟩ = some (.int .i64 i)) (hx : s.data.toList[i]? = some x) (hn : noB x.toNat) :
    Calls Tryz.prog 74 #[.pointer (some ⟨b, 0, none⟩)] w fun e w' => e = .returned (.tuple #[]) ∧ Below w.heap.size w w' := by
  obtain ⟨hi, hxb⟩ := byteIs hx
  obtain ⟨n1, n2, n3, n4, n5⟩ := hn
  have m1 : ((x.toNat : Int) == 32) = false := by simp; omega
  have m2 : ((x.toNat : Int) == 10) = false := by simp; omega
  have m3 : ((x.toNat : Int) == 13) = false := by simp; omega
  have m4 : ((x.toNat : Int) == 9) = false := by simp; omega
  have hz : (i : Int) < (s.size : Int) := by omega
  have hps : i + 1 < s.size → ((s.extract i (i + 2)).toList == [47, 47]) = false := by
    intro h
    rw [beq_eq_false_iff_ne]
    intro e
    have e2 : s.extract i (i + 2) = ⟨#[47, 47]⟩ := by
      exact str_of (e.trans (by simp))
    have e3 : (s.extract i (i + 2)).data.toList[0]? = some x := by
      rw [bdata, List.getElem?_take, if_pos (by omega), List.getElem?_drop]
      exact hx
    rw [e2] at e3
    simp at e3
    subst e3
    exact n5 rfl
  have hsl : i + 1 < s.size → ∀ W, (Instr.slice 9 (.string s) (some (.int .i64 i)) (some (.int .i64 ((i : Int) + 2))) none).run Tryz.prog W = .ok (.string (s.extract i (i + 2))) W := by
    intro h W
    have h1 := run_slice_string (P := Tryz.prog) W 9 s .i64 .i64 (i : Int) ((i : Int) + 2) Tryz.underlying9 (by omega) (by omega) (by omega)
    rw [h1]
    rw [show (i : Int).toNat = i by omega, show ((i : Int) + 2).toNat = i + 2 by omega]
  generalize x.toNat = c at *
  clear n1 n2 n3 n4 n5
  go_enter Tryz.func74, Tryz.ntmps74
  go_wp2_with fail
  go_loopg [] 1 (fun _ wr => wr = w)
  case atStart => rfl
  case round =>
    subst hrel
    go_wp2_with fail
    go_quiet (fail)
    go_wp2_with fail
    go_quiet (fail)
    go_wp2_with fail
    by_cases h2 : i + 1 < s.size
    · have h2z : (i : Int) + 1 < (s.size : Int) := by omega
      have hcm := hps h2
      have hsl := hsl h2
      clear hps
      go_quiet (fail)
      go_wp2_with fail
      refine bodyPost_ret (v := .tuple #[]) ?_ rfl ⟨rfl, by first | exact below_drew (Below.refl _ _) _ | exact below_drew (below_drew (Below.refl _ _) _) _ | exact below_drew (below_drew (below_drew (Below.refl _ _) _) _) _⟩
      simp [results, Tryz.results74, go_sem]
    · have h2z : ¬ (i : Int) + 1 < (s.size : Int) := by omega
      go_quiet (fail)
      go_wp2_with fail
      refine bodyPost_ret (v := .tuple #[]) ?_ rfl ⟨rfl, by first | exact below_drew (Below.refl _ _) _ | exact below_drew (below_drew (Below.refl _ _) _) _ | exact below_drew (below_drew (below_drew (Below.refl _ _) _) _) _⟩
      simp [results, Tryz.results74, go_sem]
end Go.Proofs.YteecbmhkfnlecaaGreatDoor
