/-
  What a table's bytes tell the reader: the base, the location, a text. No conditions.
-/
import Derived.Test.YtcbcdgifakcooaaGreatDoorRefs
import Derived.Test.YtcbcdgifakcooaaGreatDoorNodeBuf
namespace Go.Proofs.YtcbcdgifakcooaaGreatDoor
open Go.RowKit
set_option linter.unusedVariables false
set_option linter.unusedSimpArgs false

theorem leNat_append : ∀ (a b : By), Lib.leNat (a ++ b) = Lib.leNat a + 256 ^ a.length * Lib.leNat b
  | [], b => by simp [Lib.leNat]
  | x :: a, b => by
    rw [List.cons_append, Lib.leNat, Lib.leNat, leNat_append a b, List.length_cons, Nat.pow_succ]
    rw [Nat.mul_add, Nat.add_assoc, Nat.mul_comm (256 ^ a.length) 256, Nat.mul_assoc]

theorem leAt_split {B : By} {p : Nat} (h : p + 8 ≤ B.length) : leAt B p 8 = leAt B p 4 + 4294967296 * leAt B (p + 4) 4 := by
  unfold leAt
  have e : (B.drop p).take 8 = (B.drop p).take 4 ++ (B.drop (p + 4)).take 4 := by
    rw [show (8 : Nat) = 4 + 4 from rfl, List.take_add, List.drop_drop]
  rw [e, leNat_append]
  have hl : ((B.drop p).take 4).length = 4 := by rw [List.length_take, List.length_drop]; omega
  rw [hl]

def LocR (B : By) (p : Nat) : Prop := LocAt B p
def locSl : List Sl := [⟨1, 8, 0, none, fun _ _ => True, 0⟩, ⟨2, 8, 0, none, fun _ _ => True, 0⟩]

theorem loc_pl : plOf (patOf locSl) = [0, 8, 16] := by decide
theorem loc_sz : szOf (patOf locSl) = 24 := by decide

theorem zero_of {B : By} {p : Nat} (h : p + 8 ≤ B.length) (hz : leAt B p 8 = 0) : ZeroAt B p := by
  have := leAt_split h
  exact ⟨h, by omega, by omega⟩

theorem loc_of {B : By} {p : Nat} (h : TabOf B p locSl) : LocAt B p := by
  have ht := h.tab
  rw [loc_pl] at ht
  have hl := h.len
  rw [loc_sz] at hl
  have h1 := h.num 0 _ rfl rfl
  have h2 := h.num 1 _ rfl rfl
  have e1 : plAt (patOf locSl) 1 = 8 := by decide
  have e2 : plAt (patOf locSl) 2 = 16 := by decide
  simp only [e1, e2] at h1 h2
  exact ⟨ht, zero_of (by omega) (by rw [Nat.add_comm]; exact h1), zero_of (by omega) (by rw [Nat.add_comm]; exact h2)⟩

def BaseR (B : By) (p : Nat) : Prop := ∃ d, BaseAt B p d

/-- A table with the one slot of a base. -/
theorem base_of {B : By} {p : Nat} {c : Nat × Array Value} {bd : Nat} (h : TabOf B p [⟨0, 4, 0, some c, LocAt, bd⟩]) : BaseR B p := by
  have epl : plOf (patOf [⟨0, 4, 0, some c, LocAt, bd⟩]) = [4] := show plOf [(0, 4)] = [4] from by decide
  have esz : szOf (patOf [⟨0, 4, 0, some c, LocAt, bd⟩]) = 8 := show szOf [(0, 4)] = 8 from by decide
  have e1 : plAt (patOf [⟨0, 4, 0, some c, LocAt, bd⟩]) 0 = 4 := show plAt [(0, 4)] 0 = 4 from by decide
  have ht := h.tab
  rw [epl] at ht
  have hl := h.len
  rw [esz] at hl
  obtain ⟨q, a, b, c1, d⟩ := h.ref 0 _ rfl (by simp)
  simp only [e1, esz] at a b d
  have hq : q - (p + 4) + (4 + p) = q := by omega
  refine ⟨q - (p + 4), ht, by omega, by rw [Nat.add_comm]; exact a, by omega, ?_⟩
  rw [show 4 + p + (q - (p + 4)) = q from by omega]
  exact d

/-- The base of a node's table, where the slots hold one. -/
theorem baseOf_some {B : By} {p : Nat} {sl : List Sl} (h : TabOf B p sl) {i : Nat} {s : Sl} (hs : sl[i]? = some s) (h0 : s.idx = 0) (hr : s.ref ≠ none) (hR : s.R = BaseR) (hok : okPat (patOf sl) = true) (hw : s.wid = 4) : BaseOf B p (plOf (patOf sl)) := by
  obtain ⟨q, a, b, c, d⟩ := h.ref i s hs hr
  have hl := h.len
  obtain ⟨_, h4, hz⟩ := okPat_at hok hs
  have hsm := okPat_small hok
  rw [hR] at d
  obtain ⟨d', hb⟩ := d
  rw [h0] at a h4 hz
  refine .some (plAt (patOf sl) 0) (q - (p + plAt (patOf sl) 0)) d' rfl (by omega) (by omega) (by omega) ?_ (by omega) ?_
  · rw [Nat.add_comm]; exact a
  · rw [show plAt (patOf sl) 0 + p + (q - (p + plAt (patOf sl) 0)) = q from by omega]
    exact hb

/-- A slot that refers to a text. -/
theorem text_of {B : By} {p : Nat} {sl : List Sl} (h : TabOf B p sl) {i : Nat} {s : Sl} {t : ByteArray} (hs : sl[i]? = some s) (hr : s.ref ≠ none) (hR : s.R = TextAt t) (hok : okPat (patOf sl) = true) (hw : s.wid = 4) {y : Nat} (hy : y = plAt (patOf sl) s.idx) :
    y ≠ 0 ∧ y < 65536 ∧ y + p + 4 ≤ B.length ∧ ∃ yd, leAt B (y + p) 4 = yd ∧ y + p + yd + 4 + t.size < B.length ∧ leAt B (y + p + yd) 4 = t.size ∧ ∀ j (hj : j < t.size), B[y + p + yd + 4 + j]? = some (t[j]'hj) := by
  subst hy
  obtain ⟨q, a, b, c, d⟩ := h.ref i s hs hr
  have hl := h.len
  obtain ⟨_, h4, hz⟩ := okPat_at hok hs
  have hsm := okPat_small hok
  rw [hR] at d
  have e : plAt (patOf sl) s.idx + p + (q - (p + plAt (patOf sl) s.idx)) = q := by omega
  refine ⟨by omega, by omega, by omega, q - (p + plAt (patOf sl) s.idx), by rw [Nat.add_comm (plAt _ _)]; exact a, ?_, ?_, ?_⟩
  · rw [e]; have := d.l; omega
  · rw [e]; exact d.n
  · rw [e]; exact d.b

/-- A slot that refers to a table. -/
theorem node_of {B : By} {p : Nat} {sl : List Sl} (h : TabOf B p sl) {i : Nat} {s : Sl} (hs : sl[i]? = some s) (hr : s.ref ≠ none) (hok : okPat (patOf sl) = true) (hw : s.wid = 4) {y : Nat} (hy : y = plAt (patOf sl) s.idx) :
    y ≠ 0 ∧ y < 65536 ∧ y + p + 4 ≤ B.length ∧ ∃ yd, leAt B (y + p) 4 = yd ∧ y + p + yd < B.length ∧ s.R B (y + p + yd) := by
  subst hy
  obtain ⟨q, a, b, c, d⟩ := h.ref i s hs hr
  have hl := h.len
  obtain ⟨_, h4, hz⟩ := okPat_at hok hs
  have hsm := okPat_small hok
  have e : plAt (patOf sl) s.idx + p + (q - (p + plAt (patOf sl) s.idx)) = q := by omega
  refine ⟨by omega, by omega, by omega, q - (p + plAt (patOf sl) s.idx), by rw [Nat.add_comm (plAt _ _)]; exact a, ?_, ?_⟩
  · rw [e]; exact c
  · rw [e]; exact d

/-- A slot with a number. -/
theorem num_of {B : By} {p : Nat} {sl : List Sl} (h : TabOf B p sl) {i : Nat} {s : Sl} (hs : sl[i]? = some s) (hr : s.ref = none) (hok : okPat (patOf sl) = true) {y : Nat} (hy : y = plAt (patOf sl) s.idx) :
    y ≠ 0 ∧ y < 65536 ∧ y + p + s.wid ≤ B.length ∧ leAt B (y + p) s.wid = s.u := by
  subst hy
  have hn := h.num i s hs hr
  have hl := h.len
  obtain ⟨_, h4, hz⟩ := okPat_at hok hs
  have hsm := okPat_small hok
  exact ⟨by omega, by omega, by omega, by rw [Nat.add_comm (plAt _ _)]; exact hn⟩

end Go.Proofs.YtcbcdgifakcooaaGreatDoor
