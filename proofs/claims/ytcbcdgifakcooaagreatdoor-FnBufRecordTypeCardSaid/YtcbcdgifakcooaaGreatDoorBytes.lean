/-
  Bytes: numbers in them, the lowest byte first; how they are patched; which of them agree. Plain lists. No conditions.
-/
import Derived.Lib.Endian
import Derived.Lib.EndianMore
namespace Go.Proofs.YtcbcdgifakcooaaGreatDoor
open Go
set_option linter.unusedVariables false

abbrev By := List UInt8

/-- The number in so many bytes at a place. -/
def leAt (B : By) (p k : Nat) : Nat := Lib.leNat ((B.drop p).take k)

/-- B reads as C does from lo on, as far as C goes. -/
def Agree (lo : Nat) (C B : By) : Prop := ∀ i, lo ≤ i → i < C.length → B[i]? = C[i]?

theorem Agree.refl (lo : Nat) (C : By) : Agree lo C C := fun _ _ _ => rfl
theorem Agree.mono {lo lo' : Nat} {C B : By} (h : Agree lo C B) (hl : lo ≤ lo') : Agree lo' C B := fun i h1 h2 => h i (by omega) h2
theorem Agree.trans {lo : Nat} {C D B : By} (h : Agree lo C D) (g : Agree lo D B) (hl : C.length ≤ D.length) : Agree lo C B := fun i h1 h2 => (g i h1 (by omega)).trans (h i h1 h2)
theorem Agree.append (lo : Nat) (C X : By) : Agree lo C (C ++ X) := fun i _ h => List.getElem?_append_left h
theorem Agree.len {lo : Nat} {C B : By} (h : Agree lo C B) (hl : lo < C.length) : C.length ≤ B.length := by
  have h1 := h (C.length - 1) (by omega) (by omega)
  rw [List.getElem?_eq_getElem (by omega : C.length - 1 < C.length)] at h1
  have := (List.getElem?_eq_some_iff.1 h1).1
  omega

theorem slice_agree {lo p k : Nat} {C B : By} (h : Agree lo C B) (hl : lo ≤ p) (hk : p + k ≤ C.length) : (B.drop p).take k = (C.drop p).take k := by
  apply List.ext_getElem?
  intro i
  rw [List.getElem?_take, List.getElem?_take]
  split
  · rw [List.getElem?_drop, List.getElem?_drop]
    exact h (p + i) (by omega) (by omega)
  · rfl

theorem leAt_agree {lo p k : Nat} {C B : By} (h : Agree lo C B) (hl : lo ≤ p) (hk : p + k ≤ C.length) : leAt B p k = leAt C p k := by
  unfold leAt
  rw [slice_agree h hl hk]

/-- Some bytes are written over at a place. -/
def put (B : By) (p : Nat) (bs : By) : By := B.take p ++ bs ++ B.drop (p + bs.length)

theorem put_length {B : By} {p : Nat} {bs : By} (h : p + bs.length ≤ B.length) : (put B p bs).length = B.length := by
  unfold put
  simp
  omega

theorem put_at {B : By} {p : Nat} {bs : By} (h : p + bs.length ≤ B.length) (i : Nat) : (put B p bs)[i]? = if p ≤ i ∧ i < p + bs.length then bs[i - p]? else B[i]? := by
  unfold put
  by_cases h1 : i < p
  · rw [if_neg (by omega), List.append_assoc, List.getElem?_append_left (by simp; omega), List.getElem?_take_of_lt h1]
  · by_cases h2 : i < p + bs.length
    · rw [if_pos ⟨by omega, h2⟩, List.append_assoc, List.getElem?_append_right (by simp; omega), List.getElem?_append_left (by simp; omega)]
      simp
      congr 1
      omega
    · rw [if_neg (by omega), List.getElem?_append_right (by simp; omega), List.getElem?_drop]
      simp
      congr 1
      omega

theorem leAt_put_same {B : By} {p : Nat} {bs : By} (h : p + bs.length ≤ B.length) : leAt (put B p bs) p bs.length = Lib.leNat bs := by
  unfold leAt
  congr 1
  apply List.ext_getElem?
  intro i
  rw [List.getElem?_take]
  split
  · rw [List.getElem?_drop, put_at h, if_pos (by omega)]
    congr 1
    omega
  · rename_i h1
    rw [List.getElem?_eq_none (by omega)]

theorem leAt_put_other {B : By} {p q k : Nat} {bs : By} (h : p + bs.length ≤ B.length) (hd : q + k ≤ p ∨ p + bs.length ≤ q) : leAt (put B p bs) q k = leAt B q k := by
  unfold leAt
  congr 1
  apply List.ext_getElem?
  intro i
  rw [List.getElem?_take, List.getElem?_take]
  split
  · rw [List.getElem?_drop, List.getElem?_drop, put_at h, if_neg (by omega)]
  · rfl

theorem Agree.put {lo p : Nat} {C : By} {bs : By} (h : p + bs.length ≤ C.length) (hl : p + bs.length ≤ lo) : Agree lo C (put C p bs) := by
  intro i h1 h2
  rw [put_at h, if_neg (by omega)]

theorem leAt_bytes {B : By} {p k v : Nat} (h : (B.drop p).take k = Lib.leBytes k v) (hv : v < 256 ^ k) : leAt B p k = v := by
  unfold leAt
  rw [h, Lib.leNat_leBytes k v hv]

/-- What has just been written behind other bytes. -/
theorem leAt_new {O X : By} {k v : Nat} (hv : v < 256 ^ k) : leAt (O ++ Lib.leBytes k v ++ X) O.length k = v := by
  refine leAt_bytes ?_ hv
  rw [List.append_assoc, List.drop_left]
  have := Lib.leBytes_length k v
  rw [List.take_append_of_le_length (by omega), List.take_of_length_le (by omega)]

/-! The places of a table's fields. -/

/-- Up to a multiple. -/
def alignUp (s w : Nat) : Nat := (s + (w - 1)) / w * w

/-- A field of a width is laid, if it has this one. -/
def placeOne (w : Nat) (st : List Nat × Nat) (s : Nat × Nat) : List Nat × Nat := if s.2 = w then (st.1.set s.1 (alignUp st.2 w), alignUp st.2 w + w) else st
def most (pat : List (Nat × Nat)) : Nat := pat.foldl (fun m s => max m (s.1 + 1)) 0
/-- The places by the fields' numbers, and the table's size. -/
def placeAll (pat : List (Nat × Nat)) : List Nat × Nat := [8, 4, 2, 1].foldl (fun st w => pat.foldl (placeOne w) st) (List.replicate (most pat) 0, 4)
def plOf (pat : List (Nat × Nat)) : List Nat := (placeAll pat).1
def szOf (pat : List (Nat × Nat)) : Nat := (placeAll pat).2
def plAt (pat : List (Nat × Nat)) (i : Nat) : Nat := (plOf pat).getD i 0

/-- The fields lie in the table, none upon another. -/
def okPat (pat : List (Nat × Nat)) : Bool :=
  decide ((placeAll pat).2 < 65536) && decide ((placeAll pat).1.length < 1000) && pat.all (fun s => (s.2 == 8 || s.2 == 4 || s.2 == 2 || s.2 == 1) && decide (4 ≤ plAt pat s.1) && decide (plAt pat s.1 + s.2 ≤ szOf pat)) && (plOf pat).all (fun p => decide (p < 65536)) &&
  (List.range pat.length).all fun i => (List.range pat.length).all fun j => match pat[i]?, pat[j]? with
    | some a, some b => i == j || decide (plAt pat a.1 + a.2 ≤ plAt pat b.1) || decide (plAt pat b.1 + b.2 ≤ plAt pat a.1)
    | _, _ => true

/-- A table of such places stands at a place: its list of places ahead of it. -/
def TabAt (B : By) (p : Nat) (ps : List Nat) : Prop :=
  4 + 2 * ps.length ≤ p ∧ p + 4 ≤ B.length ∧ leAt B p 4 = 4 + 2 * ps.length ∧ leAt B (p - (4 + 2 * ps.length)) 2 = 4 + 2 * ps.length ∧ ∀ i x, ps[i]? = some x → leAt B (p - 2 * ps.length + 2 * i) 2 = x

theorem TabAt.agree {lo p : Nat} {ps : List Nat} {C B : By} (h : TabAt C p ps) (ha : Agree lo C B) (hl : lo + (4 + 2 * ps.length) ≤ p) : TabAt B p ps := by
  obtain ⟨h1, h2, h3, h4, h5⟩ := h
  have hlen := ha.len (by omega)
  refine ⟨h1, by omega, (leAt_agree ha (by omega) (by omega)).trans h3, (leAt_agree ha (by omega) (by omega)).trans h4, fun i x hx => ?_⟩
  have hi := (List.getElem?_eq_some_iff.1 hx).1
  exact (leAt_agree ha (by omega) (by omega)).trans (h5 i x hx)
end Go.Proofs.YtcbcdgifakcooaaGreatDoor
