/-
  How a table's fields are laid, in plain lists of bytes: the places, the numbers, what is referred to. No conditions.
-/
import Derived.Test.YtcbcdgifakcooaaGreatDoorMk
namespace Go.Proofs.YtcbcdgifakcooaaGreatDoor
open Go.RowKit
set_option linter.unusedVariables false
set_option linter.unusedSimpArgs false

/-- A slot: its field's number and width, its number, or the function that writes what it refers to, what that must then say of the bytes, and how many bytes that takes. -/
structure Sl where
  idx : Nat
  wid : Nat
  u : Nat
  ref : Option (Nat × Array Value)
  R : By → Nat → Prop
  bd : Nat

def Sl.fv (s : Sl) : Value := match s.ref with | none => .nilFunc | some (F, c) => .func (.func F) #[] c
def Sl.cells (s : Sl) : List Value := [.int .i64 (s.idx : Nat), .int .i64 (s.wid : Nat), .int .u64 (s.u : Nat), s.fv]
def patOf (sl : List Sl) : List (Nat × Nat) := sl.map fun s => (s.idx, s.wid)

/-- What a table's bytes tell of its slots. -/
structure TabOf (B : By) (p : Nat) (sl : List Sl) : Prop where
  tab : TabAt B p (plOf (patOf sl))
  len : p + szOf (patOf sl) ≤ B.length
  num : ∀ (i : Nat) (s : Sl), sl[i]? = some s → s.ref = none → leAt B (p + plAt (patOf sl) s.idx) s.wid = s.u
  ref : ∀ (i : Nat) (s : Sl), sl[i]? = some s → s.ref ≠ none → ∃ to, leAt B (p + plAt (patOf sl) s.idx) 4 = to - (p + plAt (patOf sl) s.idx) ∧ p + szOf (patOf sl) ≤ to ∧ to < B.length ∧ s.R B to

/-- The state of the bytes while a table is written: the first j slots' numbers are laid, and what the first k refer to. -/
structure Laid (O C : By) (p : Nat) (sl : List Sl) (j k : Nat) : Prop where
  pre : C.take O.length = O
  len : p + szOf (patOf sl) ≤ C.length
  lo : O.length + (4 + 2 * (plOf (patOf sl)).length) ≤ p
  tab : TabAt C p (plOf (patOf sl))
  num : ∀ (i : Nat) (s : Sl), i < j → sl[i]? = some s → s.ref = none → leAt C (p + plAt (patOf sl) s.idx) s.wid = s.u
  ref : ∀ (i : Nat) (s : Sl), i < k → sl[i]? = some s → s.ref ≠ none → ∃ to, leAt C (p + plAt (patOf sl) s.idx) 4 = to - (p + plAt (patOf sl) s.idx) ∧ p + szOf (patOf sl) ≤ to ∧ to < C.length ∧ ∀ B, Agree (p + szOf (patOf sl)) C B → s.R B to

/-- What okPat says of a slot. -/
theorem okPat_at {sl : List Sl} (h : okPat (patOf sl) = true) {i : Nat} {s : Sl} (hi : sl[i]? = some s) :
    (s.wid = 8 ∨ s.wid = 4 ∨ s.wid = 2 ∨ s.wid = 1) ∧ 4 ≤ plAt (patOf sl) s.idx ∧ plAt (patOf sl) s.idx + s.wid ≤ szOf (patOf sl) := by
  simp only [okPat, Bool.and_eq_true, decide_eq_true_eq, List.all_eq_true] at h
  have hm : (s.idx, s.wid) ∈ patOf sl := List.mem_map.2 ⟨s, List.mem_of_getElem? hi, rfl⟩
  have h1 := h.1.1.2 _ hm
  simp only [Bool.or_eq_true, beq_iff_eq, or_assoc] at h1
  exact ⟨h1.1.1, h1.1.2, h1.2⟩

theorem okPat_apart {sl : List Sl} (h : okPat (patOf sl) = true) {i j : Nat} {s t : Sl} (hi : sl[i]? = some s) (hj : sl[j]? = some t) (hij : i ≠ j) :
    plAt (patOf sl) s.idx + s.wid ≤ plAt (patOf sl) t.idx ∨ plAt (patOf sl) t.idx + t.wid ≤ plAt (patOf sl) s.idx := by
  simp only [okPat, Bool.and_eq_true, decide_eq_true_eq, List.all_eq_true] at h
  have li := (List.getElem?_eq_some_iff.1 hi).1
  have lj := (List.getElem?_eq_some_iff.1 hj).1
  have h1 := h.2 i (List.mem_range.2 (by simpa [patOf] using li)) j (List.mem_range.2 (by simpa [patOf] using lj))
  have e1 : (patOf sl)[i]? = some (s.idx, s.wid) := by simp [patOf, hi]
  have e2 : (patOf sl)[j]? = some (t.idx, t.wid) := by simp [patOf, hj]
  rw [e1, e2] at h1
  simp only [Bool.or_eq_true, beq_iff_eq, decide_eq_true_eq] at h1
  rcases h1 with (e | e) | e
  · exact absurd e hij
  · exact .inl e
  · exact .inr e

theorem okPat_small {sl : List Sl} (h : okPat (patOf sl) = true) : szOf (patOf sl) < 65536 ∧ (plOf (patOf sl)).length < 1000 ∧ ∀ x ∈ plOf (patOf sl), x < 65536 := by
  simp only [okPat, Bool.and_eq_true, decide_eq_true_eq, List.all_eq_true] at h
  exact ⟨h.1.1.1.1, h.1.1.1.2, h.1.2⟩

theorem put_take {C : By} {p : Nat} {bs : By} {n : Nat} (h : n ≤ p) (hl : p ≤ C.length) : (put C p bs).take n = C.take n := by
  unfold put
  rw [List.append_assoc, List.take_append_of_le_length (by simp; omega), List.take_take, Nat.min_eq_left h]

/-- A field's bytes are written: the table's list of places stays. -/
theorem TabAt.put {C : By} {p q : Nat} {ps : List Nat} {bs : By} (h : TabAt C p ps) (h1 : p + 4 ≤ q) (h2 : q + bs.length ≤ C.length) : TabAt (put C q bs) p ps := by
  obtain ⟨a, b, c, d, e⟩ := h
  refine ⟨a, by rw [put_length h2]; exact b, (leAt_put_other h2 (by omega)).trans c, (leAt_put_other h2 (by omega)).trans d, fun i x hx => ?_⟩
  have hi := (List.getElem?_eq_some_iff.1 hx).1
  exact (leAt_put_other h2 (by omega)).trans (e i x hx)

theorem Laid.start {O C : By} {p : Nat} {sl : List Sl} (h1 : C.take O.length = O) (h2 : p + szOf (patOf sl) ≤ C.length) (h3 : O.length + (4 + 2 * (plOf (patOf sl)).length) ≤ p) (h4 : TabAt C p (plOf (patOf sl))) : Laid O C p sl 0 0 :=
  ⟨h1, h2, h3, h4, fun i s h => absurd h (Nat.not_lt_zero _), fun i s h => absurd h (Nat.not_lt_zero _)⟩

theorem Laid.lt {O C : By} {p : Nat} {sl : List Sl} {j k : Nat} (h : Laid O C p sl j k) : O.length ≤ p := by have := h.lo; omega

/-- A slot's number is laid. -/
theorem Laid.putNum {O C : By} {p : Nat} {sl : List Sl} {j : Nat} (hok : okPat (patOf sl) = true) (h : Laid O C p sl j 0) {s : Sl} (hs : sl[j]? = some s) (hu : s.u < 256 ^ s.wid) :
    Laid O (put C (p + plAt (patOf sl) s.idx) (Lib.leBytes s.wid s.u)) p sl (j + 1) 0 := by
  obtain ⟨hw, h4, hz⟩ := okPat_at hok hs
  have hbl := Lib.leBytes_length s.wid s.u
  have hfit : p + plAt (patOf sl) s.idx + (Lib.leBytes s.wid s.u).length ≤ C.length := by have := h.len; omega
  refine ⟨(put_take (by have := h.lt; omega) (by omega)).trans h.pre, by rw [put_length hfit]; exact h.len, h.lo, h.tab.put (by omega) hfit, fun i t hi ht hr => ?_, fun i t hi => absurd hi (Nat.not_lt_zero _)⟩
  by_cases hij : i = j
  · subst hij
    obtain rfl : s = t := by rw [hs] at ht; exact Option.some.inj ht
    have e := leAt_put_same hfit
    rw [hbl] at e
    rw [e, Lib.leNat_leBytes _ _ hu]
  · have ha := okPat_apart hok ht hs hij
    rw [leAt_put_other hfit (by omega)]
    exact h.num i t (by omega) ht hr

/-- A slot that refers to something has no number to be laid. -/
theorem Laid.noNum {O C : By} {p : Nat} {sl : List Sl} {j : Nat} (h : Laid O C p sl j 0) {s : Sl} (hs : sl[j]? = some s) (hr : s.ref ≠ none) : Laid O C p sl (j + 1) 0 := by
  refine ⟨h.pre, h.len, h.lo, h.tab, fun i t hi ht hn => ?_, h.ref⟩
  by_cases hij : i = j
  · subst hij
    obtain rfl : s = t := by rw [hs] at ht; exact Option.some.inj ht
    exact absurd hn hr
  · exact h.num i t (by omega) ht hn

theorem Laid.noRef {O C : By} {p : Nat} {sl : List Sl} {j k : Nat} (h : Laid O C p sl j k) {s : Sl} (hs : sl[k]? = some s) (hr : s.ref = none) : Laid O C p sl j (k + 1) := by
  refine ⟨h.pre, h.len, h.lo, h.tab, h.num, fun i t hi ht hn => ?_⟩
  by_cases hij : i = k
  · subst hij
    obtain rfl : s = t := by rw [hs] at ht; exact Option.some.inj ht
    exact absurd hr hn
  · exact h.ref i t (by omega) ht hn

theorem Agree.of_append {lo : Nat} {C X B : By} (h : Agree lo (C ++ X) B) : Agree lo C B := fun i h1 h2 => (h i h1 (by rw [List.length_append]; omega)).trans (List.getElem?_append_left h2)

/-- What a slot refers to is written behind all, its place laid. -/
theorem Laid.putRef {O C X : By} {p : Nat} {sl : List Sl} {n k : Nat} (hok : okPat (patOf sl) = true) (h : Laid O C p sl n k) (hn : sl.length ≤ n) {s : Sl} (hs : sl[k]? = some s) (hr : s.ref ≠ none) (hw4 : ∀ (i : Nat) (t : Sl), sl[i]? = some t → t.ref ≠ none → t.wid = 4) {to : Nat}
    (ht1 : C.length ≤ to) (ht2 : to < C.length + X.length) (hsm : to < 4294967296) (hR : ∀ B, Agree C.length (C ++ X) B → s.R B to) :
    Laid O (put (C ++ X) (p + plAt (patOf sl) s.idx) (Lib.leBytes 4 (to - (p + plAt (patOf sl) s.idx)))) p sl n (k + 1) := by
  obtain ⟨hw, h4, hz⟩ := okPat_at hok hs
  have hs4 := hw4 k s hs hr
  have hbl := Lib.leBytes_length 4 (to - (p + plAt (patOf sl) s.idx))
  have hlen := h.len
  have hcx : (C ++ X).length = C.length + X.length := List.length_append
  have hfit : p + plAt (patOf sl) s.idx + (Lib.leBytes 4 (to - (p + plAt (patOf sl) s.idx))).length ≤ (C ++ X).length := by omega
  have htab : TabAt (C ++ X) p (plOf (patOf sl)) := h.tab.agree (Agree.append O.length C X) h.lo
  refine ⟨?_, by rw [put_length hfit]; omega, h.lo, htab.put (by omega) hfit, fun i t hi ht hn => ?_, fun i t hi ht hn => ?_⟩
  · rw [put_take (by have := h.lt; omega) (by omega), List.take_append_of_le_length (by have := h.lt; omega)]
    exact h.pre
  · have hik : i ≠ k := by
      rintro rfl
      obtain rfl : s = t := by rw [hs] at ht; exact Option.some.inj ht
      exact hr hn
    have ha := okPat_apart hok ht hs hik
    obtain ⟨_, _, hz'⟩ := okPat_at hok ht
    rw [leAt_put_other hfit (by omega), leAt_agree (Agree.append 0 C X) (Nat.zero_le _) (by omega)]
    exact h.num i t hi ht hn
  · by_cases hik : i = k
    · subst hik
      obtain rfl : s = t := by rw [hs] at ht; exact Option.some.inj ht
      refine ⟨to, ?_, by omega, by rw [put_length hfit]; omega, fun B hB => hR B ?_⟩
      · have e := leAt_put_same hfit
        rw [hbl] at e
        rw [e, Lib.leNat_leBytes _ _ (by omega)]
      · refine Agree.trans (Agree.put hfit (by omega)) (hB.mono (by omega)) (by rw [put_length hfit]; exact Nat.le_refl _)
    · have ha := okPat_apart hok ht hs hik
      obtain ⟨hwt, _, hz'⟩ := okPat_at hok ht
      have ht4 := hw4 i t ht hn
      obtain ⟨to', a, b, c, d⟩ := h.ref i t (by omega) ht hn
      refine ⟨to', ?_, b, by rw [put_length hfit]; omega, fun B hB => d B ?_⟩
      · rw [leAt_put_other hfit (by omega), leAt_agree (Agree.append 0 C X) (Nat.zero_le _) (by omega)]
        exact a
      · refine Agree.of_append (X := X) (Agree.trans (Agree.put hfit (by omega)) hB (by rw [put_length hfit]; exact Nat.le_refl _))

theorem Laid.done {O C : By} {p : Nat} {sl : List Sl} (h : Laid O C p sl sl.length sl.length) (hw : ∀ s ∈ sl, plAt (patOf sl) s.idx + s.wid ≤ szOf (patOf sl)) (hw4 : ∀ s ∈ sl, s.ref ≠ none → s.wid = 4) {B : By} (hB : Agree O.length C B) : TabOf B p sl := by
  have hlt := h.lt
  have hlen := h.len
  have hlo := h.lo
  refine ⟨h.tab.agree hB h.lo, ?_, fun i s hs hn => ?_, fun i s hs hn => ?_⟩
  · have := h.tab.2.1
    have := hB.len (by omega)
    omega
  · have := hw s (List.mem_of_getElem? hs)
    rw [leAt_agree hB (by omega) (by omega)]
    exact h.num i s (List.getElem?_eq_some_iff.1 hs).1 hs hn
  · have := hw s (List.mem_of_getElem? hs)
    have := hw4 s (List.mem_of_getElem? hs) hn
    obtain ⟨to, a, b, c, d⟩ := h.ref i s (List.getElem?_eq_some_iff.1 hs).1 hs hn
    refine ⟨to, ?_, b, ?_, d B (hB.mono (by omega))⟩
    · rw [leAt_agree hB (by omega) (by omega)]
      exact a
    · have := hB.len (by omega)
      omega

/-! What stands ahead of a table: the list of its places. -/

theorem flat_length : ∀ pl : List Nat, (pl.flatMap (Lib.leBytes 2)).length = 2 * pl.length
  | [] => rfl
  | x :: pl => by rw [List.flatMap_cons, List.length_append, flat_length pl, Lib.leBytes_length, List.length_cons]; omega

theorem leAt_mid {A X B : By} {k v p : Nat} (hv : v < 256 ^ k) (h : B = A ++ Lib.leBytes k v ++ X) (hp : p = A.length) : leAt B p k = v := by
  subst h
  subst hp
  exact leAt_new hv

/-- The bytes of a table whose fields are not yet laid: C0 from O0 on. -/
def headOf (pl : List Nat) (sz : Nat) : By := Lib.leBytes 2 (4 + 2 * pl.length) ++ Lib.leBytes 2 sz ++ pl.flatMap (Lib.leBytes 2)

theorem headOf_length (pl : List Nat) (sz : Nat) : (headOf pl sz).length = 4 + 2 * pl.length := by
  unfold headOf
  rw [List.length_append, List.length_append, flat_length, Lib.leBytes_length, Lib.leBytes_length]

theorem header_tab (O0 : By) (pl : List Nat) (sz : Nat) (hs : 4 ≤ sz) (hz : sz < 65536) (hm : pl.length < 1000) (hx : ∀ x ∈ pl, x < 65536) :
    TabAt (put (O0 ++ headOf pl sz ++ List.replicate sz 0) (O0.length + (4 + 2 * pl.length)) (Lib.leBytes 4 (4 + 2 * pl.length))) (O0.length + (4 + 2 * pl.length)) pl := by
  have hbl := Lib.leBytes_length 4 (4 + 2 * pl.length)
  have hl : (O0 ++ headOf pl sz ++ List.replicate sz 0).length = O0.length + (4 + 2 * pl.length) + sz := by
    rw [List.length_append, List.length_append, headOf_length, List.length_replicate]
  have hfit : O0.length + (4 + 2 * pl.length) + (Lib.leBytes 4 (4 + 2 * pl.length)).length ≤ (O0 ++ headOf pl sz ++ List.replicate sz 0).length := by omega
  refine ⟨by omega, by rw [put_length hfit, hl]; omega, ?_, ?_, fun i x hi => ?_⟩
  · have e := leAt_put_same hfit
    rw [hbl] at e
    rw [e, Lib.leNat_leBytes _ _ (by omega)]
  · rw [leAt_put_other hfit (by omega)]
    refine leAt_mid (A := O0) (X := Lib.leBytes 2 sz ++ pl.flatMap (Lib.leBytes 2) ++ List.replicate sz 0) (by omega) ?_ (by omega)
    unfold headOf
    simp only [List.append_assoc]
  · have hlt := (List.getElem?_eq_some_iff.1 hi).1
    have hxi := (List.getElem?_eq_some_iff.1 hi).2
    rw [leAt_put_other hfit (by omega)]
    have hsplit : pl = pl.take i ++ x :: pl.drop (i + 1) := by
      conv => lhs; rw [← List.take_append_drop i pl]
      rw [List.drop_eq_getElem_cons hlt, hxi]
    refine leAt_mid (A := O0 ++ (Lib.leBytes 2 (4 + 2 * pl.length) ++ Lib.leBytes 2 sz ++ (pl.take i).flatMap (Lib.leBytes 2))) (X := (pl.drop (i + 1)).flatMap (Lib.leBytes 2) ++ List.replicate sz 0) (by have := hx x (List.mem_of_getElem? hi); omega) ?_ ?_
    · unfold headOf
      conv => lhs; rw [show pl.flatMap (Lib.leBytes 2) = (pl.take i ++ x :: pl.drop (i + 1)).flatMap (Lib.leBytes 2) from by rw [← hsplit]]
      rw [List.flatMap_append, List.flatMap_cons]
      simp only [List.append_assoc]
    · rw [List.length_append, List.length_append, List.length_append, Lib.leBytes_length, Lib.leBytes_length, flat_length, List.length_take, Nat.min_eq_left (by omega)]
      omega

/-! The places, as the loops find them. -/

theorem foldl_take_succ {α β : Type} (f : β → α → β) (b : β) (l : List α) {j : Nat} {x : α} (h : l[j]? = some x) : (l.take (j + 1)).foldl f b = f ((l.take j).foldl f b) x := by
  rw [List.take_add_one, h, Option.toList_some, List.foldl_append, List.foldl_cons, List.foldl_nil]

theorem most_ge : ∀ (pat : List (Nat × Nat)) (b : Nat), b ≤ pat.foldl (fun m s => max m (s.1 + 1)) b ∧ ∀ s ∈ pat, s.1 < pat.foldl (fun m s => max m (s.1 + 1)) b
  | [], b => ⟨Nat.le_refl _, fun s h => absurd h (List.not_mem_nil)⟩
  | t :: pat, b => by
    obtain ⟨h1, h2⟩ := most_ge pat (max b (t.1 + 1))
    rw [List.foldl_cons]
    refine ⟨by omega, fun s hs => ?_⟩
    rcases List.mem_cons.1 hs with rfl | hs
    · omega
    · exact h2 s hs

theorem most_lt {pat : List (Nat × Nat)} {s : Nat × Nat} (h : s ∈ pat) : s.1 < most pat := (most_ge pat 0).2 s h

theorem placeOne_len (w : Nat) (st : List Nat × Nat) (s : Nat × Nat) : (placeOne w st s).1.length = st.1.length := by
  unfold placeOne
  split
  · exact List.length_set
  · rfl
theorem placeFold_len (w : Nat) : ∀ (pat : List (Nat × Nat)) (st : List Nat × Nat), (pat.foldl (placeOne w) st).1.length = st.1.length
  | [], st => rfl
  | s :: pat, st => by rw [List.foldl_cons, placeFold_len w pat, placeOne_len]

theorem alignUp_ge {s w : Nat} (hw : w = 8 ∨ w = 4 ∨ w = 2 ∨ w = 1) : s ≤ alignUp s w ∧ alignUp s w < s + w ∧ alignUp s w % w = 0 := by
  unfold alignUp
  rcases hw with rfl | rfl | rfl | rfl <;> omega
theorem alignUp_stop {s t w : Nat} (hw : w = 8 ∨ w = 4 ∨ w = 2 ∨ w = 1) (h1 : s ≤ t) (h2 : t ≤ alignUp s w) (h3 : t % w = 0) : t = alignUp s w := by
  unfold alignUp at *
  rcases hw with rfl | rfl | rfl | rfl <;> omega
theorem alignUp_go {s t w : Nat} (hw : w = 8 ∨ w = 4 ∨ w = 2 ∨ w = 1) (h1 : s ≤ t) (h2 : t ≤ alignUp s w) (h3 : t % w ≠ 0) : t + 1 ≤ alignUp s w := by
  unfold alignUp at *
  rcases hw with rfl | rfl | rfl | rfl <;> omega

theorem placeOne_size {w : Nat} (hw : w = 8 ∨ w = 4 ∨ w = 2 ∨ w = 1) (st : List Nat × Nat) (s : Nat × Nat) : st.2 ≤ (placeOne w st s).2 ∧ (placeOne w st s).2 ≤ st.2 + 16 := by
  have := alignUp_ge (s := st.2) hw
  unfold placeOne
  split
  · simp only
    omega
  · omega

theorem plOf_length (pat : List (Nat × Nat)) : (plOf pat).length = most pat := by
  unfold plOf placeAll
  simp only [List.foldl_cons, List.foldl_nil, placeFold_len]
  exact List.length_replicate

/-- The places behind the first a widths; behind j slots of the next one. -/
def outSt (pat : List (Nat × Nat)) (a : Nat) : List Nat × Nat := ([8, 4, 2, 1].take a).foldl (fun st w => pat.foldl (placeOne w) st) (List.replicate (most pat) 0, 4)
def inSt (pat : List (Nat × Nat)) (a W j : Nat) : List Nat × Nat := (pat.take j).foldl (placeOne W) (outSt pat a)

theorem wid_of {a W : Nat} (h : ([8, 4, 2, 1] : List Nat)[a]? = some W) : W = 8 ∨ W = 4 ∨ W = 2 ∨ W = 1 := by
  have := List.mem_of_getElem? h
  simpa using this

theorem inSt_zero (pat : List (Nat × Nat)) (a W : Nat) : inSt pat a W 0 = outSt pat a := rfl
theorem inSt_succ {pat : List (Nat × Nat)} {a W j : Nat} {x : Nat × Nat} (h : pat[j]? = some x) : inSt pat a W (j + 1) = placeOne W (inSt pat a W j) x := foldl_take_succ _ _ _ h
theorem outSt_succ {pat : List (Nat × Nat)} {a W n : Nat} (h : ([8, 4, 2, 1] : List Nat)[a]? = some W) (hn : pat.length ≤ n) : outSt pat (a + 1) = inSt pat a W n := by
  unfold outSt inSt
  rw [foldl_take_succ _ _ _ h, List.take_of_length_le hn]
  rfl
theorem outSt_all (pat : List (Nat × Nat)) : outSt pat 4 = placeAll pat := rfl

theorem foldSt_len (ws : List Nat) (pat : List (Nat × Nat)) : ∀ (st : List Nat × Nat), (ws.foldl (fun st w => pat.foldl (placeOne w) st) st).1.length = st.1.length := by
  induction ws with
  | nil => intro st; rfl
  | cons w ws ih => intro st; rw [List.foldl_cons, ih, placeFold_len]
theorem outSt_len (pat : List (Nat × Nat)) (a : Nat) : (outSt pat a).1.length = most pat := by
  unfold outSt
  rw [foldSt_len]
  exact List.length_replicate
theorem inSt_len (pat : List (Nat × Nat)) (a W j : Nat) : (inSt pat a W j).1.length = most pat := by
  unfold inSt
  rw [placeFold_len, outSt_len]

theorem placeFold_size {w : Nat} (hw : w = 8 ∨ w = 4 ∨ w = 2 ∨ w = 1) : ∀ (pat : List (Nat × Nat)) (st : List Nat × Nat), st.2 ≤ (pat.foldl (placeOne w) st).2 ∧ (pat.foldl (placeOne w) st).2 ≤ st.2 + 16 * pat.length
  | [], st => by simp
  | s :: pat, st => by
    have h1 := placeOne_size hw st s
    have h2 := placeFold_size hw pat (placeOne w st s)
    rw [List.foldl_cons, List.length_cons]
    omega
theorem foldSt_size (pat : List (Nat × Nat)) : ∀ (ws : List Nat), (∀ w ∈ ws, w = 8 ∨ w = 4 ∨ w = 2 ∨ w = 1) → ∀ (st : List Nat × Nat), st.2 ≤ (ws.foldl (fun st w => pat.foldl (placeOne w) st) st).2 ∧ (ws.foldl (fun st w => pat.foldl (placeOne w) st) st).2 ≤ st.2 + 16 * pat.length * ws.length
  | [], _, st => by simp
  | w :: ws, h, st => by
    have h1 := placeFold_size (h w (List.mem_cons_self ..)) pat st
    have h2 := foldSt_size pat ws (fun x hx => h x (List.mem_cons_of_mem _ hx)) (pat.foldl (placeOne w) st)
    rw [List.foldl_cons, List.length_cons, Nat.mul_succ]
    omega
theorem outSt_size (pat : List (Nat × Nat)) (a : Nat) : 4 ≤ (outSt pat a).2 ∧ (outSt pat a).2 ≤ 4 + 64 * pat.length := by
  have h := foldSt_size pat (([8, 4, 2, 1] : List Nat).take a) (fun w hw => by have := List.mem_of_mem_take hw; simpa using this) (List.replicate (most pat) 0, 4)
  have hl : (([8, 4, 2, 1] : List Nat).take a).length ≤ 4 := by simp; omega
  have hm : 16 * pat.length * (([8, 4, 2, 1] : List Nat).take a).length ≤ 16 * pat.length * 4 := Nat.mul_le_mul_left _ hl
  unfold outSt
  simp only at h ⊢
  omega
theorem inSt_size (pat : List (Nat × Nat)) {a W : Nat} (hw : W = 8 ∨ W = 4 ∨ W = 2 ∨ W = 1) (j : Nat) : 4 ≤ (inSt pat a W j).2 ∧ (inSt pat a W j).2 ≤ 4 + 80 * pat.length := by
  have h1 := outSt_size pat a
  have h2 := placeFold_size hw (pat.take j) (outSt pat a)
  have h3 : (pat.take j).length ≤ pat.length := by simp; omega
  unfold inSt
  omega

theorem sum_take_succ (sl : List Sl) {j : Nat} {s : Sl} (h : sl[j]? = some s) : ((sl.take (j + 1)).map Sl.bd).sum = ((sl.take j).map Sl.bd).sum + s.bd := by
  rw [List.take_add_one, h, Option.toList_some, List.map_append, List.sum_append]
  simp
theorem sum_take_le : ∀ (sl : List Sl) (j : Nat), ((sl.take j).map Sl.bd).sum ≤ (sl.map Sl.bd).sum
  | [], j => by simp
  | s :: sl, 0 => by simp
  | s :: sl, j + 1 => by
    have := sum_take_le sl j
    simp only [List.take_succ_cons, List.map_cons, List.sum_cons]
    omega

theorem getD_set_self {l : List Nat} {i v : Nat} (h : i < l.length) : (l.set i v).getD i 0 = v := by
  simp [List.getD, h]

end Go.Proofs.YtcbcdgifakcooaaGreatDoor
