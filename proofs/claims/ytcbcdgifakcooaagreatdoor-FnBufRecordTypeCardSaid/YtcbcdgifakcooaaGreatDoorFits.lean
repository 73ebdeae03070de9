/-
  fits at this seat's numbers: it answers, and where it says yes the tree fits. No conditions beyond the tables of the decoder.
-/
import Derived.Test.YtcbcdgifakcooaaGreatDoorOps
import Derived.Test.YtcbcdgifakcooaaGreatDoorPlain
namespace Go.Proofs.YtcbcdgifakcooaaGreatDoor
open Go.RowKit
set_option linter.unusedVariables false

/-- plainFields answers, and says yes to nothing else (proved kind by kind). -/
def PlainC : Prop := ∀ (k : Int) (t m : ByteArray) (u : Int) (ao : Option Addr) (len cap : Nat) (kids : List Nd) (w : World), t.size ≤ 9223372036854775807 → m.size ≤ 9223372036854775807 → Lib.Utf8Tabs 1 2 w →
    Calls Tryz.prog 78 #[.agg #[.int .i64 k, .string t, .string m, .int .u64 u, .slice ao len cap]] w (SomeB (PlainP (.mk k t m u ao cap kids)) w)

/-- fits, so many levels down. -/
def FitsC (d : Nat) : Prop := ∀ (n : Nd) (D : Nat) (w : World), LiesD D w n → Lib.Utf8Tabs 1 2 w →
    Calls Tryz.prog 28 #[n.val, .int .i64 (d : Int)] w (SomeB (FitP d n) w)

set_option maxRecDepth 100000 in
theorem fits_zero : FitsC 0 := by
  intro n D w hL hT
  obtain ⟨k, t, m, u, ao, cap, kids⟩ := n
  show Calls _ _ #[.agg #[.int .i64 k, .string t, .string m, .int .u64 u, .slice ao kids.length cap], .int .i64 0] w _
  clear hL hT
  go_enter Tryz.func28, Tryz.ntmps28
  go_wp2_with fail
  go_ret
  exact ⟨_, rfl, (by intro h; cases h), (Below.refl _ _).alloc (Nat.le_refl _) _⟩

set_option maxRecDepth 100000 in
theorem fits_none (d : Nat) (k : Int) (hk : k ≤ 0) (t m : ByteArray) (u : Int) (ao : Option Addr) (cap : Nat) (kids : List Nd) (w : World) :
    Calls Tryz.prog 28 #[.agg #[.int .i64 k, .string t, .string m, .int .u64 u, .slice ao kids.length cap], .int .i64 ((d + 1 : Nat) : Int)] w (SomeB (FitP (d + 1) (.mk k t m u ao cap kids)) w) := by
  have hd1 : ¬ (((d + 1 : Nat) : Int) ≤ 0) := by omega
  have hd2 : 0 < ((d + 1 : Nat) : Int) := by omega
  generalize ((d + 1 : Nat) : Int) = L at *
  go_enter Tryz.func28, Tryz.ntmps28
  go_wp2_with fail
  all_goals
    go_ret
    refine ⟨_, rfl, (fun h => ?_), (Below.refl _ _).alloc (Nat.le_refl _) _⟩
    first
      | (exact absurd (show false = true from h) (by decide))
      | (refine Or.inl ⟨(by first | rfl | assumption), empty_of (by assumption), empty_of (by assumption), (by first | rfl | assumption), ?_⟩
         have h2 : (kids.length == 0) = true := by first | exact h | simpa using h
         show kids = []
         exact List.eq_nil_of_length_eq_zero (by simpa using h2))

set_option maxRecDepth 100000 in
theorem fits_far (d : Nat) (k : Int) (hk : 54 ≤ k) (t m : ByteArray) (u : Int) (ao : Option Addr) (cap : Nat) (kids : List Nd) (w : World) :
    Calls Tryz.prog 28 #[.agg #[.int .i64 k, .string t, .string m, .int .u64 u, .slice ao kids.length cap], .int .i64 ((d + 1 : Nat) : Int)] w (SomeB (FitP (d + 1) (.mk k t m u ao cap kids)) w) := by
  have hd1 : ¬ (((d + 1 : Nat) : Int) ≤ 0) := by omega
  have hd2 : 0 < ((d + 1 : Nat) : Int) := by omega
  have hk0 : ¬ k ≤ 0 := by omega
  have hkz : (k == 0) = false := by simpa using (show k ≠ 0 by omega)
  generalize ((d + 1 : Nat) : Int) = L at *
  go_enter Tryz.func28, Tryz.ntmps28
  go_wp2_with fail
  go_ret
  exact ⟨_, rfl, (by intro h; cases h), (Below.refl _ _).alloc (Nat.le_refl _) _⟩

theorem fixed_bound (k : Int) : ∀ c ∈ fixedL k, 0 ≤ c ∧ c ≤ 28 := by
  have : ∀ (t : List (Int × List Int)) (z : List Int), (∀ c ∈ z, 0 ≤ c ∧ c ≤ 28) → (∀ p ∈ t, ∀ c ∈ p.2, 0 ≤ c ∧ c ≤ 28) → ∀ c ∈ t.foldl (fun acc p => if p.1 = k then p.2 else acc) z, 0 ≤ c ∧ c ≤ 28 := by
    intro t
    induction t with
    | nil => intro z hz _; exact hz
    | cons p t ih =>
      intro z hz h
      refine ih _ ?_ (fun q hq => h q (List.mem_cons_of_mem _ hq))
      show ∀ c ∈ (if p.1 = k then p.2 else z), 0 ≤ c ∧ c ≤ 28
      by_cases hp : p.1 = k
      · rw [if_pos hp]; exact h p (List.mem_cons_self ..)
      · rw [if_neg hp]; exact hz
  exact this fixedTab [] (by simp) (by decide)

theorem rest_bound (k : Int) : 0 ≤ restL k ∧ restL k ≤ 28 := by
  have h := look_bound k
  unfold restL
  split <;> omega

theorem fixed_len (k : Int) : (fixedL k).length ≤ 3 := by
  have : ∀ (t : List (Int × List Int)) (z : List Int), z.length ≤ 3 → (∀ p ∈ t, p.2.length ≤ 3) → (t.foldl (fun acc p => if p.1 = k then p.2 else acc) z).length ≤ 3 := by
    intro t
    induction t with
    | nil => intro z hz _; exact hz
    | cons p t ih =>
      intro z hz h
      refine ih _ ?_ (fun q hq => h q (List.mem_cons_of_mem _ hq))
      show (if p.1 = k then p.2 else z).length ≤ 3
      by_cases hp : p.1 = k
      · rw [if_pos hp]; exact h p (List.mem_cons_self ..)
      · rw [if_neg hp]; exact hz
  exact this fixedTab [] (by decide) (by decide)

/-- What the loop of fits keeps. -/
def FitRel (d : Nat) (k : Int) (kids : List Nd) (j : Nat) : Prop := ∀ (i : Nat) (x : Nd), i < j → kids[i]? = some x → (k ≠ 1 → ofClassB x ((fixedL k).getD i (restL k)) = true) ∧ FitP d x

set_option maxRecDepth 100000 in
set_option maxHeartbeats 1000000 in
theorem fits_some (hP : PlainC) (d : Nat) (hd : d ≤ 100) (ih : FitsC d) (k : Int) (hk : 0 < k) (hk2 : k < 54) (h1 : k ≠ 1) (t m : ByteArray) (u : Int) (ao : Option Addr) (cap : Nat) (kids : List Nd) (D : Nat) (w : World) (hL : LiesD D w (.mk k t m u ao cap kids)) (hT : Lib.Utf8Tabs 1 2 w) :
    Calls Tryz.prog 28 #[.agg #[.int .i64 k, .string t, .string m, .int .u64 u, .slice ao kids.length cap], .int .i64 ((d + 1 : Nat) : Int)] w (SomeB (FitP (d + 1) (.mk k t m u ao cap kids)) w) := by
  obtain ⟨D, rfl⟩ : ∃ E, D = E + 1 := by cases D with | zero => exact hL.elim | succ E => exact ⟨E, rfl⟩
  have HT := Lib.hid hT
  have HL := Lib.hid hL
  have hM := hL.len_le
  have hts := hL.1.1
  have hms := hL.1.2.1
  unfold maxLen at hts hms
  simp only [Nd.text, Nd.more] at hts hms
  have hd1 : ¬ ((d : Int) + 1 ≤ 0) := by omega
  have hd2 : 0 < (d : Int) + 1 := by omega
  have hd3 : (d : Int) ≤ 100 := by omega
  have hk0 : ¬ k ≤ 0 := by omega
  have hk54 : ¬ 54 ≤ k := by omega
  have hkz : (k == 0) = false := by simpa using (show k ≠ 0 by omega)
  have hk1 : (k != 1) = true := by simpa using h1
  have H1 := Lib.hid h1
  obtain ⟨len, hlen⟩ : ∃ len, kids.length = len := ⟨_, rfl⟩
  rw [hlen] at hM ⊢
  have HN := Lib.hid hlen
  have eL : ((d + 1 : Nat) : Int) = (d : Int) + 1 := by omega
  rw [eL]
  clear eL hlen hT hL h1
  go_enter Tryz.func28, Tryz.ntmps28
  go_wp2_with fail
  refine (hP k t m u ao len cap kids _ hts hms (tabs_below HT.out ((Below.refl _ _).alloc (Nat.le_refl _) _))).mono ?_
  rintro e w1 ⟨b, rfl, hb, hb1⟩
  have HPl := Lib.hid hb
  have HB1 := Lib.hid (((Below.refl w.heap.size w).alloc (Nat.le_refl _) _).trans (hb1.mono (by simp)))
  obtain ⟨k0, -⟩ := bblk hb1 (b := w.heap.size) (by simp)
  have hz1 : w.heap.size < w1.heap.size := by have := hb1.size; simp at this; omega
  clear hb hb1
  cases b
  · go_wp2_with fail
    go_ret
    exact ⟨_, rfl, (by intro h; cases h), HB1.out⟩
  go_wp2_with fail
  refine (shape_any k _ (WalkArith.wf_i64 (by omega))).mono ?_
  rintro e w2 ⟨ao2, cap2, rfl, hI, hb2⟩
  have HB2 := Lib.hid (HB1.out.trans (hb2.mono HB1.out.size))
  obtain ⟨k1, -⟩ := bblk hb2 (b := w.heap.size) hz1
  have hz2 : w.heap.size < w2.heap.size := by have := hb2.size; omega
  obtain ⟨fl, hfl⟩ : ∃ fl, (fixedL k).length = fl := ⟨_, rfl⟩
  obtain ⟨r, hr⟩ : ∃ r, restL k = r := ⟨_, rfl⟩
  obtain ⟨r0, r1⟩ := rest_bound k
  rw [hr] at r0 r1
  rw [hfl, hr]
  have HFL := Lib.hid hfl
  have HR := Lib.hid hr
  have HI := Lib.hid hI
  have hflb : fl ≤ 3 := by rw [← hfl]; exact fixed_len k
  clear hb2 hfl hr hI
  by_cases hA : len < fl
  · go_wp2_with fail
    go_ret
    exact ⟨_, rfl, (by intro h; cases h), HB2.out⟩
  have hA' : ¬ ((len : Int) < (fl : Int)) := by omega
  by_cases hBB : fl < len ∧ r = 28
  · obtain ⟨hB1, rfl⟩ := hBB
    go_wp2_with fail
    go_ret
    exact ⟨_, rfl, (by intro h; cases h), HB2.out⟩
  have HCOND := Lib.hid (show fl ≤ len ∧ (len ≤ fl ∨ r ≠ 28) by omega)
  have hdec : (fl < len ∧ (r == 28) = false) ∨ ¬ fl < len := by
    by_cases h : fl < len
    · exact Or.inl ⟨h, by simpa using (show r ≠ 28 by omega)⟩
    · exact Or.inr h
  clear hBB
  rcases hdec with ⟨hB1, hr28⟩ | hB1
  all_goals
    go_wp2_with fail
    go_loopg [87] len (fun gk i wr => ∃ j : Nat, j ≤ len ∧ gk = len - j ∧ i = .int .i64 (j : Int) ∧ Hid (FitRel d k kids j) ∧ Hid (Below w2.heap.size w2 wr))
    case atStart => exact ⟨0, by omega, by omega, rfl, Lib.hid (fun i x h => by omega), Lib.hid (Below.refl _ _)⟩
    case round =>
      obtain ⟨j, hj, rfl, rfl, hall, hB⟩ := hrel
      obtain ⟨k2, -⟩ := bblk hB.out (b := w.heap.size) hz2
      have hz3 : w.heap.size < wr.heap.size := by have := hB.out.size; omega
      have HBw := Lib.hid (HB2.out.trans (hB.out.mono HB2.out.size))
      by_cases hjn : j < len
      · have hjz : (j : Int) < (len : Int) := by omega
        obtain ⟨x, hx⟩ : ∃ x, kids[j]? = some x := ⟨kids[j]'(by have := HN.out; omega), List.getElem?_eq_getElem _⟩
        obtain ⟨b, o, hao, c0, c1, c2, c3, c4, hLx⟩ := kid_cells HL.out hx HBw.out
        obtain rfl : ao = some ⟨b, o, none⟩ := hao
        have HX := Lib.hid hx
        have HLX := Lib.hid hLx
        clear hx hLx
        by_cases hjf : j < fl
        · have hjfz : (j : Int) < (fl : Int) := by omega
          obtain ⟨c, hc⟩ : ∃ c, (fixedL k)[j]? = some c := ⟨(fixedL k)[j]'(by have := HFL.out; omega), List.getElem?_eq_getElem _⟩
          obtain ⟨a2, rfl, hcI⟩ := (HI.out.below hB.out) j c hc
          have hcb := fixed_bound k c (List.mem_of_getElem? hc)
          have HC := Lib.hid (show (fixedL k).getD j (restL k) = c by simp [List.getD, hc])
          have hcI2 : ∀ ob, (wr.alloc ob).cell? (a2.add j) = some (.int .i64 c) := fun ob => (((Below.refl wr.heap.size wr).alloc (Nat.le_refl _) ob).cell (World.block_lt_of_cell? _ _ hcI)).trans hcI
          clear hc hcI
          go_wp2_with fail
          refine (ofClass_any c hcb D x _ ((HLX.out.mono (Nat.le_succ D)).below ((Below.refl _ _).alloc (Nat.le_refl _) _))).mono ?_
          rintro e w3 ⟨rfl, hb3⟩
          have HA3 := Lib.hid (((Below.refl wr.heap.size wr).alloc (Nat.le_refl _) _).trans (hb3.mono (by simp)))
          have hz4 : wr.heap.size < w3.heap.size := by have := hb3.size; simp at this; omega
          have HB3 := Lib.hid (hB.out.trans (HA3.out.mono hB.out.size))
          obtain ⟨k3, -⟩ := bblk hb3 (b := w.heap.size) (by simp; omega)
          obtain ⟨k4, -⟩ := bblk hb3 (b := wr.heap.size) (by simp)
          clear hb3
          cases hcl : ofClassB x c
          · clear hcl
            go_wp2_with fail
            go_ret
            exact ⟨_, rfl, (by intro h; cases h), HB2.out.trans (HB3.out.mono HB2.out.size)⟩
          have HCL := Lib.hid hcl
          clear hcl
          go_wp2_with fail
          refine (ih x D w3 (HLX.out.below HA3.out) (tabs_below HT.out (HB2.out.trans (HB3.out.mono HB2.out.size)))).mono ?_
          rintro e w4 ⟨bf, rfl, hbf, hb4⟩
          have HF := Lib.hid hbf
          have HB4 := Lib.hid (HB3.out.trans (hb4.mono HB3.out.size))
          clear hbf hb4
          cases bf
          · go_wp2_with fail
            go_ret
            exact ⟨_, rfl, (by intro h; cases h), HB2.out.trans (HB4.out.mono HB2.out.size)⟩
          go_wp2_with fail
          go_roundg (len - (j + 1))
          case measure => omega
          case rel =>
            refine ⟨j + 1, by omega, rfl, by push_cast; rfl, Lib.hid ?_, HB4⟩
            intro i y hi hy
            by_cases hij : i < j
            · exact hall.out i y hij hy
            · obtain rfl : i = j := by omega
              rw [HX.out] at hy
              cases hy
              exact ⟨fun _ => by rw [HC.out]; exact HCL.out, HF.out (by first | rfl | trivial)⟩
        · first | exact absurd (show fl < len by omega) hB1 | skip
          all_goals
            have hjfz : ¬ (j : Int) < (fl : Int) := by omega
            have hcb : 0 ≤ r ∧ r ≤ 28 := ⟨r0, r1⟩
            have HC := Lib.hid (show (fixedL k).getD j (restL k) = r by
              rw [← HR.out]
              simp only [List.getD]
              rw [List.getElem?_eq_none (by have := HFL.out; omega)]
              rfl)
            go_wp2_with fail
            refine (ofClass_any r hcb D x _ ((HLX.out.mono (Nat.le_succ D)).below ((Below.refl _ _).alloc (Nat.le_refl _) _))).mono ?_
            rintro e w3 ⟨rfl, hb3⟩
            have HA3 := Lib.hid (((Below.refl wr.heap.size wr).alloc (Nat.le_refl _) _).trans (hb3.mono (by simp)))
            have hz4 : wr.heap.size < w3.heap.size := by have := hb3.size; simp at this; omega
            have HB3 := Lib.hid (hB.out.trans (HA3.out.mono hB.out.size))
            obtain ⟨k3, -⟩ := bblk hb3 (b := w.heap.size) (by simp; omega)
            obtain ⟨k4, -⟩ := bblk hb3 (b := wr.heap.size) (by simp)
            clear hb3
            cases hcl : ofClassB x r
            · clear hcl
              go_wp2_with fail
              go_ret
              exact ⟨_, rfl, (by intro h; cases h), HB2.out.trans (HB3.out.mono HB2.out.size)⟩
            have HCL := Lib.hid hcl
            clear hcl
            go_wp2_with fail
            refine (ih x D w3 (HLX.out.below HA3.out) (tabs_below HT.out (HB2.out.trans (HB3.out.mono HB2.out.size)))).mono ?_
            rintro e w4 ⟨bf, rfl, hbf, hb4⟩
            have HF := Lib.hid hbf
            have HB4 := Lib.hid (HB3.out.trans (hb4.mono HB3.out.size))
            clear hbf hb4
            cases bf
            · go_wp2_with fail
              go_ret
              exact ⟨_, rfl, (by intro h; cases h), HB2.out.trans (HB4.out.mono HB2.out.size)⟩
            go_wp2_with fail
            go_roundg (len - (j + 1))
            case measure => omega
            case rel =>
              refine ⟨j + 1, by omega, rfl, by push_cast; rfl, Lib.hid ?_, HB4⟩
              intro i y hi hy
              by_cases hij : i < j
              · exact hall.out i y hij hy
              · obtain rfl : i = j := by omega
                rw [HX.out] at hy
                cases hy
                exact ⟨fun _ => by rw [HC.out]; exact HCL.out, HF.out (by first | rfl | trivial)⟩
      · have hjz : ¬ (j : Int) < (len : Int) := by omega
        obtain rfl : j = len := by omega
        have key : (k = 27 → kids.length % 2 = 0) → FitP (d + 1) (.mk k t m u ao cap kids) := fun h27 =>
          Or.inr ⟨hk, hk2, HPl.out (by first | rfl | trivial), fun _ => by
            have := HCOND.out
            have h1 := HFL.out
            have h2 := HR.out
            have h3 := HN.out
            show (fixedL k).length ≤ kids.length ∧ (kids.length ≤ (fixedL k).length ∨ restL k ≠ 28)
            rw [h1, h2, h3]; exact this, fun i x hx => hall.out i x (by have := (List.getElem?_eq_some_iff.1 hx).1; have h3 := HN.out; simp only [Nd.kids] at this; omega) hx, h27⟩
        have HK := Lib.hid key
        clear key
        by_cases h27 : k = 27
        · subst h27
          go_wp2_with fail
          go_ret
          refine ⟨_, rfl, (fun h => HK.out fun _ => ?_), HBw.out⟩
          have hlen := HN.out
          have h2 : ((j : Int) % 2 == 0) = true := h
          have h3 : (j : Int) % 2 = 0 := by simpa using h2
          omega
        · have h27b : (k != 27) = true := by simpa using h27
          go_wp2_with fail
          go_ret
          exact ⟨_, rfl, (fun h => HK.out fun e => absurd e h27), HBw.out⟩

set_option maxRecDepth 100000 in
set_option maxHeartbeats 1000000 in
theorem fits_list (hP : PlainC) (d : Nat) (hd : d ≤ 100) (ih : FitsC d) (t m : ByteArray) (u : Int) (ao : Option Addr) (cap : Nat) (kids : List Nd) (D : Nat) (w : World) (hL : LiesD D w (.mk 1 t m u ao cap kids)) (hT : Lib.Utf8Tabs 1 2 w) :
    Calls Tryz.prog 28 #[.agg #[.int .i64 1, .string t, .string m, .int .u64 u, .slice ao kids.length cap], .int .i64 ((d + 1 : Nat) : Int)] w (SomeB (FitP (d + 1) (.mk 1 t m u ao cap kids)) w) := by
  obtain ⟨D, rfl⟩ : ∃ E, D = E + 1 := by cases D with | zero => exact hL.elim | succ E => exact ⟨E, rfl⟩
  have HT := Lib.hid hT
  have HL := Lib.hid hL
  have hM := hL.len_le
  have hts := hL.1.1
  have hms := hL.1.2.1
  unfold maxLen at hts hms
  simp only [Nd.text, Nd.more] at hts hms
  have hd1 : ¬ ((d : Int) + 1 ≤ 0) := by omega
  have hd2 : 0 < (d : Int) + 1 := by omega
  have hd3 : (d : Int) ≤ 100 := by omega
  obtain ⟨len, hlen⟩ : ∃ len, kids.length = len := ⟨_, rfl⟩
  rw [hlen] at hM ⊢
  have HN := Lib.hid hlen
  have eL : ((d + 1 : Nat) : Int) = (d : Int) + 1 := by omega
  rw [eL]
  clear eL hlen hT hL
  go_enter Tryz.func28, Tryz.ntmps28
  go_wp2_with fail
  refine (hP 1 t m u ao len cap kids _ hts hms (tabs_below HT.out ((Below.refl _ _).alloc (Nat.le_refl _) _))).mono ?_
  rintro e w1 ⟨b, rfl, hb, hb1⟩
  have HPl := Lib.hid hb
  have HB1 := Lib.hid (((Below.refl w.heap.size w).alloc (Nat.le_refl _) _).trans (hb1.mono (by simp)))
  obtain ⟨k0, -⟩ := bblk hb1 (b := w.heap.size) (by simp)
  have hz1 : w.heap.size < w1.heap.size := by have := hb1.size; simp at this; omega
  clear hb hb1
  cases b
  · go_wp2_with fail
    go_ret
    exact ⟨_, rfl, (by intro h; cases h), HB1.out⟩
  go_wp2_with fail
  refine (shape_any 1 _ (by decide)).mono ?_
  rintro e w2 ⟨ao2, cap2, rfl, hI, hb2⟩
  have HB2 := Lib.hid (HB1.out.trans (hb2.mono HB1.out.size))
  obtain ⟨k1, -⟩ := bblk hb2 (b := w.heap.size) hz1
  have hz2 : w.heap.size < w2.heap.size := by have := hb2.size; omega
  rw [show (fixedL 1).length = 0 from by decide, show restL 1 = 28 from by decide]
  clear hb2 hI
  go_wp2_with fail
  go_loopg [87] len (fun gk i wr => ∃ j : Nat, j ≤ len ∧ gk = len - j ∧ i = .int .i64 (j : Int) ∧ Hid (∀ i x, i < j → kids[i]? = some x → FitP d x) ∧ Hid (Below w2.heap.size w2 wr))
  case atStart => exact ⟨0, by omega, by omega, rfl, Lib.hid (fun i x h => by omega), Lib.hid (Below.refl _ _)⟩
  case round =>
    obtain ⟨j, hj, rfl, rfl, hall, hB⟩ := hrel
    obtain ⟨k2, -⟩ := bblk hB.out (b := w.heap.size) hz2
    have hz3 : w.heap.size < wr.heap.size := by have := hB.out.size; omega
    have HBw := Lib.hid (HB2.out.trans (hB.out.mono HB2.out.size))
    by_cases hjn : j < len
    · have hjz : (j : Int) < (len : Int) := by omega
      have hj0 : ¬ ((j : Int) < 0) := by omega
      obtain ⟨x, hx⟩ : ∃ x, kids[j]? = some x := ⟨kids[j]'(by have := HN.out; omega), List.getElem?_eq_getElem _⟩
      obtain ⟨b, o, hao, c0, c1, c2, c3, c4, hLx⟩ := kid_cells HL.out hx HBw.out
      obtain rfl : ao = some ⟨b, o, none⟩ := hao
      have HX := Lib.hid hx
      have HLX := Lib.hid hLx
      clear hx hLx
      have HA3 := fun ob => Lib.hid ((Below.refl wr.heap.size wr).alloc (Nat.le_refl _) ob)
      go_wp2_with fail
      refine (ih x D _ (HLX.out.below (HA3 _).out) (tabs_below HT.out (HBw.out.trans ((HA3 _).out.mono HBw.out.size)))).mono ?_
      rintro e w4 ⟨bf, rfl, hbf, hb4⟩
      have HF := Lib.hid hbf
      have HB4 := Lib.hid (hB.out.trans (((HA3 _).out.trans (hb4.mono (HA3 _).out.size)).mono hB.out.size))
      clear hbf hb4
      cases bf
      · go_wp2_with fail
        go_ret
        exact ⟨_, rfl, (by intro h; cases h), HB2.out.trans (HB4.out.mono HB2.out.size)⟩
      go_wp2_with fail
      go_roundg (len - (j + 1))
      case measure => omega
      case rel =>
        refine ⟨j + 1, by omega, rfl, by push_cast; rfl, Lib.hid ?_, HB4⟩
        intro i y hi hy
        by_cases hij : i < j
        · exact hall.out i y hij hy
        · obtain rfl : i = j := by omega
          rw [HX.out] at hy
          cases hy
          exact HF.out (by first | rfl | trivial)
    · have hjz : ¬ (j : Int) < (len : Int) := by omega
      obtain rfl : j = len := by omega
      go_wp2_with fail
      go_ret
      refine ⟨_, rfl, (fun h => Or.inr ⟨(show (0 : Int) < 1 by decide), (show (1 : Int) < 54 by decide), HPl.out (by first | rfl | trivial), fun e => absurd rfl e, fun i x hx => ⟨fun e => absurd rfl e, hall.out i x (by have := (List.getElem?_eq_some_iff.1 hx).1; have h3 := HN.out; simp only [Nd.kids] at this; omega) hx⟩, fun e => absurd (show (1 : Int) = 27 from e) (by decide)⟩), HBw.out⟩

theorem fits_all (hP : PlainC) : ∀ d : Nat, d ≤ 101 → FitsC d := by
  intro d
  induction d with
  | zero => intro _; exact fits_zero
  | succ d ih =>
    intro hd n D w hL hT
    have ih' := ih (by omega)
    obtain ⟨k, t, m, u, ao, cap, kids⟩ := n
    by_cases h0 : k ≤ 0
    · exact fits_none d k h0 t m u ao cap kids w
    by_cases h54 : 54 ≤ k
    · exact fits_far d k h54 t m u ao cap kids w
    by_cases h1 : k = 1
    · subst h1
      exact fits_list hP d (by omega) ih' t m u ao cap kids D w hL hT
    · exact fits_some hP d (by omega) ih' k (by omega) (by omega) h1 t m u ao cap kids D w hL hT
end Go.Proofs.YtcbcdgifakcooaaGreatDoor
