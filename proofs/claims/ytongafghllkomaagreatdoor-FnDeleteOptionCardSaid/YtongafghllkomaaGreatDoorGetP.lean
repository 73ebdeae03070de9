/-
  What the laws ask of a tree: walked; the tree of 5. No conditions beyond the tables of the decoder.
  laws.keyed: what its yes tells of an object. No conditions beyond the tables of the decoder.
  errors.New and laws.tree at this seat's numbers. No conditions.
  laws.anObject: an object with the property a, whose value is five. No conditions.
  edit.GetProperty over the package's objects: the value of the first property of a key. No conditions.
-/
import Derived.Test.YtongafghllkomaaGreatDoorLits
import Derived.Test.YtongafghllkomaaGreatDoorPlain
import Derived.Test.YtongafghllkomaaGreatDoorTests
import Derived.Test.YtongafghllkomaaGreatDoorNodes
namespace Go.Proofs.YtongafghllkomaaGreatDoor
open Go.RowKit
set_option linter.unusedVariables false

def fiveN : Nd := .mk 36 ⟨#[]⟩ ⟨#[]⟩ 5 none 0 []

theorem five_any (w : World) : Calls Tryz.prog 11 #[] w fun e w' => e = .returned fiveN.val ∧ Below w.heap.size w w' := by
  go_enter Tryz.func11, Tryz.ntmps11
  go_wp2_with fail
  refine bodyPost_ret (v := fiveN.val) ?_ rfl ⟨rfl, ?_⟩
  · simp [results, Tryz.f11, go_sem, fiveN, Nd.val, Nd.kind, Nd.text, Nd.more, Nd.num, Nd.ao, Nd.cap, Nd.kids]
  · exact (Below.refl _ _).alloc (Nat.le_refl _) _

theorem five_lies (w : World) : LiesD 1 w fiveN := ⟨⟨by decide, by decide, by decide, by decide, by decide, by decide, by decide⟩, fun i x hx => by have : ([] : List Nd)[i]? = some x := hx; simp at this⟩

theorem five_plain : PlainP fiveN := by
  refine ⟨fun _ => rfl, fun h => ?_, fun _ _ => rfl, by decide, by decide, fun h => ?_, fun h => ?_, fun h => ?_, fun h => ?_, fun h => ?_, fun h => ?_⟩
  · exact absurd (show hasNum 36 = false from h) (by decide)
  all_goals exact absurd h (by decide)

theorem five_good : GoodD 12 fiveN := by
  refine ⟨Or.inr ⟨by decide, by decide, five_plain, fun _ => ⟨by decide, Or.inl (by decide)⟩, fun i x hx => ?_, fun h => absurd h (by decide)⟩, ⟨by decide, fun i x hx => ?_⟩, ⟨⟨by decide, by decide⟩, fun i x hx => ?_⟩, by decide⟩
  all_goals (have : ([] : List Nd)[i]? = some x := hx; simp at this)

theorem fits1_any (k : Int) (t m : ByteArray) (u : Int) (ao : Option Addr) (len cap : Nat) (w : World) :
    Calls Tryz.prog 9 #[.agg #[.int .i64 k, .string t, .string m, .int .u64 u, .slice ao len cap]] w (SomeB True w) := by
  go_enter Tryz.func9, Tryz.ntmps9
  go_wp2_with fail
  all_goals
    go_ret
    exact ⟨_, rfl, fun _ => trivial, (Below.refl _ _).alloc (Nat.le_refl _) _⟩

/-- What walked says where it says yes. -/
def WalkedP (n : Nd) : Prop := GoodD 12 n ∧ n.kind ∈ namedL

theorem walkedP_of {D : Nat} {w : World} {n : Nd} (hL : LiesD D w n) (hR : RoomD D n) (hF : FitsP D n) (hN : NoneD D n 13) (hK : n.kind ∈ namedL ∨ n.kind = 13) : WalkedP n := by
  have h13 : n.kind ≠ 13 := by
    cases D with
    | zero => exact hL.elim
    | succ D => exact hN.1
  have hk : n.kind ∈ namedL := hK.resolve_right h13
  refine ⟨⟨hF.1, hN.more hL 12, small_of hL hR hF.2 12, ?_⟩, hk⟩
  unfold namedL at hk; unfold walkL
  simp at hk ⊢; omega

theorem named_ne (k : Int) (h : k ∈ namedL ∨ k = 13) : (nameOf k).toList.isEmpty = false := by
  have H : ∀ k ∈ (13 :: namedL), (nameOf k).toList.isEmpty = false := by decide +kernel
  refine H k ?_
  rcases h with h | h
  · exact List.mem_cons_of_mem _ h
  · rw [h]; exact List.mem_cons_self ..

set_option maxRecDepth 100000 in
theorem walked_any (D : Nat) (n : Nd) (w : World) (hL : LiesD D w n) (hR : RoomD D n) (hT : Lib.Utf8Tabs 1 2 w) :
    Calls Tryz.prog 12 #[n.val] w (SomeB (WalkedP n) w) := by
  have hkw : (Lit.int .i64 n.kind).wf = true := by
    cases D with
    | zero => exact hL.elim
    | succ D =>
      have := hL.1.2.2.2.2.2
      simp [Lit.wf, IntKind.min, IntKind.max, IntKind.signed, IntKind.bits]
      omega
  have HOK := Lib.hid (fun hF hN hK => walkedP_of hL hR hF hN hK)
  obtain ⟨k, t, m, u, ao, cap, kids⟩ := n
  have HKW := Lib.hid (show (Lit.int .i64 k).wf = true from hkw)
  have HL := Lib.hid hL
  have HT := Lib.hid hT
  clear hL hT hkw hR
  show Calls _ _ #[.agg #[.int .i64 k, .string t, .string m, .int .u64 u, .slice ao kids.length cap]] w _
  by_cases h0 : k = 0
  · subst h0
    go_enter Tryz.func12, Tryz.ntmps12
    go_wp2_with fail
    go_ret
    exact ⟨_, rfl, (by intro h; cases h), (Below.refl _ _).alloc (Nat.le_refl _) _⟩
  by_cases h1 : k = 1
  · subst h1
    go_enter Tryz.func12, Tryz.ntmps12
    go_wp2_with fail
    go_ret
    exact ⟨_, rfl, (by intro h; cases h), (Below.refl _ _).alloc (Nat.le_refl _) _⟩
  have g0 : (k != 0) = true := by simpa using h0
  have g1 : (k != 1) = true := by simpa using h1
  clear h0 h1
  go_enter Tryz.func12, Tryz.ntmps12
  go_wp2_with fail
  refine (Fits_any D (.mk k t m u ao cap kids) _ (HL.out.below ((Below.refl _ _).alloc (Nat.le_refl _) _)) (tabs_below HT.out ((Below.refl _ _).alloc (Nat.le_refl _) _))).mono ?_
  rintro e w1 ⟨b1, rfl, hp1, hb1⟩
  obtain ⟨k0, -⟩ := bblk hb1 (b := w.heap.size) (by simp)
  have HP1 := Lib.hid hp1
  have HB1 := Lib.hid (((Below.refl w.heap.size w).alloc (Nat.le_refl _) _).trans (hb1.mono (by simp)))
  have hz1 : w.heap.size < w1.heap.size := by have := hb1.size; simp at this; omega
  clear hp1 hb1
  cases b1
  · go_wp2_with fail
    go_ret
    exact ⟨_, rfl, (by intro h; cases h), HB1.out⟩
  go_wp2_with fail
  refine (specName_any k _ HKW.out).mono ?_
  rintro e w2 ⟨rfl, hb2⟩
  obtain ⟨k1, -⟩ := bblk hb2 (b := w.heap.size) (by omega)
  have HB2 := Lib.hid (HB1.out.trans (hb2.mono HB1.out.size))
  have hz2 : w.heap.size < w2.heap.size := by have := hb2.size; omega
  clear hb2
  rcases nameOf_named k with hk | hk
  · have HK := Lib.hid hk
    clear hk
    have hne := named_ne k HK.out
    generalize nameOf k = nm at hne ⊢
    go_wp2_with fail
    refine (holds_all D (.mk k t m u ao cap kids) 13 (some ⟨w2.heap.size, 0, none⟩) 1 _ (HL.out.below (HB2.out.alloc (Nat.le_of_lt hz2) _)) (intsIn_new w2 [13] _ _)).mono ?_
    rintro e w3 ⟨b3, rfl, hp3, hb3⟩
    obtain ⟨k2, -⟩ := bblk hb3 (b := w.heap.size) (by simp; omega)
    have HP3 := Lib.hid hp3
    have HB3 := Lib.hid ((HB2.out.alloc (Nat.le_of_lt hz2) _).trans (hb3.mono (by simp; omega)))
    clear hp3 hb3
    cases b3
    · go_wp2_with fail
      refine (lits_all D (.mk k t m u ao cap kids) _ (HL.out.below HB3.out)).mono ?_
      rintro e w4 ⟨b4, rfl, -, hb4⟩
      have HB4 := Lib.hid (HB3.out.trans (hb4.mono HB3.out.size))
      clear hb4
      go_wp2_with fail
      go_ret
      exact ⟨_, rfl, fun _ => HOK.out (HP1.out (by first | rfl | trivial)) (HP3.out (by first | rfl | trivial)) HK.out, HB4.out⟩
    · go_wp2_with fail
      go_ret
      exact ⟨_, rfl, (by intro h; cases h), HB3.out⟩
  · rw [hk]
    go_wp2_with fail
    go_ret
    exact ⟨_, rfl, (by intro h; cases h), HB2.out⟩
end Go.Proofs.YtongafghllkomaaGreatDoor

namespace Go.Proofs.YtongafghllkomaaGreatDoor
open Go.RowKit
set_option linter.unusedVariables false

/-- Properties that have values, and keys each once. -/
def KeyedP (n : Nd) : Prop := ∀ (i : Nat) (p : Nd), 0 < i → n.kids[i]? = some p → (p.kid 1).kind ≠ 0 ∧ ∀ (j : Nat) (q : Nd), 0 < j → j < i → n.kids[j]? = some q → (q.kid 0).text ≠ (p.kid 0).text

def KeyOk (kids : List Nd) (i : Nat) (p : Nd) : Prop := (p.kid 1).kind ≠ 0 ∧ ∀ (j : Nat) (q : Nd), 0 < j → j < i → kids[j]? = some q → (q.kid 0).text ≠ (p.kid 0).text

theorem Below.drewN' {B : Nat} {w w' : World} (h : Below B w w') (n : Nat) : Below B w (w'.drewN n) := by
  induction n with
  | zero => exact h
  | succ n ih => exact ih.drew

/-- The form of an object: something ahead, then properties of two kids. -/
theorem props_of {d : Nat} {n : Nd} (hG : GoodD d n) (hk : n.kind = 28) : 0 < n.kids.length ∧ n.kids.length ≤ 1001 ∧ ∀ (i : Nat) (p : Nd), 0 < i → n.kids[i]? = some p → p.kind = 29 ∧ ∃ x y, p.kids = [x, y] := by
  obtain ⟨e, rfl⟩ := hG.pre.pos
  have hP := hG.pre
  have hn0 : n.kind ≠ 0 := by omega
  have hn1 : n.kind ≠ 1 := by omega
  have hl := ((hP.fit hn0).2.2.2.1 hn1).1
  rw [hk, show (fixedL 28).length = 1 from by decide] at hl
  refine ⟨by omega, by have := hP.small; omega, fun i p hi hp => ?_⟩
  obtain ⟨hPp, hC⟩ := hP.kid (i := i) (x := p) hn0 hp
  have hC1 := hC hn1
  rw [hk] at hC1
  have e1 : (fixedL 28).getD i (restL 28) = restL 28 := by
    obtain ⟨j, rfl⟩ : ∃ j, i = j + 1 := ⟨i - 1, by omega⟩
    rw [show fixedL 28 = [4] from by decide]; simp
  rw [e1] at hC1
  have hkx : p.kind = 29 := by have := class_few [29] rfl hC1; simpa using this
  refine ⟨hkx, ?_⟩
  obtain ⟨f, rfl⟩ := hPp.pos
  have h1 := ((hPp.fit (by omega)).2.2.2.1 (by omega))
  rw [hkx, show (fixedL 29).length = 2 from by decide, show restL 29 = 28 from by decide] at h1
  exact kids2 (n := p) (by omega)

theorem keyable_of {d : Nat} {n : Nd} (hG : GoodD d n) (hk : n.kind = 28) : Keyable n := by
  intro i p hi hp
  obtain ⟨-, x, y, e⟩ := (props_of hG hk).2.2 i p hi hp
  exact ⟨x, by rw [e]; rfl⟩

set_option maxRecDepth 100000 in
theorem keyed_any (D : Nat) (n : Nd) (key : ByteArray) (w : World) (hL : LiesD D w n) (hR : RoomD D n) (hs : key.size ≤ 2147483647) (hT : Lib.Utf8Tabs 1 2 w) :
    Calls Tryz.prog 27 #[n.val, .string key] w (SomeB (WalkedP n ∧ n.kind = 28 ∧ KeyedP n) w) := by
  obtain ⟨D, rfl⟩ : ∃ E, D = E + 1 := by cases D with | zero => exact hL.elim | succ E => exact ⟨E, rfl⟩
  have HR := Lib.hid hR
  obtain ⟨k, t, m, u, no, ncap, kids⟩ := n
  obtain ⟨len, hlen⟩ : ∃ len, kids.length = len := ⟨_, rfl⟩
  have HN := Lib.hid hlen
  have HL := Lib.hid hL
  have HT := Lib.hid hT
  obtain ⟨ks, hks⟩ : ∃ ks, key.size = ks := ⟨_, rfl⟩
  have HS := Lib.hid hs
  show Calls _ _ #[.agg #[.int .i64 k, .string t, .string m, .int .u64 u, .slice no kids.length ncap], _] w _
  have HV : Hid (∀ w, Below w.heap.size w w → True) := Lib.hid (fun _ _ => trivial)
  clear hlen hL hT hR hs hks HV
  have HW := Lib.hid (show ∀ w', Below w.heap.size w w' → Calls Tryz.prog 12 #[.agg #[.int .i64 k, .string t, .string m, .int .u64 u, .slice no len ncap]] w' (SomeB (WalkedP (.mk k t m u no ncap kids)) w') from fun w' hb => by
    have h : Calls Tryz.prog 12 #[.agg #[.int .i64 k, .string t, .string m, .int .u64 u, .slice no kids.length ncap]] w' (SomeB (WalkedP (.mk k t m u no ncap kids)) w') := walked_any (D + 1) (.mk k t m u no ncap kids) w' (HL.out.below hb) HR.out (tabs_below HT.out hb)
    rw [HN.out] at h
    exact h)
  rw [show kids.length = len from HN.out]
  by_cases hk : k = 28
  · subst hk
    go_enter Tryz.func27, Tryz.ntmps27
    go_wp2_with fail
    refine (HW.out _ ((Below.refl _ _).alloc (Nat.le_refl _) _)).mono ?_
    rintro e w1 ⟨b1, rfl, hp1, hb1⟩
    obtain ⟨k0, -⟩ := bblk hb1 (b := w.heap.size) (by simp)
    have HB1 := Lib.hid (((Below.refl w.heap.size w).alloc (Nat.le_refl _) _).trans (hb1.mono (by simp)))
    have HZ1 := Lib.hid hb1
    have HP1 := Lib.hid hp1
    have hz1 : w.heap.size < w1.heap.size := by have := hb1.size; simp at this; omega
    clear hp1 hb1
    cases b1
    · go_wp2_with fail
      go_ret
      exact ⟨_, rfl, (by intro h; cases h), HB1.out⟩
    go_wp2_with fail
    refine (name_some key _ HS.out (tabs_below HT.out HB1.out)).mono ?_
    rintro e w2 ⟨b2, rfl, hb2⟩
    obtain ⟨k1, -⟩ := bblk hb2 (b := w.heap.size) hz1
    have HB2 := Lib.hid (HB1.out.trans (hb2.mono HB1.out.size))
    have HZ2 := Lib.hid (HZ1.out.trans (hb2.mono HZ1.out.size))
    have hz2 : w.heap.size < w2.heap.size := by have := hb2.size; omega
    clear hb2
    cases b2
    · go_wp2_with fail
      go_ret
      exact ⟨_, rfl, (by intro h; cases h), HB2.out⟩
    have HWp := Lib.hid (HP1.out (by first | rfl | trivial))
    obtain ⟨hl0, hl1, hpr⟩ := props_of HWp.out.1 rfl
    have HPR := Lib.hid hpr
    have hlc : kids.length ≤ ncap := HR.out.1
    simp only [Nd.kids] at hl0 hl1
    obtain ⟨x0, hx0⟩ : ∃ x, kids[0]? = some x := ⟨kids[0]'hl0, List.getElem?_eq_getElem _⟩
    obtain ⟨b, o, hao, -⟩ := kid_cells HL.out hx0 (Below.refl _ _)
    obtain rfl : no = some ⟨b, o, none⟩ := hao
    rw [HN.out] at hl0 hl1 hlc
    clear hpr hx0 HP1
    have hl2 : len ≤ 1001 := hl1
    by_cases hone : len = 1
    · by_cases hcap : ncap = 1
      · subst hone hcap
        go_wp2_with fail
        go_loopg [26] 0 (fun gk i wr => gk = 0 ∧ i = .int .i64 0 ∧ Hid (Below w.heap.size w wr))
        case atStart => exact ⟨rfl, rfl, HB2⟩
        case round =>
          obtain ⟨rfl, rfl, hB⟩ := hrel
          go_wp2_with fail
          go_ret
          refine ⟨_, rfl, fun _ => ⟨HWp.out, rfl, fun i p hi hp => ?_⟩, hB.out⟩
          have h1 := HN.out
          have h2 := (List.getElem?_eq_some_iff.1 hp).1
          simp only [Nd.kids] at h2
          omega
      · subst hone
        go_wp2_with fail
        go_loopg [26] 0 (fun gk i wr => gk = 0 ∧ i = .int .i64 0 ∧ Hid (Below w.heap.size w wr))
        case atStart => exact ⟨rfl, rfl, HB2⟩
        case round =>
          obtain ⟨rfl, rfl, hB⟩ := hrel
          go_wp2_with fail
          go_ret
          refine ⟨_, rfl, fun _ => ⟨HWp.out, rfl, fun i p hi hp => ?_⟩, hB.out⟩
          have h1 := HN.out
          have h2 := (List.getElem?_eq_some_iff.1 hp).1
          simp only [Nd.kids] at h2
          omega
    · have hcap : ¬ ncap = 1 := by omega
      have hle : 1 ≤ len := by omega
      have HL1 := Lib.hid (show len ≤ ncap ∧ len ≤ 1001 from ⟨hlc, hl2⟩)
      go_wp2_with fail
      obtain ⟨l1, hl1e⟩ : ∃ l1, len - 1 = l1 := ⟨_, rfl⟩
      rw [hl1e]
      have hl3 : l1 + 1 ≤ len := by omega
      have hl4 : len ≤ l1 + 1 := by omega
      clear hl1e
      go_loopg [26] l1 (fun gk i wr => ∃ (j : Nat), j ≤ l1 ∧ gk = l1 - j ∧ i = .int .i64 (j : Int) ∧ Hid (∀ (i : Nat) (p : Nd), 0 < i → i < j + 1 → kids[i]? = some p → KeyOk kids i p) ∧ Hid (Below (w.alloc (.cells #[.int .i64 28, .string t, .string m, .int .u64 u, .slice (some ⟨b, o, none⟩) len ncap] 25)).heap.size (w.alloc (.cells #[.int .i64 28, .string t, .string m, .int .u64 u, .slice (some ⟨b, o, none⟩) len ncap] 25)) wr))
      case atStart => exact ⟨0, by omega, by omega, rfl, Lib.hid (fun i p h h2 => absurd h2 (by omega)), HZ2⟩
      case round =>
        obtain ⟨j, hj, rfl, rfl, hD, hB⟩ := hrel
        have HB := Lib.hid (((Below.refl w.heap.size w).alloc (Nat.le_refl _) (.cells #[.int .i64 28, .string t, .string m, .int .u64 u, .slice (some ⟨b, o, none⟩) len ncap] 25)).trans (hB.out.mono (by simp)))
        obtain ⟨kr, -⟩ := bblk hB.out (b := w.heap.size) (by simp)
        have hzr : w.heap.size < wr.heap.size := by have := hB.out.size; simp at this; omega
        by_cases hjn : j < l1
        · have hjz : (j : Int) < (l1 : Int) := by omega
          obtain ⟨x, hx⟩ : ∃ x, kids[j + 1]? = some x := ⟨kids[j + 1]'(by have := HN.out; omega), List.getElem?_eq_getElem _⟩
          obtain ⟨hkx, y0, y1, hxk⟩ := HPR.out (j + 1) x (by omega) hx
          obtain ⟨_, _, hao, c0, c1, c2, c3, c4, hLx⟩ := kid_cells HL.out hx HB.out
          cases hao
          rw [show o + (j + 1) * 5 = o + 5 + j * 5 by omega] at c0 c1 c2 c3 c4
          cases D with
          | zero => exact hLx.elim
          | succ D =>
          obtain ⟨k2, t2, m2, u2, ao2, cap2, kids2⟩ := x
          simp only [Nd.kids] at hxk
          subst hxk
          simp only [Nd.kind, Nd.text, Nd.more, Nd.num, Nd.ao, Nd.kids, Nd.cap, List.length_cons, List.length_nil, Nat.zero_add, Nat.reduceAdd] at c0 c1 c2 c3 c4 hkx
          subst hkx
          obtain ⟨b2, o2, hao2, -, d1, -⟩ := kid_cells hLx (j := 0) rfl ((Below.refl _ _).alloc (Nat.le_refl _) (.cells #[.int .i64 29, .string t2, .string m2, .int .u64 u2, .slice ao2 2 cap2] 25))
          obtain ⟨_, _, hao3, e0, -⟩ := kid_cells hLx (j := 1) rfl ((Below.refl _ _).alloc (Nat.le_refl _) (.cells #[.int .i64 29, .string t2, .string m2, .int .u64 u2, .slice ao2 2 cap2] 25))
          obtain rfl : ao2 = some ⟨b2, o2, none⟩ := hao2
          cases hao3
          simp only [Nat.zero_mul, Nat.one_mul, Nat.add_zero] at d1 e0
          have HX := Lib.hid hx
          have HLX := Lib.hid hLx
          clear hx hLx
          by_cases hy : y1.kind = 0
          · rw [hy] at e0
            have HY := Lib.hid hy
            clear hy
            go_wp2_with fail
            go_ret
            exact ⟨_, rfl, (by intro h; cases h), HB.out.alloc HB.out.size _⟩
          · have hy2 : (y1.kind == 0) = false := by simpa using hy
            have HY := Lib.hid hy
            clear hy
            go_wp2_with fail
            obtain ⟨wo, hwo⟩ : ∃ wo, wo = wr := ⟨_, rfl⟩
            subst hwo
            go_loopg [43] j (fun gk i wr => ∃ (jj : Nat), jj ≤ j ∧ gk = j - jj ∧ i = .int .i64 (jj : Int) ∧ Hid (∀ (i : Nat) (q : Nd), 0 < i → i < jj + 1 → kids[i]? = some q → (q.kid 0).text ≠ y0.text) ∧ Hid (Below (wo.alloc (.cells #[.int .i64 29, .string t2, .string m2, .int .u64 u2, .slice (some ⟨b2, o2, none⟩) 2 cap2] 25)).heap.size (wo.alloc (.cells #[.int .i64 29, .string t2, .string m2, .int .u64 u2, .slice (some ⟨b2, o2, none⟩) 2 cap2] 25)) wr))
            case atStart => exact ⟨0, by omega, by omega, rfl, Lib.hid (fun i q h h2 => absurd h2 (by omega)), Lib.hid (Below.refl _ _)⟩
            case round =>
              obtain ⟨jj, hjj, rfl, rfl, hE, hC⟩ := hrel
              have HCr := Lib.hid (show Below wo.heap.size wo wr from ((Below.refl wo.heap.size wo).alloc (Nat.le_refl _) (.cells #[.int .i64 29, .string t2, .string m2, .int .u64 u2, .slice (some ⟨b2, o2, none⟩) 2 cap2] 25)).trans (hC.out.mono (by simp only [World.size_alloc]; omega)))
              have HBs := Lib.hid (HB.out.trans (HCr.out.mono HB.out.size))
              obtain ⟨kp, -⟩ := bblk hC.out (b := wo.heap.size) (by simp)
              have hzs : wo.heap.size < wr.heap.size := by have := hC.out.size; simp at this; omega
              by_cases hjjn : jj < j
              · have hjjz : (jj : Int) < (j : Int) := by omega
                obtain ⟨q, hq⟩ : ∃ q, kids[jj + 1]? = some q := ⟨kids[jj + 1]'(by have := HN.out; omega), List.getElem?_eq_getElem _⟩
                obtain ⟨hkq, z0, z1, hqk⟩ := HPR.out (jj + 1) q (by omega) hq
                obtain ⟨_, _, hao, f0, f1, f2, f3, f4, hLq⟩ := kid_cells HL.out hq HBs.out
                cases hao
                rw [show o + (jj + 1) * 5 = o + 5 + jj * 5 by omega] at f0 f1 f2 f3 f4
                obtain ⟨k3, t3, m3, u3, ao3, cap3, kids3⟩ := q
                simp only [Nd.kids] at hqk
                subst hqk
                simp only [Nd.kind, Nd.text, Nd.more, Nd.num, Nd.ao, Nd.kids, Nd.cap, List.length_cons, List.length_nil, Nat.zero_add, Nat.reduceAdd] at f0 f1 f2 f3 f4 hkq
                subst hkq
                obtain ⟨b3, o3, hao4, -, g1, -⟩ := kid_cells hLq (j := 0) rfl ((Below.refl _ _).alloc (Nat.le_refl _) (.cells #[.int .i64 29, .string t3, .string m3, .int .u64 u3, .slice ao3 2 cap3] 25))
                obtain rfl : ao3 = some ⟨b3, o3, none⟩ := hao4
                obtain ⟨_, _, hao5, -, d1s, -⟩ := kid_cells HLX.out (j := 0) rfl (HCr.out.alloc HCr.out.size (.cells #[.int .i64 29, .string t3, .string m3, .int .u64 u3, .slice (some ⟨b3, o3, none⟩) 2 cap3] 25))
                cases hao5
                simp only [Nat.zero_mul, Nat.add_zero] at g1 d1s
                have HQ := Lib.hid hq
                clear hq hLq d1 e0
                by_cases he : y0.text.toList = z0.text.toList
                · have he2 : (y0.text.toList == z0.text.toList) = true := by simpa using he
                  clear he
                  go_wp2_with fail
                  go_quiet (fail)
                  go_wp2_with fail
                  go_ret
                  exact ⟨_, rfl, (by intro h; cases h), Below.drewN' (HBs.out.alloc HBs.out.size _) _⟩
                · have he2 : (y0.text.toList == z0.text.toList) = false := by simpa using he
                  have HE := Lib.hid he
                  clear he
                  go_wp2_with fail
                  go_quiet (fail)
                  go_wp2_with fail
                  go_roundg (j - (jj + 1))
                  case measure => omega
                  case rel =>
                    refine ⟨jj + 1, by omega, rfl, by push_cast; rfl, Lib.hid (fun i q h h2 hq => ?_), Lib.hid (Below.drewN' (hC.out.alloc hC.out.size _) _)⟩
                    by_cases e : i = jj + 1
                    · subst e
                      rw [HQ.out] at hq
                      cases hq
                      intro e
                      exact HE.out (by rw [← e]; rfl)
                    · exact hE.out i q h (by omega) hq
              · have hjjz : ¬ (jj : Int) < (j : Int) := by omega
                obtain rfl : jj = j := by omega
                go_wp2_with fail
                go_roundg (l1 - (jj + 1))
                case measure => omega
                case rel =>
                  refine ⟨jj + 1, by omega, rfl, by push_cast; rfl, Lib.hid (fun i p h h2 hp => ?_), Lib.hid (hB.out.trans (HCr.out.mono hB.out.size))⟩
                  by_cases e : i = jj + 1
                  · subst e
                    rw [HX.out] at hp
                    cases hp
                    exact ⟨HY.out, fun i q hi h3 hq => hE.out i q hi (by omega) hq⟩
                  · exact hD.out i p h (by omega) hp
        · have hjz : ¬ (j : Int) < (l1 : Int) := by omega
          obtain rfl : j = l1 := by omega
          go_wp2_with fail
          go_ret
          refine ⟨_, rfl, fun _ => ⟨HWp.out, rfl, fun i p hi hp => hD.out i p hi (by have := HN.out; have := (List.getElem?_eq_some_iff.1 hp).1; simp only [Nd.kids] at this; omega) hp⟩, HB.out⟩
  · have g0 : (k != 28) = true := by simpa using hk
    clear hk
    go_enter Tryz.func27, Tryz.ntmps27
    go_wp2_with fail
    refine (HW.out _ ((Below.refl _ _).alloc (Nat.le_refl _) _)).mono ?_
    rintro e w1 ⟨b1, rfl, hp1, hb1⟩
    obtain ⟨k0, -⟩ := bblk hb1 (b := w.heap.size) (by simp)
    have HB1 := Lib.hid (((Below.refl w.heap.size w).alloc (Nat.le_refl _) _).trans (hb1.mono (by simp)))
    clear hp1 hb1
    cases b1
    · go_wp2_with fail
      go_ret
      exact ⟨_, rfl, (by intro h; cases h), HB1.out⟩
    · go_wp2_with fail
      go_ret
      exact ⟨_, rfl, (by intro h; cases h), HB1.out⟩
end Go.Proofs.YtongafghllkomaaGreatDoor

namespace Go.Proofs.YtongafghllkomaaGreatDoor
open Go.RowKit
set_option linter.unusedVariables false

theorem newError (s : ByteArray) (w : World) : Calls Tryz.prog 115 #[.string s] w fun e w' => ∃ T p, e = .returned (.iface T p) ∧ Below w.heap.size w w' := by
  go_enter Tryz.func115, Tryz.ntmps115
  go_wp2_with fail
  go_ret
  exact ⟨_, _, rfl, (Below.refl _ _).alloc (Nat.le_refl _) _⟩

theorem tree_any (k : Int) (t : ByteArray) (ao : Option Addr) (l cap : Nat) (w : World) : Calls Tryz.prog 49 #[.int .i64 k, .string t, .slice ao l cap] w fun e w' => e = .returned (.agg #[.int .i64 k, .string t, .string ⟨#[]⟩, .int .u64 0, .slice ao l cap]) ∧ Below w.heap.size w w' := by
  go_enter Tryz.func49, Tryz.ntmps49
  go_wp2_with fail
  exact bodyPost_ret (v := .agg #[.int .i64 k, .string t, .string ⟨#[]⟩, .int .u64 0, .slice ao l cap]) (by simp [results, Tryz.f49, go_sem]) rfl ⟨rfl, (Below.refl _ _).alloc (Nat.le_refl _) _⟩
end Go.Proofs.YtongafghllkomaaGreatDoor

namespace Go.Proofs.YtongafghllkomaaGreatDoor
open Go.RowKit
set_option linter.unusedVariables false

/-- A node whose kids have just been laid in a row. -/
theorem lies_row {A : Nat → Prop} {w : World} {D : Nat} {k : Int} {t mo : ByteArray} {u : Int} {cap : Nat} {ms : List Nd} {T : TypeId} (hwf : (Nd.mk k t mo u none cap ms).wf) (hA : A w.heap.size) (h : ∀ x ∈ ms, LiesIn A D w x) :
    LiesIn A (D + 1) (w.alloc (.cells (ms.flatMap Nd.cells5).toArray T)) (.mk k t mo u (some ⟨w.heap.size, 0, none⟩) cap ms) := by
  refine ⟨hwf, fun i x hx => ⟨⟨w.heap.size, 0, hA, rfl, row_cells (cap := ms.length) (j := ms.length) (heap_alloc_new _ _) ?_ hx⟩, (h x (List.mem_of_getElem? hx)).below ((Below.refl _ _).alloc (Nat.le_refl _) _)⟩⟩
  have hl := cells5_len ms
  show List.take (ms.length * 5) (ms.flatMap Nd.cells5) = ms.flatMap Nd.cells5
  rw [List.take_of_length_le (by omega)]

/-- Five stores into another block. -/
theorem LiesIn.store5 {B c D : Nat} {W : World} {n : Nd} (h : LiesIn (From B) D W n) (hc : c < B) (v0 v1 v2 v3 v4 : Value) :
    LiesIn (From B) D (((((W.setCell ⟨c, 0, none⟩ v0).setCell ⟨c, 1, none⟩ v1).setCell ⟨c, 2, none⟩ v2).setCell ⟨c, 3, none⟩ v3).setCell ⟨c, 4, none⟩ v4) n := by
  refine h.carry fun b o hA ho => ⟨?_, hA⟩
  have hne : b ≠ c := fun e => by unfold From at hA; omega
  have hst : ∀ (X : World) (j : Nat) (v : Value), (X.setCell ⟨c, j, none⟩ v).heap[b]? = X.heap[b]? := fun X j v => Below.heap_setCell _ _ _ _ hne
  rw [hst, hst, hst, hst, hst]
  exact ho

def leafN (k : Int) (t : ByteArray) : Nd := .mk k t ⟨#[]⟩ 0 none 0 []
def propN (ao : Option Addr) : Nd := .mk 29 ⟨#[]⟩ ⟨#[]⟩ 0 ao 2 [leafN 33 ⟨#[97]⟩, fiveN]
def objN (ao ao2 : Option Addr) : Nd := .mk 28 ⟨#[]⟩ ⟨#[]⟩ 0 ao 2 [Nd.none, propN ao2]

theorem leaf_lies (A : Nat → Prop) (k : Int) (t : ByteArray) (w : World) (hk : -9223372036854775808 ≤ k ∧ k ≤ 9223372036854775807) (ht : t.size ≤ maxLen) : LiesIn A 1 w (leafN k t) :=
  ⟨⟨ht, by show (⟨#[]⟩ : ByteArray).size ≤ maxLen; decide, by show 0 ≤ maxLen; decide, by show (0 : Int) ≤ 0; decide, by show (0 : Int) < 18446744073709551616; decide, hk.1, hk.2⟩, fun i x hx => by have : ([] : List Nd)[i]? = some x := hx; simp at this⟩

theorem five_in (A : Nat → Prop) (w : World) : LiesIn A 1 w fiveN := ⟨⟨by decide, by decide, by decide, by decide, by decide, by decide, by decide⟩, fun i x hx => by have : ([] : List Nd)[i]? = some x := hx; simp at this⟩

theorem wf_plain {k : Int} {ao : Option Addr} {c : Nat} {ms : List Nd} (hk : -9223372036854775808 ≤ k ∧ k ≤ 9223372036854775807) (hm : ms.length ≤ maxLen) : (Nd.mk k ⟨#[]⟩ ⟨#[]⟩ 0 ao c ms).wf :=
  ⟨by show (⟨#[]⟩ : ByteArray).size ≤ maxLen; decide, by show (⟨#[]⟩ : ByteArray).size ≤ maxLen; decide, hm, by show (0 : Int) ≤ 0; decide, by show (0 : Int) < 18446744073709551616; decide, hk.1, hk.2⟩

theorem nil_at {i : Nat} {x : Nd} {p : Prop} (h : ([] : List Nd)[i]? = some x) : p := by simp at h

theorem at2 {a b x : Nd} {i : Nat} (h : [a, b][i]? = some x) : (i = 0 ∧ x = a) ∨ (i = 1 ∧ x = b) := by
  match i, h with
  | 0, h => exact Or.inl ⟨rfl, by simpa using h.symm⟩
  | 1, h => exact Or.inr ⟨rfl, by simpa using h.symm⟩
  | n + 2, h => simp at h

theorem plain_of {k : Int} {ao : Option Addr} {c : Nat} {l : List Nd} (h0 : hasText k = false ∨ True) (h1 : k ∉ [(21 : Int), 22, 23, 40]) : PlainP (.mk k ⟨#[]⟩ ⟨#[]⟩ 0 ao c l) := by
  simp only [List.mem_cons, List.not_mem_nil, or_false, not_or] at h1
  refine ⟨fun _ => rfl, fun _ => rfl, fun _ _ => rfl, by show (⟨#[]⟩ : ByteArray).size ≤ 300; decide, by show (⟨#[]⟩ : ByteArray).size ≤ 300; decide, fun h => absurd h h1.1, fun h => absurd h h1.2.1, fun h => absurd h h1.2.2.1, fun _ => by show (0 : Int) ≤ 1; decide, fun _ => by show (0 : Int) ≤ 2; decide, fun h => absurd h h1.2.2.2⟩

theorem ident_plain (t : ByteArray) (ht : t.size ≤ 300) : PlainP (leafN 33 t) := by
  refine ⟨fun h => absurd (show hasText 33 = false from h) (by decide), fun _ => rfl, fun _ _ => rfl, ht, by show (⟨#[]⟩ : ByteArray).size ≤ 300; decide, fun h => ?_, fun h => ?_, fun h => ?_, fun h => ?_, fun h => ?_, fun h => ?_⟩
  · exact absurd (show (33 : Int) = 21 from h) (by decide)
  · exact absurd (show (33 : Int) = 22 from h) (by decide)
  · exact absurd (show (33 : Int) = 23 from h) (by decide)
  · exact absurd (show (33 : Int) = 35 from h) (by decide)
  · exact absurd (show (33 : Int) = 52 from h) (by decide)
  · exact absurd (show (33 : Int) = 40 from h) (by decide)

theorem ident_fit (d : Nat) (t : ByteArray) (ht : t.size ≤ 300) : FitP (d + 1) (leafN 33 t) :=
  Or.inr ⟨by show (0 : Int) < 33; decide, by show (33 : Int) < 54; decide, ident_plain t ht, fun _ => ⟨by show (fixedL 33).length ≤ 0; decide, Or.inl (by show 0 ≤ _; omega)⟩, fun i x hx => nil_at hx, fun h => absurd (show (33 : Int) = 27 from h) (by decide)⟩

theorem five_fit (d : Nat) : FitP (d + 1) fiveN :=
  Or.inr ⟨by decide, by decide, five_plain, fun _ => ⟨by decide, Or.inl (by decide)⟩, fun i x hx => nil_at hx, fun h => absurd h (by decide)⟩

theorem prop_fit (d : Nat) (ao : Option Addr) : FitP (d + 2) (propN ao) := by
  refine Or.inr ⟨by show (0 : Int) < 29; decide, by show (29 : Int) < 54; decide, plain_of (Or.inr trivial) (by decide), fun _ => ⟨by show (fixedL 29).length ≤ 2; decide, Or.inl (by show 2 ≤ (fixedL 29).length; decide)⟩, fun i x hx => ?_, fun h => absurd h (by show (29 : Int) ≠ 27; decide)⟩
  rcases at2 hx with ⟨rfl, rfl⟩ | ⟨rfl, rfl⟩
  · exact ⟨fun _ => by show ofClassB (leafN 33 ⟨#[97]⟩) ((fixedL 29).getD 0 (restL 29)) = true; decide, ident_fit d _ (by decide)⟩
  · exact ⟨fun _ => by show ofClassB fiveN ((fixedL 29).getD 1 (restL 29)) = true; decide, five_fit d⟩

theorem none_fit (d : Nat) : FitP (d + 1) Nd.none := Or.inl ⟨rfl, rfl, rfl, rfl, rfl⟩

theorem obj_fit (d : Nat) (ao ao2 : Option Addr) : FitP (d + 3) (objN ao ao2) := by
  refine Or.inr ⟨by show (0 : Int) < 28; decide, by show (28 : Int) < 54; decide, plain_of (Or.inr trivial) (by decide), fun _ => ⟨by show (fixedL 28).length ≤ 2; decide, Or.inr (by show restL 28 ≠ 28; decide)⟩, fun i x hx => ?_, fun h => absurd h (by show (28 : Int) ≠ 27; decide)⟩
  rcases at2 hx with ⟨rfl, rfl⟩ | ⟨rfl, rfl⟩
  · exact ⟨fun _ => by show ofClassB Nd.none ((fixedL 28).getD 0 (restL 28)) = true; decide, none_fit _⟩
  · exact ⟨fun _ => by show ofClassB (Nd.mk 29 ⟨#[]⟩ ⟨#[]⟩ 0 ao2 2 [leafN 33 ⟨#[97]⟩, fiveN]) ((fixedL 28).getD 1 (restL 28)) = true; rw [show (fixedL 28).getD 1 (restL 28) = 21 from by decide]; rfl, prop_fit d ao2⟩

theorem leaf_none (d : Nat) (k : Int) (t : ByteArray) (z : Int) (h : k ≠ z) : NoneD d (leafN k t) z := by
  cases d with
  | zero => exact trivial
  | succ d => exact ⟨h, fun i x hx => nil_at hx⟩
theorem leaf_small (d : Nat) (k : Int) (t : ByteArray) : SmallD d (leafN k t) := by
  cases d with
  | zero => exact trivial
  | succ d => exact ⟨⟨by show 0 ≤ 400; decide, Nat.le_refl 0⟩, fun i x hx => nil_at hx⟩
theorem five_none (d : Nat) : NoneD d fiveN 13 := by
  cases d with
  | zero => exact trivial
  | succ d => exact ⟨by decide, fun i x hx => nil_at hx⟩
theorem five_small (d : Nat) : SmallD d fiveN := by
  cases d with
  | zero => exact trivial
  | succ d => exact ⟨⟨by decide, by decide⟩, fun i x hx => nil_at hx⟩

theorem prop_none (d : Nat) (ao : Option Addr) : NoneD d (propN ao) 13 := by
  cases d with
  | zero => exact trivial
  | succ d =>
    refine ⟨by show (29 : Int) ≠ 13; decide, fun i x hx => ?_⟩
    rcases at2 hx with ⟨rfl, rfl⟩ | ⟨rfl, rfl⟩
    · exact leaf_none d _ _ _ (by decide)
    · exact five_none d
theorem prop_small (d : Nat) (ao : Option Addr) : SmallD d (propN ao) := by
  cases d with
  | zero => exact trivial
  | succ d =>
    refine ⟨⟨by show 2 ≤ 400; decide, Nat.le_refl 2⟩, fun i x hx => ?_⟩
    rcases at2 hx with ⟨rfl, rfl⟩ | ⟨rfl, rfl⟩
    · exact leaf_small d _ _
    · exact five_small d

theorem obj_good (ao ao2 : Option Addr) : GoodD 12 (objN ao ao2) := by
  refine ⟨obj_fit 9 ao ao2, ⟨by show (28 : Int) ≠ 13; decide, fun i x hx => ?_⟩, ⟨⟨by show 2 ≤ 400; decide, Nat.le_refl 2⟩, fun i x hx => ?_⟩, by show (28 : Int) ∈ walkL; decide⟩
  · rcases at2 hx with ⟨rfl, rfl⟩ | ⟨rfl, rfl⟩
    · exact leaf_none 11 0 ⟨#[]⟩ 13 (by decide)
    · exact prop_none 11 ao2
  · rcases at2 hx with ⟨rfl, rfl⟩ | ⟨rfl, rfl⟩
    · exact leaf_small 11 0 ⟨#[]⟩
    · exact prop_small 11 ao2

/-- What anObject hands back. -/
def ObjPost (w : World) (e : Ending) (w' : World) : Prop := ∃ ao ao2, e = .returned (.agg #[.int .i64 28, .string ⟨#[]⟩, .string ⟨#[]⟩, .int .u64 0, .slice ao 2 2]) ∧ LiesD 3 w' (objN ao ao2) ∧ Below w.heap.size w w'

theorem anObject_any (w : World) : Calls Tryz.prog 26 #[] w (ObjPost w) := by
  go_enter Tryz.func26, Tryz.ntmps26
  go_wp2_with fail
  refine (tree_any 33 ⟨#[97]⟩ none 0 0 _).mono ?_
  rintro e w1 ⟨rfl, hb1⟩
  have HZ1 := Lib.hid hb1
  have hz1 : w.heap.size < w1.heap.size := by have := hb1.size; simp at this; omega
  clear hb1
  go_wp2_with fail
  refine (five_any _).mono ?_
  rintro e w2 ⟨rfl, hb2⟩
  have HZ2 := Lib.hid (HZ1.out.trans (hb2.mono HZ1.out.size))
  have hz2 : w.heap.size < w2.heap.size := by have := hb2.size; omega
  clear hb2
  unfold fiveN Nd.val
  simp only [Nd.kind, Nd.text, Nd.more, Nd.num, Nd.ao, Nd.kids, Nd.cap, List.length_nil]
  go_wp2_with fail
  refine (tree_any 29 ⟨#[]⟩ (some ⟨w2.heap.size, 0, none⟩) 2 2 _).mono ?_
  rintro e w3 ⟨rfl, hb3⟩
  have HP3 := Lib.hid (LiesIn.below (lies_row (A := From (w.heap.size + 1)) (w := w2) (D := 1) (k := 29) (t := ⟨#[]⟩) (mo := ⟨#[]⟩) (u := 0) (cap := 2) (ms := [leafN 33 ⟨#[97]⟩, fiveN]) (T := 25) (wf_plain (by decide) (by show 2 ≤ maxLen; decide)) (by unfold From; omega) (fun x hx => by
    simp only [List.mem_cons, List.not_mem_nil, or_false] at hx
    rcases hx with rfl | rfl
    · exact leaf_lies _ 33 ⟨#[97]⟩ w2 (by decide) (by decide)
    · exact five_in _ w2)) hb3)
  have HZ3 := Lib.hid ((HZ2.out.alloc HZ2.out.size (.cells #[.int .i64 33, .string ⟨#[97]⟩, .string ⟨#[]⟩, .int .u64 0, .slice none 0 0, .int .i64 36, .string ⟨#[]⟩, .string ⟨#[]⟩, .int .u64 5, .slice none 0 0] 25)).trans (hb3.mono (by simp; omega)))
  have hz3 : w.heap.size < w3.heap.size := by have := hb3.size; simp at this; omega
  clear hb3
  go_wp2_with fail
  refine (tree_any 28 ⟨#[]⟩ (some ⟨w3.heap.size, 0, none⟩) 2 2 _).mono ?_
  rintro e w4 ⟨rfl, hb4⟩
  have HO4 := Lib.hid (LiesIn.below (lies_row (A := From (w.heap.size + 1)) (w := w3) (D := 2) (k := 28) (t := ⟨#[]⟩) (mo := ⟨#[]⟩) (u := 0) (cap := 2) (ms := [Nd.none, propN (some ⟨w2.heap.size, 0, none⟩)]) (T := 25) (wf_plain (by decide) (by show 2 ≤ maxLen; decide)) (by unfold From; omega) (fun x hx => by
    simp only [List.mem_cons, List.not_mem_nil, or_false] at hx
    rcases hx with rfl | rfl
    · exact (leaf_lies _ 0 ⟨#[]⟩ w3 (by decide) (by decide)).up (by omega)
    · exact HP3.out)) hb4)
  have HZ4 := Lib.hid ((HZ3.out.alloc HZ3.out.size (.cells #[.int .i64 0, .string ⟨#[]⟩, .string ⟨#[]⟩, .int .u64 0, .slice none 0 0, .int .i64 29, .string ⟨#[]⟩, .string ⟨#[]⟩, .int .u64 0, .slice (some ⟨w2.heap.size, 0, none⟩) 2 2] 25)).trans (hb4.mono (by simp; omega)))
  obtain ⟨k4, f4⟩ := bblk HZ4.out (b := w.heap.size) (by simp)
  have HB4 := Lib.hid (((Below.refl w.heap.size w).alloc (Nat.le_refl _) (.cells #[.int .i64 0, .string ⟨#[]⟩, .string ⟨#[]⟩, .int .u64 0, .slice none 0 0] 25)).trans (HZ4.out.mono (by simp)))
  clear hb4
  go_wp2_with fail
  refine bodyPost_ret (v := .agg #[.int .i64 28, .string ⟨#[]⟩, .string ⟨#[]⟩, .int .u64 0, .slice (some ⟨w3.heap.size, 0, none⟩) 2 2]) (by simp [results, Tryz.f26, go_sem, k4]) rfl ⟨some ⟨w3.heap.size, 0, none⟩, some ⟨w2.heap.size, 0, none⟩, rfl, ?_, ?_⟩
  · exact (HO4.out.store5 (by omega) _ _ _ _ _).lies
  · exact ((((HB4.out.setCell (p := ⟨w.heap.size, 0, none⟩) (by simp) _).setCell (p := ⟨w.heap.size, 1, none⟩) (by simp) _).setCell (p := ⟨w.heap.size, 2, none⟩) (by simp) _).setCell (p := ⟨w.heap.size, 3, none⟩) (by simp) _).setCell (p := ⟨w.heap.size, 4, none⟩) (by simp) _
end Go.Proofs.YtongafghllkomaaGreatDoor

namespace Go.Proofs.YtongafghllkomaaGreatDoor
open Go.RowKit
set_option linter.unusedVariables false

/-- What an object's properties are: a key (a name or a text) and a value. -/
def PropsP (n : Nd) : Prop := ∀ (i : Nat) (p : Nd), 0 < i → n.kids[i]? = some p → p.kind = 29 ∧ ∃ x y, p.kids = [x, y] ∧ (x.kind = 33 ∨ x.kind = 34) ∧ y.kind ≠ 0

/-- The property of a key at a place, none of its key ahead of it. -/
def FirstAt (n : Nd) (key : ByteArray) (j : Nat) (p x y : Nd) : Prop := 0 < j ∧ n.kids[j]? = some p ∧ p.kids = [x, y] ∧ x.text = key ∧ ∀ (i : Nat) (p x y : Nd), 0 < i → i < j → n.kids[i]? = some p → p.kids = [x, y] → x.text ≠ key
def NoAt (n : Nd) (key : ByteArray) : Prop := ∀ (i : Nat) (p x y : Nd), 0 < i → n.kids[i]? = some p → p.kids = [x, y] → x.text ≠ key

def keyMe (k : Int) : Nat := if k = 33 then 222 else 197

theorem text_cell {A : Nat → Prop} {d : Nat} {w : World} {n : Nd} {b : Nat} (hR : RepD A d w n b) (hk : n.kind = 33 ∨ n.kind = 34) : w.cell? ⟨b, 3, none⟩ = some (.string n.text) := by
  cases d with
  | zero => exact hR.elim
  | succ d =>
    obtain ⟨hA, cs, hb, hs⟩ := hR
    have e : slots n = [.lit (.pointer none), .lit (.slice none 0 0), .lit (.slice none 0 0), .lit (.string n.text)] := by
      rcases hk with h | h
      · exact slots_33 n h
      · exact slots_34 n h
    rw [e] at hs
    match cs, hs with
    | [v0, v1, v2, v3], ⟨e0, e1, e2, e3, _⟩ =>
      obtain rfl : v3 = .string n.text := e3
      rw [Lib.cell_of_heap hb]; rfl

theorem key_33 (s : ByteArray) (b : Nat) (w : World) (hc : w.cell? ⟨b, 3, none⟩ = some (.string s)) : Calls Tryz.prog 222 #[.pointer (some ⟨b, 0, none⟩)] w fun e w' => e = .returned (.string s) ∧ w = w' := by
  go_enter Tryz.func222, Tryz.ntmps222
  go_wp2_with fail
  go_ret
  exact ⟨rfl, rfl⟩
theorem key_34 (s : ByteArray) (b : Nat) (w : World) (hc : w.cell? ⟨b, 3, none⟩ = some (.string s)) : Calls Tryz.prog 197 #[.pointer (some ⟨b, 0, none⟩)] w fun e w' => e = .returned (.string s) ∧ w = w' := by
  go_enter Tryz.func197, Tryz.ntmps197
  go_wp2_with fail
  go_ret
  exact ⟨rfl, rfl⟩
theorem methKey_33 (b : Nat) (w : World) : Sem.run Tryz.prog (method 526 113 (.pointer (some ⟨b, 0, none⟩)) "Key") w = .ok (222, .pointer (some ⟨b, 0, none⟩)) w := by kernel_rfl
theorem entrKey_33 (b : Nat) (w : World) : Sem.run Tryz.prog (callFunc 222 #[.pointer (some ⟨b, 0, none⟩)]) w = .ok (.enter 222 #[.pointer (some ⟨b, 0, none⟩)]) w := by kernel_rfl
theorem methKey_34 (b : Nat) (w : World) : Sem.run Tryz.prog (method 526 65 (.pointer (some ⟨b, 0, none⟩)) "Key") w = .ok (197, .pointer (some ⟨b, 0, none⟩)) w := by kernel_rfl
theorem entrKey_34 (b : Nat) (w : World) : Sem.run Tryz.prog (callFunc 197 #[.pointer (some ⟨b, 0, none⟩)]) w = .ok (.enter 197 #[.pointer (some ⟨b, 0, none⟩)]) w := by kernel_rfl

/-- Which method is called, and what it answers. -/
theorem key_any (k : Int) (hk : k = 33 ∨ k = 34) (b : Nat) : (∀ w, Sem.run Tryz.prog (method 526 (pTy k) (.pointer (some ⟨b, 0, none⟩)) "Key") w = .ok (keyMe k, .pointer (some ⟨b, 0, none⟩)) w) ∧ (∀ w, Sem.run Tryz.prog (callFunc (keyMe k) #[.pointer (some ⟨b, 0, none⟩)]) w = .ok (.enter (keyMe k) #[.pointer (some ⟨b, 0, none⟩)]) w) ∧
    ∀ (s : ByteArray) (w : World), w.cell? ⟨b, 3, none⟩ = some (.string s) → Calls Tryz.prog (keyMe k) #[.pointer (some ⟨b, 0, none⟩)] w fun e w' => e = .returned (.string s) ∧ w = w' := by
  rcases hk with rfl | rfl
  · rw [show pTy 33 = 113 from ptrTy_33, show keyMe 33 = 222 from by decide]; exact ⟨methKey_33 b, entrKey_33 b, fun s w hc => key_33 s b w hc⟩
  · rw [show pTy 34 = 65 from ptrTy_34, show keyMe 34 = 197 from by decide]; exact ⟨methKey_34 b, entrKey_34 b, fun s w hc => key_34 s b w hc⟩

/-- A property's cells. -/
theorem prop_cells {A : Nat → Prop} {d : Nat} {w : World} {p x y : Nd} {b : Nat} (hR : RepD A (d + 1) w p b) (hk : p.kind = 29) (he : p.kids = [x, y]) (hy : y.kind ≠ 0) :
    (∃ bx, w.cell? ⟨b, 3, none⟩ = some (.iface (pTy x.kind) (.pointer (some ⟨bx, 0, none⟩))) ∧ RepD A d w x bx) ∧ ∃ b2, w.cell? ⟨b, 5, none⟩ = some (.iface (pTy y.kind) (.pointer (some ⟨b2, 0, none⟩))) ∧ RepD A d w y b2 := by
  obtain ⟨hA, cs, hb, hs⟩ := hR
  rw [slots_29 _ hk] at hs
  have e0 : p.kid 0 = x := by unfold Nd.kid; rw [he]; rfl
  have e1 : p.kid 1 = y := by unfold Nd.kid; rw [he]; rfl
  rw [e0, e1] at hs
  match cs, hs with
  | [v0, v1, v2, v3, v4, v5, v6], ⟨_, _, _, h3, _, h5, _, _⟩ =>
    obtain ⟨bx, rfl, hx⟩ := (show IfcTo (RepD A d) w x v3 from h3)
    have h5 := h5.resolve_left (fun h => hy h.1)
    obtain ⟨b2, rfl, h2⟩ := h5.2
    exact ⟨⟨bx, by rw [Lib.cell_of_heap hb]; rfl, hx⟩, b2, by rw [Lib.cell_of_heap hb]; rfl, h2⟩

/-- What is found among an object's properties. -/
def FoundPost (A : Nat → Prop) (d : Nat) (n : Nd) (key : ByteArray) (w : World) (e : Ending) (w' : World) : Prop :=
  ((∃ (j : Nat) (p x y : Nd) (b : Nat), FirstAt n key j p x y ∧ e = .returned (.tuple #[.iface (pTy y.kind) (.pointer (some ⟨b, 0, none⟩)), .nilIface]) ∧ RepD A d w y b) ∨
    (NoAt n key ∧ ∃ T p, e = .returned (.tuple #[.nilIface, .iface T p]))) ∧ Below w.heap.size w w'

set_option maxRecDepth 100000 in
theorem editGet (d : Nat) (A : Nat → Prop) (n : Nd) (b : Nat) (key : ByteArray) (w : World) (hR : RepD A (d + 2) w n b) (hk : n.kind = 28) (hn : 0 < n.kids.length) (hm : n.kids.length ≤ 1001) (hP : PropsP n) :
    Calls Tryz.prog 57 #[.pointer (some ⟨b, 0, none⟩), .string key] w (FoundPost A d n key w) := by
  obtain ⟨k, t, m, u, no, ncap, kids⟩ := n
  obtain rfl : k = 28 := hk
  obtain ⟨x0, ps, rfl⟩ : ∃ x0 ps, kids = x0 :: ps := by cases kids with | nil => exact absurd hn (by simp [Nd.kids]) | cons a l => exact ⟨a, l, rfl⟩
  obtain ⟨hA, cs, hb, hs⟩ := hR
  rw [slots_28 _ rfl] at hs
  match cs, hs with
  | [v0, v1, v2, v3, v4, v5, v6], ⟨e0, e1, e2, e3, e4, e5, e6, _⟩ =>
    obtain ⟨aoL, capL, rfl, hHL⟩ := HeldList.of (ptr := true) (R := RepD A (d + 1)) (ns := ps) (v := v5) (w := w) (A := A) e5
    have c5 : w.cell? ⟨b, 5, none⟩ = some (.slice aoL ps.length capL) := by rw [Lib.cell_of_heap hb]; rfl
    obtain ⟨len, hlen⟩ : ∃ len, ps.length = len := ⟨_, rfl⟩
    rw [hlen] at c5
    have hl3 : len ≤ 1000 := by simp [Nd.kids] at hm; omega
    have HN := Lib.hid hlen
    have HHL := Lib.hid hHL
    have HP := Lib.hid hP
    clear hlen hHL hP e0 e1 e2 e3 e4 e5 e6 hb hA hm hn
    go_enter Tryz.func57, Tryz.ntmps57
    go_wp2_with fail
    go_loopg [13] len (fun gk i wr => wr = w ∧ ∃ (j : Nat), j ≤ len ∧ gk = len - j ∧ i = .int .i64 (j : Int) ∧ Hid (∀ (i : Nat) (p x y : Nd), i < j → ps[i]? = some p → p.kids = [x, y] → x.text ≠ key))
    case atStart => exact ⟨rfl, 0, by omega, by omega, rfl, Lib.hid (fun i p x y h => absurd h (by omega))⟩
    case round =>
      obtain ⟨rfl, j, hj, rfl, rfl, hD⟩ := hrel
      by_cases hjn : j < len
      · have hjz : (j : Int) < (len : Int) := by omega
        obtain ⟨p, hp⟩ : ∃ p, ps[j]? = some p := ⟨ps[j]'(by have := HN.out; omega), List.getElem?_eq_getElem _⟩
        obtain ⟨g0, z, rfl, c0, hh⟩ := HHL.out j p hp
        obtain ⟨bp, rfl, hRp⟩ := (show PtrTo (RepD A (d + 1)) wr p z from hh)
        obtain ⟨hkp, x, y, hxy, hkx, hky⟩ := HP.out (j + 1) p (by omega) hp
        obtain ⟨⟨bx, c3, hRx⟩, by2, c6, hRy⟩ := prop_cells hRp hkp hxy hky
        have ct := text_cell hRx hkx
        obtain ⟨hm, he, hc⟩ := key_any x.kind hkx bx
        have HC := Lib.hid (hc _ _ ct)
        have HR := Lib.hid hRy
        have HXY := Lib.hid (show ps[j]? = some p ∧ p.kids = [x, y] from ⟨hp, hxy⟩)
        generalize hT : pTy x.kind = T at hm c3
        generalize hF : keyMe x.kind = F at hm he HC
        generalize hT2 : pTy y.kind = T2 at c6
        have HT2 := Lib.hid hT2
        clear hp hh hRp hkp hxy hRx hc hRy ct hT hF hkx hky hT2
        go_wp2_with fail
        refine HC.out.mono ?_
        rintro e w1 ⟨rfl, rfl⟩
        by_cases hkey : key.toList = x.text.toList
        · have hke : (key.toList == x.text.toList) = true := by simpa using hkey
          have HE := Lib.hid (bytes_eq hkey)
          clear hkey
          go_wp2_with fail
          go_ret2
          rw [← HT2.out]
          exact ⟨Or.inl ⟨j + 1, p, x, y, by2, ⟨by omega, HXY.out.1, HXY.out.2, HE.out.symm, fun i p2 x2 y2 hi hij hp2 hxy2 => by
            obtain ⟨i', rfl⟩ : ∃ i', i = i' + 1 := ⟨i - 1, by omega⟩
            exact hD.out i' p2 x2 y2 (by omega) hp2 hxy2⟩, rfl, HR.out⟩, Below.refl _ _⟩
        · have hke : (key.toList == x.text.toList) = false := by simpa using hkey
          have HE := Lib.hid hkey
          clear hkey
          go_wp2_with fail
          go_roundg (len - (j + 1))
          case measure => omega
          case rel =>
            refine ⟨rfl, j + 1, by omega, rfl, by push_cast; rfl, Lib.hid (fun i p2 x2 y2 hi hp2 hxy2 => ?_)⟩
            by_cases e : i = j
            · subst e
              rw [HXY.out.1] at hp2
              cases hp2
              rw [HXY.out.2] at hxy2
              cases hxy2
              intro e
              exact HE.out (by rw [e])
            · exact hD.out i p2 x2 y2 (by omega) hp2 hxy2
      · have hjz : ¬ (j : Int) < (len : Int) := by omega
        obtain rfl : j = len := by omega
        go_wp2_with fail
        refine (newError _ _).mono ?_
        rintro e w1 ⟨T, p, rfl, hb1⟩
        have HB := Lib.hid hb1
        clear hb1
        go_wp2_with fail
        go_ret2
        refine ⟨Or.inr ⟨fun i p2 x2 y2 hi hp2 hxy2 => ?_, _, _, rfl⟩, HB.out⟩
        obtain ⟨i', rfl⟩ : ∃ i', i = i' + 1 := ⟨i - 1, by omega⟩
        have h1 : ps[i']? = some p2 := hp2
        exact hD.out i' p2 x2 y2 (by have := (List.getElem?_eq_some_iff.1 h1).1; have := HN.out; omega) h1 hxy2
end Go.Proofs.YtongafghllkomaaGreatDoor
