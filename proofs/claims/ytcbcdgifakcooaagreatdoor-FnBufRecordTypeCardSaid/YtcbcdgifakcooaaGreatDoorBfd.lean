/-
  Which trees the laws of buffers ask: zzFits1, spec.Buffered, buffered. No conditions.
-/
import Derived.Test.YtcbcdgifakcooaaGreatDoorLits
namespace Go.Proofs.YtcbcdgifakcooaaGreatDoor
open Go.ChangeShapes Go.WideShapes Go.RowKit Go.Deep
set_option linter.unusedVariables false

theorem fits1_any (k : Int) (t m : ByteArray) (u : Int) (ao : Option Addr) (len cap : Nat) (w : World) :
    Calls Tryz.prog 6 #[.agg #[.int .i64 k, .string t, .string m, .int .u64 u, .slice ao len cap]] w (SomeB True w) := by
  go_enter Tryz.func6, Tryz.ntmps6
  go_wp2_with fail
  all_goals
    go_ret
    exact ⟨_, rfl, fun _ => trivial, (Below.refl _ _).alloc (Nat.le_refl _) _⟩

/-- A tree without dictionaries, builtin statements, test cases and calls. -/
def TameD : Nat → Nd → Prop
  | 0, _ => True
  | d + 1, n => (n.kind ≠ 27 ∧ n.kind ≠ 13 ∧ n.kind ≠ 15 ∧ n.kind ≠ 16) ∧ ∀ (i : Nat) (x : Nd), n.kids[i]? = some x → TameD d x

set_option maxHeartbeats 1000000 in
set_option maxRecDepth 100000 in
theorem buffered_all : ∀ D (n : Nd) (w : World), LiesD D w n → TameD D n → Calls Tryz.prog 14 #[n.val] w (SomeB True w) := by
  intro D
  induction D with
  | zero => intro n w hL; exact hL.elim
  | succ D ih =>
    intro n w hL hTm
    obtain ⟨k, t, m, u, no, ncap, kids⟩ := n
    have hM := hL.len_le
    obtain ⟨len, hlen⟩ : ∃ len, kids.length = len := ⟨_, rfl⟩
    show Calls _ _ #[.agg #[.int .i64 k, .string t, .string m, .int .u64 u, .slice no kids.length ncap]] w _
    rw [hlen] at hM ⊢
    have HN := Lib.hid hlen
    have HL := Lib.hid hL
    obtain ⟨⟨h27, h13, h15, h16⟩, hks⟩ := hTm
    have HTM := Lib.hid hks
    have q27 : (k == 27) = false := by have h : ¬ k = 27 := h27; simpa using h
    have q13 : (k == 13) = false := by have h : ¬ k = 13 := h13; simpa using h
    have q15 : (k == 15) = false := by have h : ¬ k = 15 := h15; simpa using h
    have q16 : (k == 16) = false := by have h : ¬ k = 16 := h16; simpa using h
    clear hlen hL hks h27 h13 h15 h16
    go_enter Tryz.func14, Tryz.ntmps14
    go_wp2_with fail
    go_loopg [54] len (fun gk i wr => ∃ (j : Nat), j ≤ len ∧ gk = len - j ∧ i = .int .i64 (j : Int) ∧ Hid (Below w.heap.size w wr))
    case atStart => exact ⟨0, by omega, by omega, rfl, Lib.hid ((Below.refl _ _).alloc (Nat.le_refl _) _)⟩
    case round =>
      obtain ⟨j, hj, hgk, rfl, hB⟩ := hrel
      have HK := Lib.hid hgk
      clear hgk
      by_cases hjn : j < len
      · have hjz : (j : Int) < (len : Int) := by omega
        obtain ⟨x, hx⟩ : ∃ x, kids[j]? = some x := ⟨kids[j]'(by have := HN.out; omega), List.getElem?_eq_getElem _⟩
        obtain ⟨b, o, hao, c0, c1, c2, c3, c4, hLx⟩ := kid_cells HL.out hx hB.out
        obtain rfl : no = some ⟨b, o, none⟩ := hao
        have HLX := Lib.hid hLx
        have HTX := Lib.hid (HTM.out j x hx)
        clear hx hLx
        go_wp2_with fail
        show Calls _ _ #[x.val] _ _
        refine (ih x _ (HLX.out.below ((Below.refl _ _).alloc (Nat.le_refl _) _)) HTX.out).mono ?_
        rintro e w1 ⟨b1, rfl, -, hb1⟩
        have HB1 := Lib.hid ((hB.out.alloc hB.out.size (.cells #[.int .i64 x.kind, .string x.text, .string x.more, .int .u64 x.num, .slice x.ao x.kids.length x.cap] 25)).trans (hb1.mono (by have := hB.out.size; simp; omega)))
        clear hb1
        cases b1
        · go_wp2_with fail
          go_ret
          exact ⟨_, rfl, fun _ => trivial, HB1.out⟩
        · go_wp2_with fail
          go_roundg (len - (j + 1))
          case measure => have := HK.out; omega
          case rel => exact ⟨j + 1, by omega, rfl, by push_cast; rfl, HB1⟩
      · have hjz : ¬ (j : Int) < (len : Int) := by omega
        go_wp2_with fail
        go_ret
        exact ⟨_, rfl, fun _ => trivial, hB.out⟩

set_option maxHeartbeats 1000000 in
set_option maxRecDepth 100000 in
theorem bufd_any (Q : Prop) (D : Nat) (n : Nd) (K : Int) (hQ : FitsP D n → n.kind = K → Q) (w : World) (hL : LiesD D w n) (hR : RoomD D n) (hT : Lib.Utf8Tabs 1 2 w) (hTm : FitsP D n → n.kind = K → TameD D n) :
    Calls Tryz.prog 7 #[n.val, .int .i64 K] w (SomeB Q w) := by
  have HOK := Lib.hid hQ
  have HTM := Lib.hid hTm
  obtain ⟨k, t, m, u, ao, cap, kids⟩ := n
  have HL := Lib.hid hL
  have HT := Lib.hid hT
  clear hL hT hR hTm hQ
  show Calls _ _ #[.agg #[.int .i64 k, .string t, .string m, .int .u64 u, .slice ao kids.length cap], _] w _
  go_enter Tryz.func7, Tryz.ntmps7
  go_wp2_with fail
  show Calls _ _ #[Nd.val (.mk k t m u ao cap kids)] _ _
  refine (Fits_any D (.mk k t m u ao cap kids) _ (HL.out.below ((Below.refl _ _).alloc (Nat.le_refl _) _)) (tabs_below HT.out ((Below.refl _ _).alloc (Nat.le_refl _) _))).mono ?_
  rintro e w1 ⟨b1, rfl, hp1, hb1⟩
  obtain ⟨k0, -⟩ := bblk hb1 (b := w.heap.size) (by simp)
  have HP1 := Lib.hid hp1
  have HB1 := Lib.hid (((Below.refl w.heap.size w).alloc (Nat.le_refl _) (.cells #[.int .i64 k, .string t, .string m, .int .u64 u, .slice ao kids.length cap] 25)).trans (hb1.mono (by simp)))
  have hz1 : w.heap.size < w1.heap.size := by have := hb1.size; simp at this; omega
  clear hp1 hb1
  cases b1
  · go_wp2_with fail
    go_ret
    exact ⟨_, rfl, (by intro h; cases h), HB1.out⟩
  by_cases hkK : k = K
  · have qk : (k == K) = true := by simpa using hkK
    have HKK := Lib.hid hkK
    clear hkK
    go_wp2_with fail
    show Calls _ _ #[Nd.val (.mk k t m u ao cap kids)] _ _
    refine (buffered_all D (.mk k t m u ao cap kids) _ (HL.out.below HB1.out) (HTM.out (HP1.out (by first | rfl | trivial)) HKK.out)).mono ?_
    rintro e w2 ⟨b2, rfl, -, hb2⟩
    obtain ⟨k1, -⟩ := bblk hb2 (b := w.heap.size) hz1
    have HB2 := Lib.hid (HB1.out.trans (hb2.mono HB1.out.size))
    have hz2 : w.heap.size < w2.heap.size := by have := hb2.size; omega
    clear hb2
    cases b2
    · go_wp2_with fail
      go_ret
      exact ⟨_, rfl, (by intro h; cases h), HB2.out⟩
    go_wp2_with fail
    show Calls _ _ #[Nd.val (.mk k t m u ao cap kids)] _ _
    refine (lits_all D (.mk k t m u ao cap kids) _ (HL.out.below HB2.out)).mono ?_
    rintro e w3 ⟨b3, rfl, -, hb3⟩
    have HB3 := Lib.hid (HB2.out.trans (hb3.mono HB2.out.size))
    clear hb3
    cases b3
    · go_wp2_with fail
      go_ret
      exact ⟨_, rfl, (by intro h; cases h), HB3.out⟩
    go_wp2_with fail
    go_ret
    exact ⟨_, rfl, fun _ => HOK.out (HP1.out (by first | rfl | trivial)) HKK.out, HB3.out⟩
  · have qk : (k == K) = false := by simpa using hkK
    go_wp2_with fail
    go_ret
    exact ⟨_, rfl, (by intro h; cases h), HB1.out⟩

end Go.Proofs.YtcbcdgifakcooaaGreatDoor
