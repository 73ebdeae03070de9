/-
  What the laws ask of a tree: walked; the tree of 5. No conditions beyond the tables of the decoder.
-/
import Derived.Test.YtongafghllkomaaGreatDoorOpen
import Derived.Test.YtongafghllkomaaGreatDoorNames
import Derived.Test.YtongafghllkomaaGreatDoorHolds
import Derived.Test.YtongafghllkomaaGreatDoorLits
namespace Go.Proofs.YtongafghllkomaaGreatDoor
open Go.RowKit
set_option linter.unusedVariables false

def fiveN : Nd := .mk 36 ⟨#[]⟩ ⟨#[]⟩ 5 none 0 []

theorem five_any (w : World) : Calls Tryz.prog 11 #[] w fun e w' => e = .returned fiveN.val ∧ Below w.heap.size w w' := by
  go_enter Tryz.func11, Tryz.ntmps11
  go_wp2_with fail
  refine bodyPost_ret (v := fiveN.val) ?_ rfl ⟨rfl, ?_⟩
  · simp [results, Tryz.f11, go_sem, fiveN, Nd.val, Nd.kind, Nd.text, Nd.more, Nd.num, Nd.ao, Nd.cap, Nd.kids]
  · exact (Below.refl _ _).alloc (Nat.le_refl _) _

theorem five_lies (w : World) : LiesD 1 w fiveN := ⟨⟨by decide, by decide, by decide, by decide, by decide, by decide, by decide⟩, fun i x hx => by have : ([] : List Nd)[i]? = some x := hx; simp at this⟩

theorem five_plain : PlainP fiveN := by
  refine ⟨fun _ => rfl, fun h => ?_, fun _ _ => rfl, by decide, by decide, fun h => ?_, fun h => ?_, fun h => ?_, fun h => ?_, fun h => ?_, fun h => ?_⟩
  · exact absurd (show hasNum 36 = false from h) (by decide)
  all_goals exact absurd h (by decide)

theorem five_good : GoodD 12 fiveN := by
  refine ⟨Or.inr ⟨by decide, by decide, five_plain, fun _ => ⟨by decide, Or.inl (by decide)⟩, fun i x hx => ?_, fun h => absurd h (by decide)⟩, ⟨by decide, fun i x hx => ?_⟩, ⟨⟨by decide, by decide⟩, fun i x hx => ?_⟩, by decide⟩
  all_goals (have : ([] : List Nd)[i]? = some x := hx; simp at this)

theorem fits1_any (k : Int) (t m : ByteArray) (u : Int) (ao : Option Addr) (len cap : Nat) (w : World) :
    Calls Tryz.prog 9 #[.agg #[.int .i64 k, .string t, .string m, .int .u64 u, .slice ao len cap]] w (SomeB True w) := by
  go_enter Tryz.func9, Tryz.ntmps9
  go_wp2_with fail
  all_goals
    go_ret
    exact ⟨_, rfl, fun _ => trivial, (Below.refl _ _).alloc (Nat.le_refl _) _⟩

/-- What walked says where it says yes. -/
def WalkedP (n : Nd) : Prop := GoodD 12 n ∧ n.kind ∈ namedL

theorem walkedP_of {D : Nat} {w : World} {n : Nd} (hL : LiesD D w n) (hR : RoomD D n) (hF : FitsP D n) (hN : NoneD D n 13) (hK : n.kind ∈ namedL ∨ n.kind = 13) : WalkedP n := by
  have h13 : n.kind ≠ 13 := by
    cases D with
    | zero => exact hL.elim
    | succ D => exact hN.1
  have hk : n.kind ∈ namedL := hK.resolve_right h13
  refine ⟨⟨hF.1, hN.more hL 12, small_of hL hR hF.2 12, ?_⟩, hk⟩
  unfold namedL at hk; unfold walkL
  simp at hk ⊢; omega

theorem named_ne (k : Int) (h : k ∈ namedL ∨ k = 13) : (nameOf k).toList.isEmpty = false := by
  have H : ∀ k ∈ (13 :: namedL), (nameOf k).toList.isEmpty = false := by decide +kernel
  refine H k ?_
  rcases h with h | h
  · exact List.mem_cons_of_mem _ h
  · rw [h]; exact List.mem_cons_self ..

set_option maxRecDepth 100000 in
theorem walked_any (D : Nat) (n : Nd) (w : World) (hL : LiesD D w n) (hR : RoomD D n) (hT : Lib.Utf8Tabs 1 2 w) :
    Calls Tryz.prog 12 #[n.val] w (SomeB (WalkedP n) w) := by
  have hkw : (Lit.int .i64 n.kind).wf = true := by
    cases D with
    | zero => exact hL.elim
    | succ D =>
      have := hL.1.2.2.2.2.2
      simp [Lit.wf, IntKind.min, IntKind.max, IntKind.signed, IntKind.bits]
      omega
  have HOK := Lib.hid (fun hF hN hK => walkedP_of hL hR hF hN hK)
  obtain ⟨k, t, m, u, ao, cap, kids⟩ := n
  have HKW := Lib.hid (show (Lit.int .i64 k).wf = true from hkw)
  have HL := Lib.hid hL
  have HT := Lib.hid hT
  clear hL hT hkw hR
  show Calls _ _ #[.agg #[.int .i64 k, .string t, .string m, .int .u64 u, .slice ao kids.length cap]] w _
  by_cases h0 : k = 0
  · subst h0
    go_enter Tryz.func12, Tryz.ntmps12
    go_wp2_with fail
    go_ret
    exact ⟨_, rfl, (by intro h; cases h), (Below.refl _ _).alloc (Nat.le_refl _) _⟩
  by_cases h1 : k = 1
  · subst h1
    go_enter Tryz.func12, Tryz.ntmps12
    go_wp2_with fail
    go_ret
    exact ⟨_, rfl, (by intro h; cases h), (Below.refl _ _).alloc (Nat.le_refl _) _⟩
  have g0 : (k != 0) = true := by simpa using h0
  have g1 : (k != 1) = true := by simpa using h1
  clear h0 h1
  go_enter Tryz.func12, Tryz.ntmps12
  go_wp2_with fail
  refine (Fits_any D (.mk k t m u ao cap kids) _ (HL.out.below ((Below.refl _ _).alloc (Nat.le_refl _) _)) (tabs_below HT.out ((Below.refl _ _).alloc (Nat.le_refl _) _))).mono ?_
  rintro e w1 ⟨b1, rfl, hp1, hb1⟩
  obtain ⟨k0, -⟩ := bblk hb1 (b := w.heap.size) (by simp)
  have HP1 := Lib.hid hp1
  have HB1 := Lib.hid (((Below.refl w.heap.size w).alloc (Nat.le_refl _) _).trans (hb1.mono (by simp)))
  have hz1 : w.heap.size < w1.heap.size := by have := hb1.size; simp at this; omega
  clear hp1 hb1
  cases b1
  · go_wp2_with fail
    go_ret
    exact ⟨_, rfl, (by intro h; cases h), HB1.out⟩
  go_wp2_with fail
  refine (specName_any k _ HKW.out).mono ?_
  rintro e w2 ⟨rfl, hb2⟩
  obtain ⟨k1, -⟩ := bblk hb2 (b := w.heap.size) (by omega)
  have HB2 := Lib.hid (HB1.out.trans (hb2.mono HB1.out.size))
  have hz2 : w.heap.size < w2.heap.size := by have := hb2.size; omega
  clear hb2
  rcases nameOf_named k with hk | hk
  · have HK := Lib.hid hk
    clear hk
    have hne := named_ne k HK.out
    generalize nameOf k = nm at hne ⊢
    go_wp2_with fail
    refine (holds_all D (.mk k t m u ao cap kids) 13 (some ⟨w2.heap.size, 0, none⟩) 1 _ (HL.out.below (HB2.out.alloc (Nat.le_of_lt hz2) _)) (intsIn_new w2 [13] _ _)).mono ?_
    rintro e w3 ⟨b3, rfl, hp3, hb3⟩
    obtain ⟨k2, -⟩ := bblk hb3 (b := w.heap.size) (by simp; omega)
    have HP3 := Lib.hid hp3
    have HB3 := Lib.hid ((HB2.out.alloc (Nat.le_of_lt hz2) _).trans (hb3.mono (by simp; omega)))
    clear hp3 hb3
    cases b3
    · go_wp2_with fail
      refine (lits_all D (.mk k t m u ao cap kids) _ (HL.out.below HB3.out)).mono ?_
      rintro e w4 ⟨b4, rfl, -, hb4⟩
      have HB4 := Lib.hid (HB3.out.trans (hb4.mono HB3.out.size))
      clear hb4
      go_wp2_with fail
      go_ret
      exact ⟨_, rfl, fun _ => HOK.out (HP1.out (by first | rfl | trivial)) (HP3.out (by first | rfl | trivial)) HK.out, HB4.out⟩
    · go_wp2_with fail
      go_ret
      exact ⟨_, rfl, (by intro h; cases h), HB3.out⟩
  · rw [hk]
    go_wp2_with fail
    go_ret
    exact ⟨_, rfl, (by intro h; cases h), HB2.out⟩
end Go.Proofs.YtongafghllkomaaGreatDoor
