/-
  A string's node alone: spec.Fits, Writable and Same. Conditions: the tables of the decoder.
-/
import Derived.Test.YteecbmhkfnlecaaGreatDoorShape
import Derived.Test.YteecbmhkfnlecaaGreatDoorLex
import Derived.Test.YteecbmhkfnlecaaGreatDoorValid
import Derived.Test.YteecbmhkfnlecaaGreatDoorRdB
import Derived.Test.YteecbmhkfnlecaaGreatDoorTt
import Derived.Lib.Hide
import Derived.Deep.LoopGhost
import Derived.BigQuiet
import Derived.WideShapes
namespace Go.Proofs.YteecbmhkfnlecaaGreatDoor
open Go.RowKit
set_option linter.unusedVariables false
set_option linter.unusedSimpArgs false

def SomeB (P : Prop) (w : World) (e : Ending) (w' : World) : Prop := ∃ b : Bool, e = .returned (.bool b) ∧ (b = true → P) ∧ Below w.heap.size w w'

theorem intsIn_at {g : Nat} {w : World} (zs : List Int) (T : TypeId) (m : Nat × Nat) (hg : g = w.heap.size) : IntsIn (some ⟨g, 0, none⟩) zs (w.alloc (.cells (zs.map (Value.int .i64)).toArray T m)) := by
  subst hg; exact intsIn_new w zs T m

set_option maxRecDepth 100000 in
set_option maxHeartbeats 1000000 in
theorem plain_str (t : ByteArray) (w : World) (ht : t.size ≤ 9223372036854775807) (hT : Tabs w) :
    Calls Tryz.prog 22 #[leafV 34 t 0] w (SomeB (Lib.validD t.data.toList = true ∧ t.size ≤ 300) w) := by
  have HT := Lib.hid hT
  clear hT
  show Calls _ _ #[.agg #[.int .i64 34, .string t, .string ⟨#[]⟩, .int .u64 0, .slice none 0 0]] w _
  go_enter Tryz.func22, Tryz.ntmps22
  go_wp2_with fail
  refine (in_any _ _ [2, 3, 7, 21, 22, 23, 31, 33, 34, 40, 42] 11 _ _ rfl (by omega) ?i1).mono ?_
  case i1 => exact intsIn_at [2, 3, 7, 21, 22, 23, 31, 33, 34, 40, 42] _ _ (by simp)
  rintro e w1 ⟨rfl, rfl⟩
  rw [(show inB 34 [2, 3, 7, 21, 22, 23, 31, 33, 34, 40, 42] = true from by decide)]
  go_wp2_with fail
  refine (in_any _ _ [35, 36, 37, 38, 40, 41, 52] 7 _ _ rfl (by omega) ?i2).mono ?_
  case i2 => exact intsIn_at [35, 36, 37, 38, 40, 41, 52] _ _ (by simp)
  rintro e w1 ⟨rfl, rfl⟩
  rw [(show inB 34 [35, 36, 37, 38, 40, 41, 52] = false from by decide)]
  have hB0 : ∀ o1 o2 o3, Below w.heap.size w (((w.alloc o1).alloc o2).alloc o3) := fun o1 o2 o3 => (((Below.refl w.heap.size w).alloc (Nat.le_refl _) _).alloc (by simp) _).alloc (by simp; omega) _
  by_cases h300 : t.size ≤ 300
  · have h300z : ¬ (300 : Int) < (t.size : Int) := by omega
    go_wp2_with fail
    refine (Tryz.utf8_ValidString _ _ ht (tabs_keep HT.out (hB0 _ _ _))).mono ?_
    rintro e w1 ⟨rfl, hb1⟩
    have HB1 := Lib.hid ((hB0 _ _ _).trans (hb1.mono (by simp; omega)))
    obtain ⟨k0, -⟩ := oblk hb1 (b := w.heap.size) (by simp; omega)
    have hz1 : w.heap.size < w1.heap.size := by have := hb1.size; simp at this; omega
    clear hB0 hb1
    obtain ⟨bt, hbt⟩ : ∃ bt, Lib.validD t.data.toList = bt := ⟨_, rfl⟩
    rw [hbt]
    have HBT := Lib.hid hbt
    clear hbt
    cases bt
    · go_wp2_with fail
      go_ret
      exact ⟨_, rfl, (by intro h; cases h), HB1.out⟩
    have hve : Lib.validD (⟨#[]⟩ : ByteArray).data.toList = true := rfl
    have HV2 := Tryz.utf8_ValidString ⟨#[]⟩ w1 (by decide) (tabs_keep HT.out HB1.out)
    rw [hve] at HV2
    have HV := Lib.hid HV2
    clear HV2
    go_wp2_with fail
    refine HV.out.mono ?_
    rintro e w2 ⟨rfl, hb2⟩
    have HB2 := Lib.hid (HB1.out.trans (hb2.mono HB1.out.size))
    obtain ⟨k1, -⟩ := oblk hb2 (b := w.heap.size) hz1
    clear hb2 HV
    go_wp2_with fail
    go_ret
    exact ⟨_, rfl, (fun _ => ⟨HBT.out, h300⟩), HB2.out⟩
  · have h300z : (300 : Int) < (t.size : Int) := by omega
    go_wp2_with fail
    go_ret
    exact ⟨_, rfl, (by intro h; cases h), hB0 _ _ _⟩

set_option maxRecDepth 100000 in
set_option maxHeartbeats 1000000 in
theorem fits_str (t : ByteArray) (w : World) (ht : t.size ≤ 9223372036854775807) (hT : Tabs w) :
    Calls Tryz.prog 12 #[leafV 34 t 0, .int .i64 12] w (SomeB (Lib.validD t.data.toList = true ∧ t.size ≤ 300) w) := by
  have HT := Lib.hid hT
  have hfl : (fixedL 34).length = 0 := by decide
  have hrl : restL 34 = 28 := by decide
  have HS := fun W => shape_any 34 W (by decide)
  unfold RetShape at HS
  rw [hrl] at HS
  have HSH := Lib.hid HS
  clear hT HS
  show Calls _ _ #[.agg #[.int .i64 34, .string t, .string ⟨#[]⟩, .int .u64 0, .slice none 0 0], _] w _
  go_enter Tryz.func12, Tryz.ntmps12
  go_wp2_with fail
  refine (plain_str t _ ht (tabs_keep HT.out ((Below.refl _ _).alloc (Nat.le_refl _) _))).mono ?_
  rintro e w1 ⟨b, rfl, hb, hb1⟩
  have HPl := Lib.hid hb
  have HB1 := Lib.hid (((Below.refl w.heap.size w).alloc (Nat.le_refl _) _).trans (hb1.mono (by simp)))
  obtain ⟨k0, -⟩ := oblk hb1 (b := w.heap.size) (by simp)
  have hz1 : w.heap.size < w1.heap.size := by have := hb1.size; simp at this; omega
  clear hb hb1
  cases b
  · go_wp2_with fail
    go_ret
    exact ⟨_, rfl, (by intro h; cases h), HB1.out⟩
  go_wp2_with fail
  refine (HSH.out _).mono ?_
  rintro e w2 ⟨ao2, cap2, rfl, hI, hb2⟩
  have HB2 := Lib.hid (HB1.out.trans (hb2.mono HB1.out.size))
  obtain ⟨k1, -⟩ := oblk hb2 (b := w.heap.size) hz1
  rw [hfl]
  clear hI hb2 HSH
  go_wp2_with fail
  go_loopg [87] 0 (fun gk i wr => i = .int .i64 0 ∧ wr = w2)
  case atStart => exact ⟨rfl, rfl⟩
  case round =>
    obtain ⟨rfl, rfl⟩ := hrel
    go_wp2_with fail
    go_ret
    exact ⟨_, rfl, (fun _ => HPl.out (by first | rfl | trivial)), HB2.out⟩

set_option maxRecDepth 100000 in
theorem few_str (t : ByteArray) (p : Nat) (w : World) (hc : w.cell? ⟨p, 0, none⟩ = some (.int .i64 400)) (f : w.frozen? ⟨p, 0, none⟩ = false) :
    Calls Tryz.prog 11 #[leafV 34 t 0, .pointer (some ⟨p, 0, none⟩)] w fun e w' => e = .returned (.bool true) ∧ But p w w' := by
  have hlt := block_lt_of_cell hc
  show Calls _ _ #[.agg #[.int .i64 34, .string t, .string ⟨#[]⟩, .int .u64 0, .slice none 0 0], _] w _
  go_enter Tryz.func11, Tryz.ntmps11
  go_wp2_with fail
  go_loopg [5] 0 (fun gk i wr => i = .int .i64 0 ∧ wr = (w.setCell ⟨p, 0, none⟩ (.int .i64 399)).alloc (.cells #[.int .i64 34, .string t, .string ⟨#[]⟩, .int .u64 0, .slice none 0 0] 26))
  case atStart => exact ⟨rfl, rfl⟩
  case round =>
    obtain ⟨rfl, rfl⟩ := hrel
    go_wp2_with fail
    go_ret
    exact ⟨rfl, ((But.refl p w).setCell (p := ⟨p, 0, none⟩) (Or.inl rfl) _).alloc _⟩

set_option maxRecDepth 100000 in
theorem Fits_str (t : ByteArray) (w : World) (ht : t.size ≤ 9223372036854775807) (hT : Tabs w) :
    Calls Tryz.prog 6 #[leafV 34 t 0] w (SomeB (Lib.validD t.data.toList = true ∧ t.size ≤ 300) w) := by
  have HT := Lib.hid hT
  clear hT
  show Calls _ _ #[.agg #[.int .i64 34, .string t, .string ⟨#[]⟩, .int .u64 0, .slice none 0 0]] w _
  go_enter Tryz.func6, Tryz.ntmps6
  go_wp2_with fail
  have hB0 := ((Below.refl w.heap.size w).alloc (Nat.le_refl _) (.cells #[.int .i64 34, .string t, .string ⟨#[]⟩, .int .u64 0, .slice none 0 0] 26)).alloc (by simp) (.cells #[.int .i64 400] 3)
  have HB0 := Lib.hid hB0
  have HF := Lib.hid (few_str t (w.heap.size + 1) _ (cell_new (w.alloc (.cells #[.int .i64 34, .string t, .string ⟨#[]⟩, .int .u64 0, .slice none 0 0] 26)) (.int .i64 400) 3 (w.heap.size + 1) (by simp)) (by simp [go_sem]))
  clear hB0
  refine HF.out.mono ?_
  rintro e w1 ⟨rfl, hb1⟩
  have HB1 := Lib.hid (HB0.out.trans (hb1.below (by omega) (by simp; omega)))
  obtain ⟨k0, -⟩ := hb1.blk (c := w.heap.size) (by simp; omega) (by omega)
  have HFS := Lib.hid (fun W (hW : Below w.heap.size w W) => fits_str t W ht (tabs_keep HT.out hW))
  clear hb1 HF
  go_wp2_with fail
  refine (HFS.out w1 HB1.out).mono ?_
  rintro e w2 ⟨b, rfl, hb, hb2⟩
  have HB2 := Lib.hid (HB1.out.trans (hb2.mono HB1.out.size))
  have HPl := Lib.hid hb
  clear hb hb2
  cases b
  · go_wp2_with fail
    go_ret
    exact ⟨_, rfl, (by intro h; cases h), HB2.out⟩
  · go_wp2_with fail
    go_ret
    exact ⟨_, rfl, (fun _ => HPl.out (by first | rfl | trivial)), HB2.out⟩

set_option maxRecDepth 100000 in
set_option maxHeartbeats 1000000 in
theorem plainText_any (s : ByteArray) (w : World) (hs : s.size ≤ 2147483647) :
    Calls Tryz.prog 25 #[.string s] w (SomeB (PT s.data.toList) w) := by
  go_enter Tryz.func25, Tryz.ntmps25
  go_wp2_with fail
  go_loopg [3] (s.size + 1) (fun gk i wr => ∃ k : Nat, k ≤ s.size ∧ gk = s.size + 1 - k ∧ i = .int .i64 k ∧ Hid (∀ j, j < k → s.data.toList[j]? = some 36 → s.data.toList[j + 1]? ≠ some 123) ∧ wr = w)
  case atStart => exact ⟨0, by omega, by omega, rfl, Lib.hid (fun j h => by omega), rfl⟩
  case round =>
    obtain ⟨k, hk, hgk, rfl, HJ, rfl⟩ := hrel
    have HK := Lib.hid hgk
    clear hgk
    by_cases hkn : k < s.size
    · have hkz : (k : Int) < (s.size : Int) := by omega
      obtain ⟨x, hx⟩ : ∃ x, s.data.toList[k]? = some x := ⟨_, List.getElem?_eq_getElem (by rw [← bsize]; exact hkn)⟩
      obtain ⟨gi, ei⟩ := byteIs hx
      have HX := Lib.hid hx
      clear hx
      obtain ⟨c, hc⟩ : ∃ c, x.toNat = c := ⟨_, rfl⟩
      rw [hc] at ei
      have HC := Lib.hid hc
      clear hc
      by_cases h32 : c < 32
      · have hz : (c : Int) < 32 := by omega
        go_wp2_with fail
        go_ret
        exact ⟨_, rfl, (by intro h; cases h), Below.refl _ _⟩
      have hz32 : ¬ (c : Int) < 32 := by omega
      have NEXT : Hid ((s.data.toList[k]? = some 36 → s.data.toList[k + 1]? ≠ some 123) → ∀ j, j < k + 1 → s.data.toList[j]? = some 36 → s.data.toList[j + 1]? ≠ some 123) := Lib.hid fun h j hj => by
        rcases Nat.lt_or_ge j k with h1 | h1
        · exact HJ.out j h1
        · obtain rfl : j = k := by omega
          exact h
      by_cases h36 : c = 36
      · by_cases hk1 : k + 1 < s.size
        · have hk1z : (k : Int) + 1 < (s.size : Int) := by omega
          obtain ⟨y, hy⟩ : ∃ y, s.data.toList[k + 1]? = some y := ⟨_, List.getElem?_eq_getElem (by rw [← bsize]; exact hk1)⟩
          obtain ⟨g2, e2⟩ := byteIs hy
          have HY := Lib.hid hy
          clear hy
          subst h36
          by_cases h123 : y = 123
          · have e3 : (s[k + 1]'g2).toNat = 123 := by rw [e2, h123]; rfl
            clear e2 h123
            go_wp2_with fail
            go_ret
            exact ⟨_, rfl, (by intro h; cases h), Below.refl _ _⟩
          · have h3 : ((y.toNat : Int) == 123) = false := by
              have : y.toNat ≠ 123 := fun e => h123 (UInt8.toNat.inj e)
              simp; omega
            have H123 := Lib.hid h123
            clear h123
            go_wp2_with fail
            go_roundg (s.size + 1 - (k + 1))
            case measure => rw [HK.out]; omega
            case rel => exact ⟨k + 1, by omega, rfl, by push_cast; rfl, Lib.hid (NEXT.out (fun _ => by rw [HY.out]; simpa using H123.out)), rfl⟩
        · have hk1z : ¬ (k : Int) + 1 < (s.size : Int) := by omega
          subst h36
          go_wp2_with fail
          go_roundg (s.size + 1 - (k + 1))
          case measure => rw [HK.out]; omega
          case rel => exact ⟨k + 1, by omega, rfl, by push_cast; rfl, Lib.hid (NEXT.out (fun _ => by rw [List.getElem?_eq_none (by rw [← bsize]; omega)]; simp)), rfl⟩
      · have hc36 : ((c : Int) == 36) = false := by simp; omega
        have H36 := Lib.hid h36
        clear h36
        go_wp2_with fail
        go_roundg (s.size + 1 - (k + 1))
        case measure => rw [HK.out]; omega
        case rel => exact ⟨k + 1, by omega, rfl, by push_cast; rfl, Lib.hid (NEXT.out (fun h => by rw [HX.out] at h; exfalso; apply H36.out; rw [← HC.out, Option.some.inj h]; rfl)), rfl⟩
    · have hkz : ¬ (k : Int) < (s.size : Int) := by omega
      obtain rfl : k = s.size := by omega
      have hPT : PT s.data.toList := fun j h => by
        rcases Nat.lt_or_ge j s.size with h1 | h1
        · exact HJ.out j h1 h
        · rw [List.getElem?_eq_none (by rw [← bsize]; omega)] at h; cases h
      have HPT := Lib.hid hPT
      clear hPT
      by_cases h0 : s.size = 0
      · have h0z : ((s.size : Int) == 0) = true := by simp [h0]
        go_wp2_with fail
        all_goals (go_ret; exact ⟨_, rfl, (fun _ => HPT.out), Below.refl _ _⟩)
      · have h0z : ((s.size : Int) == 0) = false := beq_eq_false_iff_ne.2 (by omega)
        have hne : ¬ s = ByteArray.empty := by intro e; rw [e] at h0; exact h0 rfl
        have h1z : (s.size : Int) - 1 < (s.size : Int) := by omega
        have h2z : (0 : Int) ≤ (s.size : Int) - 1 := by omega
        go_wp2_with fail
        all_goals (go_ret; exact ⟨_, rfl, (fun _ => HPT.out), Below.refl _ _⟩)
end Go.Proofs.YteecbmhkfnlecaaGreatDoor
