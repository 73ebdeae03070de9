/-
  A flatbuffer's root. No conditions.
-/
import Derived.Test.YtdljkanfebndaaaGreatDoorAcc
namespace Go.Proofs.YtdljkanfebndaaaGreatDoor
open Go.RowKit
set_option linter.unusedVariables false
set_option linter.unusedSimpArgs false

set_option maxRecDepth 100000 in
theorem root_PipeLiteral (rb cap p : Nat) (B : By) (hd : leAt B 0 4 = p) (hl : B.length < 2147483648) (h4 : 4 ≤ B.length) (hp : p < B.length) (hc : B.length ≤ cap) (w : World) (h : BufIn w rb B) :
    Calls Tryz.prog 29 #[.slice (some ⟨rb, 0, none⟩) (B.length : Nat) cap, .int .u32 0] w fun e w' => ∃ k, e = .returned (.pointer (some ⟨k, 0, none⟩)) ∧ w.heap.size ≤ k ∧ TabIn w' k 0 rb cap B p ∧ Below w.heap.size w w' := by
  have hrb := h.lt (by omega)
  have hq0 : (0 : Int) ≤ (B.length : Int) := by omega
  have U : Hid (Calls Tryz.prog 73 #[.slice (some ⟨rb, 0, none⟩) (B.length : Nat) cap] w fun e w' => e = .returned (.int .u32 (p : Nat)) ∧ w' = w) := Lib.hid (by
    have := uoff_any rb 0 B.length cap B w h (by omega) h4
    rw [hd] at this
    exact this)
  go_enter Tryz.func29, Tryz.ntmps29
  go_wp2_with fail
  refine U.out.mono ?_
  rintro e w1 ⟨rfl, rfl⟩
  clear hd U
  go_upto_region 3 with fail
  obtain ⟨ka0, ka1, kf0, kf1⟩ := two_new w1 (.slice none 0 0) (.int .u32 0) 264
  have HBA := Lib.hid (Below.alloc (Below.refl w1.heap.size w1) (Nat.le_refl _) (.cells #[.slice none 0 0, .int .u32 0] 264))
  obtain ⟨k, hk⟩ : ∃ k, k = w1.heap.size := ⟨_, rfl⟩
  rw [← hk] at ka0 ka1 kf0 kf1 ⊢
  have HK := Lib.hid hk
  clear hk
  generalize w1.alloc (.cells #[.slice none 0 0, .int .u32 0] 264) = U at *
  go_wp2_with fail
  refine (init_PipeLiteral k rb cap p B _ _ U ka0 ka1 kf0 kf1 (h.below HBA.out hrb) (by rw [HK.out]; omega) hc hl hp).mono ?_
  rintro e w2 ⟨rfl, hT, hB1⟩
  clear ka0 ka1 kf0 kf1
  go_wp2_with fail
  go_ret
  have hK := HK.out
  subst hK
  exact ⟨_, rfl, Nat.le_refl _, hT, HBA.out.trans hB1⟩

set_option maxRecDepth 100000 in
theorem root_RegexpLiteral (rb cap p : Nat) (B : By) (hd : leAt B 0 4 = p) (hl : B.length < 2147483648) (h4 : 4 ≤ B.length) (hp : p < B.length) (hc : B.length ≤ cap) (w : World) (h : BufIn w rb B) :
    Calls Tryz.prog 34 #[.slice (some ⟨rb, 0, none⟩) (B.length : Nat) cap, .int .u32 0] w fun e w' => ∃ k, e = .returned (.pointer (some ⟨k, 0, none⟩)) ∧ w.heap.size ≤ k ∧ TabIn w' k 0 rb cap B p ∧ Below w.heap.size w w' := by
  have hrb := h.lt (by omega)
  have hq0 : (0 : Int) ≤ (B.length : Int) := by omega
  have U : Hid (Calls Tryz.prog 73 #[.slice (some ⟨rb, 0, none⟩) (B.length : Nat) cap] w fun e w' => e = .returned (.int .u32 (p : Nat)) ∧ w' = w) := Lib.hid (by
    have := uoff_any rb 0 B.length cap B w h (by omega) h4
    rw [hd] at this
    exact this)
  go_enter Tryz.func34, Tryz.ntmps34
  go_wp2_with fail
  refine U.out.mono ?_
  rintro e w1 ⟨rfl, rfl⟩
  clear hd U
  go_upto_region 3 with fail
  obtain ⟨ka0, ka1, kf0, kf1⟩ := two_new w1 (.slice none 0 0) (.int .u32 0) 275
  have HBA := Lib.hid (Below.alloc (Below.refl w1.heap.size w1) (Nat.le_refl _) (.cells #[.slice none 0 0, .int .u32 0] 275))
  obtain ⟨k, hk⟩ : ∃ k, k = w1.heap.size := ⟨_, rfl⟩
  rw [← hk] at ka0 ka1 kf0 kf1 ⊢
  have HK := Lib.hid hk
  clear hk
  generalize w1.alloc (.cells #[.slice none 0 0, .int .u32 0] 275) = U at *
  go_wp2_with fail
  refine (init_RegexpLiteral k rb cap p B _ _ U ka0 ka1 kf0 kf1 (h.below HBA.out hrb) (by rw [HK.out]; omega) hc hl hp).mono ?_
  rintro e w2 ⟨rfl, hT, hB1⟩
  clear ka0 ka1 kf0 kf1
  go_wp2_with fail
  go_ret
  have hK := HK.out
  subst hK
  exact ⟨_, rfl, Nat.le_refl _, hT, HBA.out.trans hB1⟩

set_option maxRecDepth 100000 in
theorem root_BooleanLiteral (rb cap p : Nat) (B : By) (hd : leAt B 0 4 = p) (hl : B.length < 2147483648) (h4 : 4 ≤ B.length) (hp : p < B.length) (hc : B.length ≤ cap) (w : World) (h : BufIn w rb B) :
    Calls Tryz.prog 36 #[.slice (some ⟨rb, 0, none⟩) (B.length : Nat) cap, .int .u32 0] w fun e w' => ∃ k, e = .returned (.pointer (some ⟨k, 0, none⟩)) ∧ w.heap.size ≤ k ∧ TabIn w' k 0 rb cap B p ∧ Below w.heap.size w w' := by
  have hrb := h.lt (by omega)
  have hq0 : (0 : Int) ≤ (B.length : Int) := by omega
  have U : Hid (Calls Tryz.prog 73 #[.slice (some ⟨rb, 0, none⟩) (B.length : Nat) cap] w fun e w' => e = .returned (.int .u32 (p : Nat)) ∧ w' = w) := Lib.hid (by
    have := uoff_any rb 0 B.length cap B w h (by omega) h4
    rw [hd] at this
    exact this)
  go_enter Tryz.func36, Tryz.ntmps36
  go_wp2_with fail
  refine U.out.mono ?_
  rintro e w1 ⟨rfl, rfl⟩
  clear hd U
  go_upto_region 3 with fail
  obtain ⟨ka0, ka1, kf0, kf1⟩ := two_new w1 (.slice none 0 0) (.int .u32 0) 277
  have HBA := Lib.hid (Below.alloc (Below.refl w1.heap.size w1) (Nat.le_refl _) (.cells #[.slice none 0 0, .int .u32 0] 277))
  obtain ⟨k, hk⟩ : ∃ k, k = w1.heap.size := ⟨_, rfl⟩
  rw [← hk] at ka0 ka1 kf0 kf1 ⊢
  have HK := Lib.hid hk
  clear hk
  generalize w1.alloc (.cells #[.slice none 0 0, .int .u32 0] 277) = U at *
  go_wp2_with fail
  refine (init_BooleanLiteral k rb cap p B _ _ U ka0 ka1 kf0 kf1 (h.below HBA.out hrb) (by rw [HK.out]; omega) hc hl hp).mono ?_
  rintro e w2 ⟨rfl, hT, hB1⟩
  clear ka0 ka1 kf0 kf1
  go_wp2_with fail
  go_ret
  have hK := HK.out
  subst hK
  exact ⟨_, rfl, Nat.le_refl _, hT, HBA.out.trans hB1⟩

set_option maxRecDepth 100000 in
theorem root_IntegerLiteral (rb cap p : Nat) (B : By) (hd : leAt B 0 4 = p) (hl : B.length < 2147483648) (h4 : 4 ≤ B.length) (hp : p < B.length) (hc : B.length ≤ cap) (w : World) (h : BufIn w rb B) :
    Calls Tryz.prog 38 #[.slice (some ⟨rb, 0, none⟩) (B.length : Nat) cap, .int .u32 0] w fun e w' => ∃ k, e = .returned (.pointer (some ⟨k, 0, none⟩)) ∧ w.heap.size ≤ k ∧ TabIn w' k 0 rb cap B p ∧ Below w.heap.size w w' := by
  have hrb := h.lt (by omega)
  have hq0 : (0 : Int) ≤ (B.length : Int) := by omega
  have U : Hid (Calls Tryz.prog 73 #[.slice (some ⟨rb, 0, none⟩) (B.length : Nat) cap] w fun e w' => e = .returned (.int .u32 (p : Nat)) ∧ w' = w) := Lib.hid (by
    have := uoff_any rb 0 B.length cap B w h (by omega) h4
    rw [hd] at this
    exact this)
  go_enter Tryz.func38, Tryz.ntmps38
  go_wp2_with fail
  refine U.out.mono ?_
  rintro e w1 ⟨rfl, rfl⟩
  clear hd U
  go_upto_region 3 with fail
  obtain ⟨ka0, ka1, kf0, kf1⟩ := two_new w1 (.slice none 0 0) (.int .u32 0) 279
  have HBA := Lib.hid (Below.alloc (Below.refl w1.heap.size w1) (Nat.le_refl _) (.cells #[.slice none 0 0, .int .u32 0] 279))
  obtain ⟨k, hk⟩ : ∃ k, k = w1.heap.size := ⟨_, rfl⟩
  rw [← hk] at ka0 ka1 kf0 kf1 ⊢
  have HK := Lib.hid hk
  clear hk
  generalize w1.alloc (.cells #[.slice none 0 0, .int .u32 0] 279) = U at *
  go_wp2_with fail
  refine (init_IntegerLiteral k rb cap p B _ _ U ka0 ka1 kf0 kf1 (h.below HBA.out hrb) (by rw [HK.out]; omega) hc hl hp).mono ?_
  rintro e w2 ⟨rfl, hT, hB1⟩
  clear ka0 ka1 kf0 kf1
  go_wp2_with fail
  go_ret
  have hK := HK.out
  subst hK
  exact ⟨_, rfl, Nat.le_refl _, hT, HBA.out.trans hB1⟩

set_option maxRecDepth 100000 in
theorem root_NamedType (rb cap p : Nat) (B : By) (hd : leAt B 0 4 = p) (hl : B.length < 2147483648) (h4 : 4 ≤ B.length) (hp : p < B.length) (hc : B.length ≤ cap) (w : World) (h : BufIn w rb B) :
    Calls Tryz.prog 40 #[.slice (some ⟨rb, 0, none⟩) (B.length : Nat) cap, .int .u32 0] w fun e w' => ∃ k, e = .returned (.pointer (some ⟨k, 0, none⟩)) ∧ w.heap.size ≤ k ∧ TabIn w' k 0 rb cap B p ∧ Below w.heap.size w w' := by
  have hrb := h.lt (by omega)
  have hq0 : (0 : Int) ≤ (B.length : Int) := by omega
  have U : Hid (Calls Tryz.prog 73 #[.slice (some ⟨rb, 0, none⟩) (B.length : Nat) cap] w fun e w' => e = .returned (.int .u32 (p : Nat)) ∧ w' = w) := Lib.hid (by
    have := uoff_any rb 0 B.length cap B w h (by omega) h4
    rw [hd] at this
    exact this)
  go_enter Tryz.func40, Tryz.ntmps40
  go_wp2_with fail
  refine U.out.mono ?_
  rintro e w1 ⟨rfl, rfl⟩
  clear hd U
  go_upto_region 3 with fail
  obtain ⟨ka0, ka1, kf0, kf1⟩ := two_new w1 (.slice none 0 0) (.int .u32 0) 283
  have HBA := Lib.hid (Below.alloc (Below.refl w1.heap.size w1) (Nat.le_refl _) (.cells #[.slice none 0 0, .int .u32 0] 283))
  obtain ⟨k, hk⟩ : ∃ k, k = w1.heap.size := ⟨_, rfl⟩
  rw [← hk] at ka0 ka1 kf0 kf1 ⊢
  have HK := Lib.hid hk
  clear hk
  generalize w1.alloc (.cells #[.slice none 0 0, .int .u32 0] 283) = U at *
  go_wp2_with fail
  refine (init_NamedType k rb cap p B _ _ U ka0 ka1 kf0 kf1 (h.below HBA.out hrb) (by rw [HK.out]; omega) hc hl hp).mono ?_
  rintro e w2 ⟨rfl, hT, hB1⟩
  clear ka0 ka1 kf0 kf1
  go_wp2_with fail
  go_ret
  have hK := HK.out
  subst hK
  exact ⟨_, rfl, Nat.le_refl _, hT, HBA.out.trans hB1⟩

set_option maxRecDepth 100000 in
theorem root_PackageClause (rb cap p : Nat) (B : By) (hd : leAt B 0 4 = p) (hl : B.length < 2147483648) (h4 : 4 ≤ B.length) (hp : p < B.length) (hc : B.length ≤ cap) (w : World) (h : BufIn w rb B) :
    Calls Tryz.prog 42 #[.slice (some ⟨rb, 0, none⟩) (B.length : Nat) cap, .int .u32 0] w fun e w' => ∃ k, e = .returned (.pointer (some ⟨k, 0, none⟩)) ∧ w.heap.size ≤ k ∧ TabIn w' k 0 rb cap B p ∧ Below w.heap.size w w' := by
  have hrb := h.lt (by omega)
  have hq0 : (0 : Int) ≤ (B.length : Int) := by omega
  have U : Hid (Calls Tryz.prog 73 #[.slice (some ⟨rb, 0, none⟩) (B.length : Nat) cap] w fun e w' => e = .returned (.int .u32 (p : Nat)) ∧ w' = w) := Lib.hid (by
    have := uoff_any rb 0 B.length cap B w h (by omega) h4
    rw [hd] at this
    exact this)
  go_enter Tryz.func42, Tryz.ntmps42
  go_wp2_with fail
  refine U.out.mono ?_
  rintro e w1 ⟨rfl, rfl⟩
  clear hd U
  go_upto_region 3 with fail
  obtain ⟨ka0, ka1, kf0, kf1⟩ := two_new w1 (.slice none 0 0) (.int .u32 0) 284
  have HBA := Lib.hid (Below.alloc (Below.refl w1.heap.size w1) (Nat.le_refl _) (.cells #[.slice none 0 0, .int .u32 0] 284))
  obtain ⟨k, hk⟩ : ∃ k, k = w1.heap.size := ⟨_, rfl⟩
  rw [← hk] at ka0 ka1 kf0 kf1 ⊢
  have HK := Lib.hid hk
  clear hk
  generalize w1.alloc (.cells #[.slice none 0 0, .int .u32 0] 284) = U at *
  go_wp2_with fail
  refine (init_PackageClause k rb cap p B _ _ U ka0 ka1 kf0 kf1 (h.below HBA.out hrb) (by rw [HK.out]; omega) hc hl hp).mono ?_
  rintro e w2 ⟨rfl, hT, hB1⟩
  clear ka0 ka1 kf0 kf1
  go_wp2_with fail
  go_ret
  have hK := HK.out
  subst hK
  exact ⟨_, rfl, Nat.le_refl _, hT, HBA.out.trans hB1⟩

set_option maxRecDepth 100000 in
theorem root_DateTimeLiteral (rb cap p : Nat) (B : By) (hd : leAt B 0 4 = p) (hl : B.length < 2147483648) (h4 : 4 ≤ B.length) (hp : p < B.length) (hc : B.length ≤ cap) (w : World) (h : BufIn w rb B) :
    Calls Tryz.prog 44 #[.slice (some ⟨rb, 0, none⟩) (B.length : Nat) cap, .int .u32 0] w fun e w' => ∃ k, e = .returned (.pointer (some ⟨k, 0, none⟩)) ∧ w.heap.size ≤ k ∧ TabIn w' k 0 rb cap B p ∧ Below w.heap.size w w' := by
  have hrb := h.lt (by omega)
  have hq0 : (0 : Int) ≤ (B.length : Int) := by omega
  have U : Hid (Calls Tryz.prog 73 #[.slice (some ⟨rb, 0, none⟩) (B.length : Nat) cap] w fun e w' => e = .returned (.int .u32 (p : Nat)) ∧ w' = w) := Lib.hid (by
    have := uoff_any rb 0 B.length cap B w h (by omega) h4
    rw [hd] at this
    exact this)
  go_enter Tryz.func44, Tryz.ntmps44
  go_wp2_with fail
  refine U.out.mono ?_
  rintro e w1 ⟨rfl, rfl⟩
  clear hd U
  go_upto_region 3 with fail
  obtain ⟨ka0, ka1, kf0, kf1⟩ := two_new w1 (.slice none 0 0) (.int .u32 0) 289
  have HBA := Lib.hid (Below.alloc (Below.refl w1.heap.size w1) (Nat.le_refl _) (.cells #[.slice none 0 0, .int .u32 0] 289))
  obtain ⟨k, hk⟩ : ∃ k, k = w1.heap.size := ⟨_, rfl⟩
  rw [← hk] at ka0 ka1 kf0 kf1 ⊢
  have HK := Lib.hid hk
  clear hk
  generalize w1.alloc (.cells #[.slice none 0 0, .int .u32 0] 289) = U at *
  go_wp2_with fail
  refine (init_DateTimeLiteral k rb cap p B _ _ U ka0 ka1 kf0 kf1 (h.below HBA.out hrb) (by rw [HK.out]; omega) hc hl hp).mono ?_
  rintro e w2 ⟨rfl, hT, hB1⟩
  clear ka0 ka1 kf0 kf1
  go_wp2_with fail
  go_ret
  have hK := HK.out
  subst hK
  exact ⟨_, rfl, Nat.le_refl _, hT, HBA.out.trans hB1⟩

set_option maxRecDepth 100000 in
theorem root_TypeConstraint (rb cap p : Nat) (B : By) (hd : leAt B 0 4 = p) (hl : B.length < 2147483648) (h4 : 4 ≤ B.length) (hp : p < B.length) (hc : B.length ≤ cap) (w : World) (h : BufIn w rb B) :
    Calls Tryz.prog 46 #[.slice (some ⟨rb, 0, none⟩) (B.length : Nat) cap, .int .u32 0] w fun e w' => ∃ k, e = .returned (.pointer (some ⟨k, 0, none⟩)) ∧ w.heap.size ≤ k ∧ TabIn w' k 0 rb cap B p ∧ Below w.heap.size w w' := by
  have hrb := h.lt (by omega)
  have hq0 : (0 : Int) ≤ (B.length : Int) := by omega
  have U : Hid (Calls Tryz.prog 73 #[.slice (some ⟨rb, 0, none⟩) (B.length : Nat) cap] w fun e w' => e = .returned (.int .u32 (p : Nat)) ∧ w' = w) := Lib.hid (by
    have := uoff_any rb 0 B.length cap B w h (by omega) h4
    rw [hd] at this
    exact this)
  go_enter Tryz.func46, Tryz.ntmps46
  go_wp2_with fail
  refine U.out.mono ?_
  rintro e w1 ⟨rfl, rfl⟩
  clear hd U
  go_upto_region 3 with fail
  obtain ⟨ka0, ka1, kf0, kf1⟩ := two_new w1 (.slice none 0 0) (.int .u32 0) 296
  have HBA := Lib.hid (Below.alloc (Below.refl w1.heap.size w1) (Nat.le_refl _) (.cells #[.slice none 0 0, .int .u32 0] 296))
  obtain ⟨k, hk⟩ : ∃ k, k = w1.heap.size := ⟨_, rfl⟩
  rw [← hk] at ka0 ka1 kf0 kf1 ⊢
  have HK := Lib.hid hk
  clear hk
  generalize w1.alloc (.cells #[.slice none 0 0, .int .u32 0] 296) = U at *
  go_wp2_with fail
  refine (init_TypeConstraint k rb cap p B _ _ U ka0 ka1 kf0 kf1 (h.below HBA.out hrb) (by rw [HK.out]; omega) hc hl hp).mono ?_
  rintro e w2 ⟨rfl, hT, hB1⟩
  clear ka0 ka1 kf0 kf1
  go_wp2_with fail
  go_ret
  have hK := HK.out
  subst hK
  exact ⟨_, rfl, Nat.le_refl _, hT, HBA.out.trans hB1⟩

end Go.Proofs.YtdljkanfebndaaaGreatDoor
