/-
  orNone at each type that a walked tree wants, and expressionOrNone, given node's own contract. No conditions.
-/
import Derived.Test.YtdljkanfebndaaaGreatDoorTests
namespace Go.Proofs.YtdljkanfebndaaaGreatDoor
open Go.RowKit
set_option linter.unusedVariables false

/-- Nothing, as a plain node. -/
def NonePost (w : World) (e : Ending) (w' : World) : Prop := e = .returned (.agg #[.int .i64 0, .string ⟨#[]⟩, .string ⟨#[]⟩, .int .u64 0, .slice none 0 0]) ∧ Below w.heap.size w w'

theorem orNone_4 (d : Nat) (hN : NodeC d) (e : Nat) (A : Nat → Prop) (n : Nd) (b : Nat) (w : World) (hG : GoodW e n) (hR : RepD A d w n b) (hk : n.kind = 4) :
    Calls Tryz.prog 51 #[.pointer (some ⟨b, 0, none⟩)] w (NodePost n w) := by
  have H := Lib.hid (show ∀ w', Below w.heap.size w w' → Calls Tryz.prog 27 #[.iface 83 (.pointer (some ⟨b, 0, none⟩))] w' (NodePost n w') from fun w' hb => by
    have h := hN e A n b w' hG (hR.below hb)
    rw [hk, ptrTy_4] at h
    exact h)
  clear hR hk
  go_enter Tryz.func51, Tryz.ntmps51
  go_wp2_with fail
  refine (H.out _ ((Below.refl _ _).alloc (Nat.le_refl _) _)).mono ?_
  rintro e w1 ⟨E, m, rfl, hS, hl, hb1⟩
  have HS := Lib.hid hS
  have Hl := Lib.hid hl
  have HB := Lib.hid hb1
  obtain ⟨k0, f0⟩ := bblk hb1 (b := w.heap.size) (by simp)
  clear hS hl hb1
  go_wp2_with fail
  refine bodyPost_ret (v := .agg #[.int .i64 m.kind, .string m.text, .string m.more, .int .u64 m.num, .slice m.ao m.kids.length m.cap]) ?_ rfl (NodePost.stored _ _ _ _ _ (NodePost.keep HS.out Hl.out HB.out))
  simp [results, Tryz.f51, go_sem, k0]

theorem orNone_4_none (w : World) : Calls Tryz.prog 51 #[.pointer none] w (NonePost w) := by
  go_enter Tryz.func51, Tryz.ntmps51
  go_wp2_with fail
  refine bodyPost_ret (v := .agg #[.int .i64 0, .string ⟨#[]⟩, .string ⟨#[]⟩, .int .u64 0, .slice none 0 0]) (by simp [results, Tryz.f51, go_sem]) rfl ⟨rfl, ?hb⟩
  exact (Below.refl _ _).alloc (Nat.le_refl _) _

theorem orNone_33 (d : Nat) (hN : NodeC d) (e : Nat) (A : Nat → Prop) (n : Nd) (b : Nat) (w : World) (hG : GoodW e n) (hR : RepD A d w n b) (hk : n.kind = 33) :
    Calls Tryz.prog 54 #[.pointer (some ⟨b, 0, none⟩)] w (NodePost n w) := by
  have H := Lib.hid (show ∀ w', Below w.heap.size w w' → Calls Tryz.prog 27 #[.iface 77 (.pointer (some ⟨b, 0, none⟩))] w' (NodePost n w') from fun w' hb => by
    have h := hN e A n b w' hG (hR.below hb)
    rw [hk, ptrTy_33] at h
    exact h)
  clear hR hk
  go_enter Tryz.func54, Tryz.ntmps54
  go_wp2_with fail
  refine (H.out _ ((Below.refl _ _).alloc (Nat.le_refl _) _)).mono ?_
  rintro e w1 ⟨E, m, rfl, hS, hl, hb1⟩
  have HS := Lib.hid hS
  have Hl := Lib.hid hl
  have HB := Lib.hid hb1
  obtain ⟨k0, f0⟩ := bblk hb1 (b := w.heap.size) (by simp)
  clear hS hl hb1
  go_wp2_with fail
  refine bodyPost_ret (v := .agg #[.int .i64 m.kind, .string m.text, .string m.more, .int .u64 m.num, .slice m.ao m.kids.length m.cap]) ?_ rfl (NodePost.stored _ _ _ _ _ (NodePost.keep HS.out Hl.out HB.out))
  simp [results, Tryz.f54, go_sem, k0]

theorem orNone_33_none (w : World) : Calls Tryz.prog 54 #[.pointer none] w (NonePost w) := by
  go_enter Tryz.func54, Tryz.ntmps54
  go_wp2_with fail
  refine bodyPost_ret (v := .agg #[.int .i64 0, .string ⟨#[]⟩, .string ⟨#[]⟩, .int .u64 0, .slice none 0 0]) (by simp [results, Tryz.f54, go_sem]) rfl ⟨rfl, ?hb⟩
  exact (Below.refl _ _).alloc (Nat.le_refl _) _

theorem orNone_34 (d : Nat) (hN : NodeC d) (e : Nat) (A : Nat → Prop) (n : Nd) (b : Nat) (w : World) (hG : GoodW e n) (hR : RepD A d w n b) (hk : n.kind = 34) :
    Calls Tryz.prog 55 #[.pointer (some ⟨b, 0, none⟩)] w (NodePost n w) := by
  have H := Lib.hid (show ∀ w', Below w.heap.size w w' → Calls Tryz.prog 27 #[.iface 127 (.pointer (some ⟨b, 0, none⟩))] w' (NodePost n w') from fun w' hb => by
    have h := hN e A n b w' hG (hR.below hb)
    rw [hk, ptrTy_34] at h
    exact h)
  clear hR hk
  go_enter Tryz.func55, Tryz.ntmps55
  go_wp2_with fail
  refine (H.out _ ((Below.refl _ _).alloc (Nat.le_refl _) _)).mono ?_
  rintro e w1 ⟨E, m, rfl, hS, hl, hb1⟩
  have HS := Lib.hid hS
  have Hl := Lib.hid hl
  have HB := Lib.hid hb1
  obtain ⟨k0, f0⟩ := bblk hb1 (b := w.heap.size) (by simp)
  clear hS hl hb1
  go_wp2_with fail
  refine bodyPost_ret (v := .agg #[.int .i64 m.kind, .string m.text, .string m.more, .int .u64 m.num, .slice m.ao m.kids.length m.cap]) ?_ rfl (NodePost.stored _ _ _ _ _ (NodePost.keep HS.out Hl.out HB.out))
  simp [results, Tryz.f55, go_sem, k0]

theorem orNone_34_none (w : World) : Calls Tryz.prog 55 #[.pointer none] w (NonePost w) := by
  go_enter Tryz.func55, Tryz.ntmps55
  go_wp2_with fail
  refine bodyPost_ret (v := .agg #[.int .i64 0, .string ⟨#[]⟩, .string ⟨#[]⟩, .int .u64 0, .slice none 0 0]) (by simp [results, Tryz.f55, go_sem]) rfl ⟨rfl, ?hb⟩
  exact (Below.refl _ _).alloc (Nat.le_refl _) _

theorem orNone_17 (d : Nat) (hN : NodeC d) (e : Nat) (A : Nat → Prop) (n : Nd) (b : Nat) (w : World) (hG : GoodW e n) (hR : RepD A d w n b) (hk : n.kind = 17) :
    Calls Tryz.prog 57 #[.pointer (some ⟨b, 0, none⟩)] w (NodePost n w) := by
  have H := Lib.hid (show ∀ w', Below w.heap.size w w' → Calls Tryz.prog 27 #[.iface 156 (.pointer (some ⟨b, 0, none⟩))] w' (NodePost n w') from fun w' hb => by
    have h := hN e A n b w' hG (hR.below hb)
    rw [hk, ptrTy_17] at h
    exact h)
  clear hR hk
  go_enter Tryz.func57, Tryz.ntmps57
  go_wp2_with fail
  refine (H.out _ ((Below.refl _ _).alloc (Nat.le_refl _) _)).mono ?_
  rintro e w1 ⟨E, m, rfl, hS, hl, hb1⟩
  have HS := Lib.hid hS
  have Hl := Lib.hid hl
  have HB := Lib.hid hb1
  obtain ⟨k0, f0⟩ := bblk hb1 (b := w.heap.size) (by simp)
  clear hS hl hb1
  go_wp2_with fail
  refine bodyPost_ret (v := .agg #[.int .i64 m.kind, .string m.text, .string m.more, .int .u64 m.num, .slice m.ao m.kids.length m.cap]) ?_ rfl (NodePost.stored _ _ _ _ _ (NodePost.keep HS.out Hl.out HB.out))
  simp [results, Tryz.f57, go_sem, k0]

theorem orNone_17_none (w : World) : Calls Tryz.prog 57 #[.pointer none] w (NonePost w) := by
  go_enter Tryz.func57, Tryz.ntmps57
  go_wp2_with fail
  refine bodyPost_ret (v := .agg #[.int .i64 0, .string ⟨#[]⟩, .string ⟨#[]⟩, .int .u64 0, .slice none 0 0]) (by simp [results, Tryz.f57, go_sem]) rfl ⟨rfl, ?hb⟩
  exact (Below.refl _ _).alloc (Nat.le_refl _) _

theorem orNone_10 (d : Nat) (hN : NodeC d) (e : Nat) (A : Nat → Prop) (n : Nd) (b : Nat) (w : World) (hG : GoodW e n) (hR : RepD A d w n b) (hk : n.kind = 10) :
    Calls Tryz.prog 59 #[.pointer (some ⟨b, 0, none⟩)] w (NodePost n w) := by
  have H := Lib.hid (show ∀ w', Below w.heap.size w w' → Calls Tryz.prog 27 #[.iface 147 (.pointer (some ⟨b, 0, none⟩))] w' (NodePost n w') from fun w' hb => by
    have h := hN e A n b w' hG (hR.below hb)
    rw [hk, ptrTy_10] at h
    exact h)
  clear hR hk
  go_enter Tryz.func59, Tryz.ntmps59
  go_wp2_with fail
  refine (H.out _ ((Below.refl _ _).alloc (Nat.le_refl _) _)).mono ?_
  rintro e w1 ⟨E, m, rfl, hS, hl, hb1⟩
  have HS := Lib.hid hS
  have Hl := Lib.hid hl
  have HB := Lib.hid hb1
  obtain ⟨k0, f0⟩ := bblk hb1 (b := w.heap.size) (by simp)
  clear hS hl hb1
  go_wp2_with fail
  refine bodyPost_ret (v := .agg #[.int .i64 m.kind, .string m.text, .string m.more, .int .u64 m.num, .slice m.ao m.kids.length m.cap]) ?_ rfl (NodePost.stored _ _ _ _ _ (NodePost.keep HS.out Hl.out HB.out))
  simp [results, Tryz.f59, go_sem, k0]

theorem orNone_10_none (w : World) : Calls Tryz.prog 59 #[.pointer none] w (NonePost w) := by
  go_enter Tryz.func59, Tryz.ntmps59
  go_wp2_with fail
  refine bodyPost_ret (v := .agg #[.int .i64 0, .string ⟨#[]⟩, .string ⟨#[]⟩, .int .u64 0, .slice none 0 0]) (by simp [results, Tryz.f59, go_sem]) rfl ⟨rfl, ?hb⟩
  exact (Below.refl _ _).alloc (Nat.le_refl _) _

theorem orNone_6 (d : Nat) (hN : NodeC d) (e : Nat) (A : Nat → Prop) (n : Nd) (b : Nat) (w : World) (hG : GoodW e n) (hR : RepD A d w n b) (hk : n.kind = 6) :
    Calls Tryz.prog 60 #[.pointer (some ⟨b, 0, none⟩)] w (NodePost n w) := by
  have H := Lib.hid (show ∀ w', Below w.heap.size w w' → Calls Tryz.prog 27 #[.iface 133 (.pointer (some ⟨b, 0, none⟩))] w' (NodePost n w') from fun w' hb => by
    have h := hN e A n b w' hG (hR.below hb)
    rw [hk, ptrTy_6] at h
    exact h)
  clear hR hk
  go_enter Tryz.func60, Tryz.ntmps60
  go_wp2_with fail
  refine (H.out _ ((Below.refl _ _).alloc (Nat.le_refl _) _)).mono ?_
  rintro e w1 ⟨E, m, rfl, hS, hl, hb1⟩
  have HS := Lib.hid hS
  have Hl := Lib.hid hl
  have HB := Lib.hid hb1
  obtain ⟨k0, f0⟩ := bblk hb1 (b := w.heap.size) (by simp)
  clear hS hl hb1
  go_wp2_with fail
  refine bodyPost_ret (v := .agg #[.int .i64 m.kind, .string m.text, .string m.more, .int .u64 m.num, .slice m.ao m.kids.length m.cap]) ?_ rfl (NodePost.stored _ _ _ _ _ (NodePost.keep HS.out Hl.out HB.out))
  simp [results, Tryz.f60, go_sem, k0]

theorem orNone_6_none (w : World) : Calls Tryz.prog 60 #[.pointer none] w (NonePost w) := by
  go_enter Tryz.func60, Tryz.ntmps60
  go_wp2_with fail
  refine bodyPost_ret (v := .agg #[.int .i64 0, .string ⟨#[]⟩, .string ⟨#[]⟩, .int .u64 0, .slice none 0 0]) (by simp [results, Tryz.f60, go_sem]) rfl ⟨rfl, ?hb⟩
  exact (Below.refl _ _).alloc (Nat.le_refl _) _

theorem orNone_16 (d : Nat) (hN : NodeC d) (e : Nat) (A : Nat → Prop) (n : Nd) (b : Nat) (w : World) (hG : GoodW e n) (hR : RepD A d w n b) (hk : n.kind = 16) :
    Calls Tryz.prog 62 #[.pointer (some ⟨b, 0, none⟩)] w (NodePost n w) := by
  have H := Lib.hid (show ∀ w', Below w.heap.size w w' → Calls Tryz.prog 27 #[.iface 182 (.pointer (some ⟨b, 0, none⟩))] w' (NodePost n w') from fun w' hb => by
    have h := hN e A n b w' hG (hR.below hb)
    rw [hk, ptrTy_16] at h
    exact h)
  clear hR hk
  go_enter Tryz.func62, Tryz.ntmps62
  go_wp2_with fail
  refine (H.out _ ((Below.refl _ _).alloc (Nat.le_refl _) _)).mono ?_
  rintro e w1 ⟨E, m, rfl, hS, hl, hb1⟩
  have HS := Lib.hid hS
  have Hl := Lib.hid hl
  have HB := Lib.hid hb1
  obtain ⟨k0, f0⟩ := bblk hb1 (b := w.heap.size) (by simp)
  clear hS hl hb1
  go_wp2_with fail
  refine bodyPost_ret (v := .agg #[.int .i64 m.kind, .string m.text, .string m.more, .int .u64 m.num, .slice m.ao m.kids.length m.cap]) ?_ rfl (NodePost.stored _ _ _ _ _ (NodePost.keep HS.out Hl.out HB.out))
  simp [results, Tryz.f62, go_sem, k0]

theorem orNone_16_none (w : World) : Calls Tryz.prog 62 #[.pointer none] w (NonePost w) := by
  go_enter Tryz.func62, Tryz.ntmps62
  go_wp2_with fail
  refine bodyPost_ret (v := .agg #[.int .i64 0, .string ⟨#[]⟩, .string ⟨#[]⟩, .int .u64 0, .slice none 0 0]) (by simp [results, Tryz.f62, go_sem]) rfl ⟨rfl, ?hb⟩
  exact (Below.refl _ _).alloc (Nat.le_refl _) _

theorem exprOrNone (d : Nat) (hN : NodeC d) (e : Nat) (A : Nat → Prop) (n : Nd) (b : Nat) (w : World) (hG : GoodW e n) (hR : RepD A d w n b) :
    Calls Tryz.prog 56 #[.iface (pTy n.kind) (.pointer (some ⟨b, 0, none⟩))] w (NodePost n w) := by
  have h := fun w' hb => hN e A n b w' hG (hR.below hb)
  obtain ⟨T, hT⟩ : ∃ T, pTy n.kind = T := ⟨_, rfl⟩
  rw [hT] at h ⊢
  have H := Lib.hid h
  clear h hT hR
  go_enter Tryz.func56, Tryz.ntmps56
  go_wp2_with fail
  refine (H.out _ ((Below.refl _ _).alloc (Nat.le_refl _) _)).mono ?_
  rintro e w1 ⟨E, m, rfl, hS, hl, hb1⟩
  have HS := Lib.hid hS
  have Hl := Lib.hid hl
  have HB := Lib.hid hb1
  obtain ⟨k0, f0⟩ := bblk hb1 (b := w.heap.size) (by simp)
  clear hS hl hb1
  go_wp2_with fail
  refine bodyPost_ret (v := .agg #[.int .i64 m.kind, .string m.text, .string m.more, .int .u64 m.num, .slice m.ao m.kids.length m.cap]) ?_ rfl (NodePost.stored _ _ _ _ _ (NodePost.keep HS.out Hl.out HB.out))
  simp [results, Tryz.f56, go_sem, k0]

theorem exprOrNone_none (w : World) : Calls Tryz.prog 56 #[.nilIface] w (NonePost w) := by
  go_enter Tryz.func56, Tryz.ntmps56
  go_wp2_with fail
  refine bodyPost_ret (v := .agg #[.int .i64 0, .string ⟨#[]⟩, .string ⟨#[]⟩, .int .u64 0, .slice none 0 0]) (by simp [results, Tryz.f56, go_sem]) rfl ⟨rfl, ?hb⟩
  exact (Below.refl _ _).alloc (Nat.le_refl _) _
end Go.Proofs.YtdljkanfebndaaaGreatDoor
