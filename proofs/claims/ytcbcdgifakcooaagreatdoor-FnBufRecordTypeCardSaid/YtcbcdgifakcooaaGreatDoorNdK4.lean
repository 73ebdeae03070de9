/-
  node at the kinds in which identifiers alone stand. No conditions.
-/
import Derived.Test.YtcbcdgifakcooaaGreatDoorNdA
namespace Go.Proofs.YtcbcdgifakcooaaGreatDoor
open Go.RowKit
set_option linter.unusedVariables false
set_option linter.unusedSimpArgs false

/-- node's contract at one kind. -/
def NodeK (K : Int) (d : Nat) : Prop := ∀ (e : Nat) (A : Nat → Prop) (n : Nd) (b : Nat) (w : World), n.kind = K → GoodW e n → RepD A d w n b →
  Calls Tryz.prog 17 #[.iface (pTy n.kind) (.pointer (some ⟨b, 0, none⟩))] w (NodePost n w)

theorem node33 : NodeK 33 1 := fun e A n b w hk hG hR => by
  obtain ⟨e', rfl⟩ := hG.1.pre.pos
  exact nd_33 0 (fun e A n b w _ hR => hR.elim) e' A n b w hG.1.pre hG.2 hR hk

theorem orNoneK_33 (d : Nat) (hN : NodeK 33 d) (e : Nat) (A : Nat → Prop) (n : Nd) (b : Nat) (w : World) (hG : GoodW e n) (hR : RepD A d w n b) (hk : n.kind = 33) :
    Calls Tryz.prog 34 #[.pointer (some ⟨b, 0, none⟩)] w (NodePost n w) := by
  have H := Lib.hid (show ∀ w', Below w.heap.size w w' → Calls Tryz.prog 17 #[.iface 68 (.pointer (some ⟨b, 0, none⟩))] w' (NodePost n w') from fun w' hb => by
    have h := hN e A n b w' hk hG (hR.below hb)
    rw [hk, ptrTy_33] at h
    exact h)
  clear hR hk
  go_enter Tryz.func34, Tryz.ntmps34
  go_wp2_with fail
  refine (H.out _ ((Below.refl _ _).alloc (Nat.le_refl _) _)).mono ?_
  rintro e w1 ⟨E, m, rfl, hS, hl, hb1⟩
  have HS := Lib.hid hS
  have Hl := Lib.hid hl
  have HB := Lib.hid hb1
  obtain ⟨k0, f0⟩ := bblk hb1 (b := w.heap.size) (by simp)
  clear hS hl hb1
  go_wp2_with fail
  refine bodyPost_ret (v := .agg #[.int .i64 m.kind, .string m.text, .string m.more, .int .u64 m.num, .slice m.ao m.kids.length m.cap]) ?_ rfl (NodePost.stored _ _ _ _ _ (NodePost.keep HS.out Hl.out HB.out))
  simp [results, Tryz.f34, go_sem, k0]

theorem no_44 (T : TypeId) (h : T ≠ 144) (p : Value) (w : World) : Sem.run Tryz.prog (Instr.typeAssert (.iface T p) 77 144 true) w = .ok (.tuple #[.pointer none, .bool false]) w := by
  have hz : Sem.run Tryz.prog (zeroValue 144) w = .ok (.pointer none) w := by kernel_rfl
  unfold Instr.typeAssert
  simp [go_sem, hz, h]
theorem yes_44 (p : Value) (w : World) : Sem.run Tryz.prog (Instr.typeAssert (.iface 144 p) 77 144 true) w = .ok (.tuple #[p, .bool true]) w := by kernel_rfl
theorem no_45 (T : TypeId) (h : T ≠ 304) (p : Value) (w : World) : Sem.run Tryz.prog (Instr.typeAssert (.iface T p) 77 304 true) w = .ok (.tuple #[.pointer none, .bool false]) w := by
  have hz : Sem.run Tryz.prog (zeroValue 304) w = .ok (.pointer none) w := by kernel_rfl
  unfold Instr.typeAssert
  simp [go_sem, hz, h]
theorem yes_45 (p : Value) (w : World) : Sem.run Tryz.prog (Instr.typeAssert (.iface 304 p) 77 304 true) w = .ok (.tuple #[p, .bool true]) w := by kernel_rfl

end Go.Proofs.YtcbcdgifakcooaaGreatDoor
