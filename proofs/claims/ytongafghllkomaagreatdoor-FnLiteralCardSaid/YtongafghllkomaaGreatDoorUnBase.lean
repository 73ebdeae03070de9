/-
  What unnode's arms share: exactly, and the types' numbers. No conditions.
-/
import Derived.Test.YtongafghllkomaaGreatDoorGood
import Derived.Deep.RegionHeld3
namespace Go.Proofs.YtongafghllkomaaGreatDoor
open Go.RowKit
set_option linter.unusedVariables false

theorem exactly_any (k : Int) (t m : ByteArray) (u : Int) (ao : Option Addr) (len cap : Nat) (w : World) :
    Calls Tryz.prog 59 #[.agg #[.int .i64 k, .string t, .string m, .int .u64 u, .slice ao len cap], .int .i64 (len : Int)] w fun e w' => e = .returned (.tuple #[]) ∧ Below w.heap.size w w' := by
  go_enter Tryz.func59, Tryz.ntmps59
  go_wp2_with fail
  go_end0
  exact ⟨rfl, (Below.refl _ _).alloc (Nat.le_refl _) _⟩

theorem unpost {d : Nat} {n : Nd} {w W : World} {T S b : Nat} (cs : List Value) (hT : pTy n.kind = T) (hS : sTy n.kind = S) (hbs : b = W.heap.size) (hB : Below w.heap.size w W) (hs : SlotsOk (From w.heap.size) (RepD (From w.heap.size) d) (W.alloc (.cells cs.toArray S)) (slots n) cs) :
    UnPost (d + 1) n w (.returned (.iface T (.pointer (some ⟨b, 0, none⟩)))) (W.alloc (.cells cs.toArray S)) := by
  subst hT hS hbs
  exact ⟨W.heap.size, rfl, ⟨hB.size, cs, heap_alloc_new _ _, hs⟩, hB.alloc hB.size _⟩

theorem MPtr.some {A : Nat → Prop} {R : World → Nd → Nat → Prop} {w : World} {n : Nd} {b : Nat} (h : n.kind ≠ 0) (hR : R w n b) : SlotOk A R w (.mptr n) (.pointer (some ⟨b, 0, none⟩)) := Or.inr ⟨h, b, rfl, hR⟩
theorem ptrTy_2 : pTy 2 = 96 := by decide
theorem ptrTy_3 : pTy 3 = 80 := by decide
theorem ptrTy_4 : pTy 4 = 109 := by decide
theorem ptrTy_5 : pTy 5 = 104 := by decide
theorem ptrTy_6 : pTy 6 = 120 := by decide
theorem ptrTy_7 : pTy 7 = 123 := by decide
theorem ptrTy_8 : pTy 8 = 126 := by decide
theorem ptrTy_9 : pTy 9 = 130 := by decide
theorem ptrTy_10 : pTy 10 = 133 := by decide
theorem ptrTy_11 : pTy 11 = 136 := by decide
theorem ptrTy_12 : pTy 12 = 141 := by decide
theorem ptrTy_14 : pTy 14 = 157 := by decide
theorem ptrTy_15 : pTy 15 = 161 := by decide
theorem ptrTy_16 : pTy 16 = 165 := by decide
theorem ptrTy_17 : pTy 17 = 137 := by decide
theorem ptrTy_18 : pTy 18 = 175 := by decide
theorem ptrTy_19 : pTy 19 = 178 := by decide
theorem ptrTy_20 : pTy 20 = 182 := by decide
theorem ptrTy_21 : pTy 21 = 188 := by decide
theorem ptrTy_22 : pTy 22 = 193 := by decide
theorem ptrTy_23 : pTy 23 = 196 := by decide
theorem ptrTy_24 : pTy 24 = 201 := by decide
theorem ptrTy_25 : pTy 25 = 204 := by decide
theorem ptrTy_26 : pTy 26 = 207 := by decide
theorem ptrTy_27 : pTy 27 = 210 := by decide
theorem ptrTy_28 : pTy 28 = 92 := by decide
theorem ptrTy_29 : pTy 29 = 185 := by decide
theorem ptrTy_30 : pTy 30 = 221 := by decide
theorem ptrTy_31 : pTy 31 = 228 := by decide
theorem ptrTy_32 : pTy 32 = 230 := by decide
theorem ptrTy_33 : pTy 33 = 113 := by decide
theorem ptrTy_34 : pTy 34 = 65 := by decide
theorem ptrTy_35 : pTy 35 = 70 := by decide
theorem ptrTy_36 : pTy 36 = 49 := by decide
theorem ptrTy_37 : pTy 37 = 60 := by decide
theorem ptrTy_38 : pTy 38 = 234 := by decide
theorem ptrTy_39 : pTy 39 = 239 := by decide
theorem ptrTy_41 : pTy 41 = 244 := by decide
theorem ptrTy_42 : pTy 42 = 250 := by decide
theorem ptrTy_43 : pTy 43 = 255 := by decide
end Go.Proofs.YtongafghllkomaaGreatDoor
