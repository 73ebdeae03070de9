/-
  Which node of the package a value is told to be. No conditions.
-/
import Derived.Test.YtongafghllkomaaGreatDoorBack
namespace Go.Proofs.YtongafghllkomaaGreatDoor
open Go.RowKit
set_option linter.unusedVariables false

theorem no_2 (T : TypeId) (h : T ≠ 96) (p : Value) (w : World) : Sem.run Tryz.prog (Instr.typeAssert (.iface T p) 44 96 true) w = .ok (.tuple #[.pointer none, .bool false]) w := by
  have hz : Sem.run Tryz.prog (zeroValue 96) w = .ok (.pointer none) w := by kernel_rfl
  unfold Instr.typeAssert
  simp [go_sem, hz, h]
theorem yes_2 (p : Value) (w : World) : Sem.run Tryz.prog (Instr.typeAssert (.iface 96 p) 44 96 true) w = .ok (.tuple #[p, .bool true]) w := by kernel_rfl

theorem no_3 (T : TypeId) (h : T ≠ 80) (p : Value) (w : World) : Sem.run Tryz.prog (Instr.typeAssert (.iface T p) 44 80 true) w = .ok (.tuple #[.pointer none, .bool false]) w := by
  have hz : Sem.run Tryz.prog (zeroValue 80) w = .ok (.pointer none) w := by kernel_rfl
  unfold Instr.typeAssert
  simp [go_sem, hz, h]
theorem yes_3 (p : Value) (w : World) : Sem.run Tryz.prog (Instr.typeAssert (.iface 80 p) 44 80 true) w = .ok (.tuple #[p, .bool true]) w := by kernel_rfl

theorem no_4 (T : TypeId) (h : T ≠ 109) (p : Value) (w : World) : Sem.run Tryz.prog (Instr.typeAssert (.iface T p) 44 109 true) w = .ok (.tuple #[.pointer none, .bool false]) w := by
  have hz : Sem.run Tryz.prog (zeroValue 109) w = .ok (.pointer none) w := by kernel_rfl
  unfold Instr.typeAssert
  simp [go_sem, hz, h]
theorem yes_4 (p : Value) (w : World) : Sem.run Tryz.prog (Instr.typeAssert (.iface 109 p) 44 109 true) w = .ok (.tuple #[p, .bool true]) w := by kernel_rfl

theorem no_5 (T : TypeId) (h : T ≠ 104) (p : Value) (w : World) : Sem.run Tryz.prog (Instr.typeAssert (.iface T p) 44 104 true) w = .ok (.tuple #[.pointer none, .bool false]) w := by
  have hz : Sem.run Tryz.prog (zeroValue 104) w = .ok (.pointer none) w := by kernel_rfl
  unfold Instr.typeAssert
  simp [go_sem, hz, h]
theorem yes_5 (p : Value) (w : World) : Sem.run Tryz.prog (Instr.typeAssert (.iface 104 p) 44 104 true) w = .ok (.tuple #[p, .bool true]) w := by kernel_rfl

theorem no_6 (T : TypeId) (h : T ≠ 120) (p : Value) (w : World) : Sem.run Tryz.prog (Instr.typeAssert (.iface T p) 44 120 true) w = .ok (.tuple #[.pointer none, .bool false]) w := by
  have hz : Sem.run Tryz.prog (zeroValue 120) w = .ok (.pointer none) w := by kernel_rfl
  unfold Instr.typeAssert
  simp [go_sem, hz, h]
theorem yes_6 (p : Value) (w : World) : Sem.run Tryz.prog (Instr.typeAssert (.iface 120 p) 44 120 true) w = .ok (.tuple #[p, .bool true]) w := by kernel_rfl

theorem no_7 (T : TypeId) (h : T ≠ 123) (p : Value) (w : World) : Sem.run Tryz.prog (Instr.typeAssert (.iface T p) 44 123 true) w = .ok (.tuple #[.pointer none, .bool false]) w := by
  have hz : Sem.run Tryz.prog (zeroValue 123) w = .ok (.pointer none) w := by kernel_rfl
  unfold Instr.typeAssert
  simp [go_sem, hz, h]
theorem yes_7 (p : Value) (w : World) : Sem.run Tryz.prog (Instr.typeAssert (.iface 123 p) 44 123 true) w = .ok (.tuple #[p, .bool true]) w := by kernel_rfl

theorem no_8 (T : TypeId) (h : T ≠ 126) (p : Value) (w : World) : Sem.run Tryz.prog (Instr.typeAssert (.iface T p) 44 126 true) w = .ok (.tuple #[.pointer none, .bool false]) w := by
  have hz : Sem.run Tryz.prog (zeroValue 126) w = .ok (.pointer none) w := by kernel_rfl
  unfold Instr.typeAssert
  simp [go_sem, hz, h]
theorem yes_8 (p : Value) (w : World) : Sem.run Tryz.prog (Instr.typeAssert (.iface 126 p) 44 126 true) w = .ok (.tuple #[p, .bool true]) w := by kernel_rfl

theorem no_9 (T : TypeId) (h : T ≠ 130) (p : Value) (w : World) : Sem.run Tryz.prog (Instr.typeAssert (.iface T p) 44 130 true) w = .ok (.tuple #[.pointer none, .bool false]) w := by
  have hz : Sem.run Tryz.prog (zeroValue 130) w = .ok (.pointer none) w := by kernel_rfl
  unfold Instr.typeAssert
  simp [go_sem, hz, h]
theorem yes_9 (p : Value) (w : World) : Sem.run Tryz.prog (Instr.typeAssert (.iface 130 p) 44 130 true) w = .ok (.tuple #[p, .bool true]) w := by kernel_rfl

theorem no_10 (T : TypeId) (h : T ≠ 133) (p : Value) (w : World) : Sem.run Tryz.prog (Instr.typeAssert (.iface T p) 44 133 true) w = .ok (.tuple #[.pointer none, .bool false]) w := by
  have hz : Sem.run Tryz.prog (zeroValue 133) w = .ok (.pointer none) w := by kernel_rfl
  unfold Instr.typeAssert
  simp [go_sem, hz, h]
theorem yes_10 (p : Value) (w : World) : Sem.run Tryz.prog (Instr.typeAssert (.iface 133 p) 44 133 true) w = .ok (.tuple #[p, .bool true]) w := by kernel_rfl

theorem no_11 (T : TypeId) (h : T ≠ 136) (p : Value) (w : World) : Sem.run Tryz.prog (Instr.typeAssert (.iface T p) 44 136 true) w = .ok (.tuple #[.pointer none, .bool false]) w := by
  have hz : Sem.run Tryz.prog (zeroValue 136) w = .ok (.pointer none) w := by kernel_rfl
  unfold Instr.typeAssert
  simp [go_sem, hz, h]
theorem yes_11 (p : Value) (w : World) : Sem.run Tryz.prog (Instr.typeAssert (.iface 136 p) 44 136 true) w = .ok (.tuple #[p, .bool true]) w := by kernel_rfl

theorem no_12 (T : TypeId) (h : T ≠ 141) (p : Value) (w : World) : Sem.run Tryz.prog (Instr.typeAssert (.iface T p) 44 141 true) w = .ok (.tuple #[.pointer none, .bool false]) w := by
  have hz : Sem.run Tryz.prog (zeroValue 141) w = .ok (.pointer none) w := by kernel_rfl
  unfold Instr.typeAssert
  simp [go_sem, hz, h]
theorem yes_12 (p : Value) (w : World) : Sem.run Tryz.prog (Instr.typeAssert (.iface 141 p) 44 141 true) w = .ok (.tuple #[p, .bool true]) w := by kernel_rfl

theorem no_13 (T : TypeId) (h : T ≠ 147) (p : Value) (w : World) : Sem.run Tryz.prog (Instr.typeAssert (.iface T p) 44 147 true) w = .ok (.tuple #[.pointer none, .bool false]) w := by
  have hz : Sem.run Tryz.prog (zeroValue 147) w = .ok (.pointer none) w := by kernel_rfl
  unfold Instr.typeAssert
  simp [go_sem, hz, h]
theorem yes_13 (p : Value) (w : World) : Sem.run Tryz.prog (Instr.typeAssert (.iface 147 p) 44 147 true) w = .ok (.tuple #[p, .bool true]) w := by kernel_rfl

theorem no_14 (T : TypeId) (h : T ≠ 157) (p : Value) (w : World) : Sem.run Tryz.prog (Instr.typeAssert (.iface T p) 44 157 true) w = .ok (.tuple #[.pointer none, .bool false]) w := by
  have hz : Sem.run Tryz.prog (zeroValue 157) w = .ok (.pointer none) w := by kernel_rfl
  unfold Instr.typeAssert
  simp [go_sem, hz, h]
theorem yes_14 (p : Value) (w : World) : Sem.run Tryz.prog (Instr.typeAssert (.iface 157 p) 44 157 true) w = .ok (.tuple #[p, .bool true]) w := by kernel_rfl

theorem no_15 (T : TypeId) (h : T ≠ 161) (p : Value) (w : World) : Sem.run Tryz.prog (Instr.typeAssert (.iface T p) 44 161 true) w = .ok (.tuple #[.pointer none, .bool false]) w := by
  have hz : Sem.run Tryz.prog (zeroValue 161) w = .ok (.pointer none) w := by kernel_rfl
  unfold Instr.typeAssert
  simp [go_sem, hz, h]
theorem yes_15 (p : Value) (w : World) : Sem.run Tryz.prog (Instr.typeAssert (.iface 161 p) 44 161 true) w = .ok (.tuple #[p, .bool true]) w := by kernel_rfl

theorem no_16 (T : TypeId) (h : T ≠ 165) (p : Value) (w : World) : Sem.run Tryz.prog (Instr.typeAssert (.iface T p) 44 165 true) w = .ok (.tuple #[.pointer none, .bool false]) w := by
  have hz : Sem.run Tryz.prog (zeroValue 165) w = .ok (.pointer none) w := by kernel_rfl
  unfold Instr.typeAssert
  simp [go_sem, hz, h]
theorem yes_16 (p : Value) (w : World) : Sem.run Tryz.prog (Instr.typeAssert (.iface 165 p) 44 165 true) w = .ok (.tuple #[p, .bool true]) w := by kernel_rfl

theorem no_17 (T : TypeId) (h : T ≠ 137) (p : Value) (w : World) : Sem.run Tryz.prog (Instr.typeAssert (.iface T p) 44 137 true) w = .ok (.tuple #[.pointer none, .bool false]) w := by
  have hz : Sem.run Tryz.prog (zeroValue 137) w = .ok (.pointer none) w := by kernel_rfl
  unfold Instr.typeAssert
  simp [go_sem, hz, h]
theorem yes_17 (p : Value) (w : World) : Sem.run Tryz.prog (Instr.typeAssert (.iface 137 p) 44 137 true) w = .ok (.tuple #[p, .bool true]) w := by kernel_rfl

theorem no_18 (T : TypeId) (h : T ≠ 175) (p : Value) (w : World) : Sem.run Tryz.prog (Instr.typeAssert (.iface T p) 44 175 true) w = .ok (.tuple #[.pointer none, .bool false]) w := by
  have hz : Sem.run Tryz.prog (zeroValue 175) w = .ok (.pointer none) w := by kernel_rfl
  unfold Instr.typeAssert
  simp [go_sem, hz, h]
theorem yes_18 (p : Value) (w : World) : Sem.run Tryz.prog (Instr.typeAssert (.iface 175 p) 44 175 true) w = .ok (.tuple #[p, .bool true]) w := by kernel_rfl

theorem no_19 (T : TypeId) (h : T ≠ 178) (p : Value) (w : World) : Sem.run Tryz.prog (Instr.typeAssert (.iface T p) 44 178 true) w = .ok (.tuple #[.pointer none, .bool false]) w := by
  have hz : Sem.run Tryz.prog (zeroValue 178) w = .ok (.pointer none) w := by kernel_rfl
  unfold Instr.typeAssert
  simp [go_sem, hz, h]
theorem yes_19 (p : Value) (w : World) : Sem.run Tryz.prog (Instr.typeAssert (.iface 178 p) 44 178 true) w = .ok (.tuple #[p, .bool true]) w := by kernel_rfl

theorem no_20 (T : TypeId) (h : T ≠ 182) (p : Value) (w : World) : Sem.run Tryz.prog (Instr.typeAssert (.iface T p) 44 182 true) w = .ok (.tuple #[.pointer none, .bool false]) w := by
  have hz : Sem.run Tryz.prog (zeroValue 182) w = .ok (.pointer none) w := by kernel_rfl
  unfold Instr.typeAssert
  simp [go_sem, hz, h]
theorem yes_20 (p : Value) (w : World) : Sem.run Tryz.prog (Instr.typeAssert (.iface 182 p) 44 182 true) w = .ok (.tuple #[p, .bool true]) w := by kernel_rfl

theorem no_21 (T : TypeId) (h : T ≠ 188) (p : Value) (w : World) : Sem.run Tryz.prog (Instr.typeAssert (.iface T p) 44 188 true) w = .ok (.tuple #[.pointer none, .bool false]) w := by
  have hz : Sem.run Tryz.prog (zeroValue 188) w = .ok (.pointer none) w := by kernel_rfl
  unfold Instr.typeAssert
  simp [go_sem, hz, h]
theorem yes_21 (p : Value) (w : World) : Sem.run Tryz.prog (Instr.typeAssert (.iface 188 p) 44 188 true) w = .ok (.tuple #[p, .bool true]) w := by kernel_rfl

theorem no_22 (T : TypeId) (h : T ≠ 193) (p : Value) (w : World) : Sem.run Tryz.prog (Instr.typeAssert (.iface T p) 44 193 true) w = .ok (.tuple #[.pointer none, .bool false]) w := by
  have hz : Sem.run Tryz.prog (zeroValue 193) w = .ok (.pointer none) w := by kernel_rfl
  unfold Instr.typeAssert
  simp [go_sem, hz, h]
theorem yes_22 (p : Value) (w : World) : Sem.run Tryz.prog (Instr.typeAssert (.iface 193 p) 44 193 true) w = .ok (.tuple #[p, .bool true]) w := by kernel_rfl

theorem no_23 (T : TypeId) (h : T ≠ 196) (p : Value) (w : World) : Sem.run Tryz.prog (Instr.typeAssert (.iface T p) 44 196 true) w = .ok (.tuple #[.pointer none, .bool false]) w := by
  have hz : Sem.run Tryz.prog (zeroValue 196) w = .ok (.pointer none) w := by kernel_rfl
  unfold Instr.typeAssert
  simp [go_sem, hz, h]
theorem yes_23 (p : Value) (w : World) : Sem.run Tryz.prog (Instr.typeAssert (.iface 196 p) 44 196 true) w = .ok (.tuple #[p, .bool true]) w := by kernel_rfl

theorem no_24 (T : TypeId) (h : T ≠ 201) (p : Value) (w : World) : Sem.run Tryz.prog (Instr.typeAssert (.iface T p) 44 201 true) w = .ok (.tuple #[.pointer none, .bool false]) w := by
  have hz : Sem.run Tryz.prog (zeroValue 201) w = .ok (.pointer none) w := by kernel_rfl
  unfold Instr.typeAssert
  simp [go_sem, hz, h]
theorem yes_24 (p : Value) (w : World) : Sem.run Tryz.prog (Instr.typeAssert (.iface 201 p) 44 201 true) w = .ok (.tuple #[p, .bool true]) w := by kernel_rfl

theorem no_25 (T : TypeId) (h : T ≠ 204) (p : Value) (w : World) : Sem.run Tryz.prog (Instr.typeAssert (.iface T p) 44 204 true) w = .ok (.tuple #[.pointer none, .bool false]) w := by
  have hz : Sem.run Tryz.prog (zeroValue 204) w = .ok (.pointer none) w := by kernel_rfl
  unfold Instr.typeAssert
  simp [go_sem, hz, h]
theorem yes_25 (p : Value) (w : World) : Sem.run Tryz.prog (Instr.typeAssert (.iface 204 p) 44 204 true) w = .ok (.tuple #[p, .bool true]) w := by kernel_rfl

theorem no_26 (T : TypeId) (h : T ≠ 207) (p : Value) (w : World) : Sem.run Tryz.prog (Instr.typeAssert (.iface T p) 44 207 true) w = .ok (.tuple #[.pointer none, .bool false]) w := by
  have hz : Sem.run Tryz.prog (zeroValue 207) w = .ok (.pointer none) w := by kernel_rfl
  unfold Instr.typeAssert
  simp [go_sem, hz, h]
theorem yes_26 (p : Value) (w : World) : Sem.run Tryz.prog (Instr.typeAssert (.iface 207 p) 44 207 true) w = .ok (.tuple #[p, .bool true]) w := by kernel_rfl

theorem no_27 (T : TypeId) (h : T ≠ 210) (p : Value) (w : World) : Sem.run Tryz.prog (Instr.typeAssert (.iface T p) 44 210 true) w = .ok (.tuple #[.pointer none, .bool false]) w := by
  have hz : Sem.run Tryz.prog (zeroValue 210) w = .ok (.pointer none) w := by kernel_rfl
  unfold Instr.typeAssert
  simp [go_sem, hz, h]
theorem yes_27 (p : Value) (w : World) : Sem.run Tryz.prog (Instr.typeAssert (.iface 210 p) 44 210 true) w = .ok (.tuple #[p, .bool true]) w := by kernel_rfl

theorem no_28 (T : TypeId) (h : T ≠ 92) (p : Value) (w : World) : Sem.run Tryz.prog (Instr.typeAssert (.iface T p) 44 92 true) w = .ok (.tuple #[.pointer none, .bool false]) w := by
  have hz : Sem.run Tryz.prog (zeroValue 92) w = .ok (.pointer none) w := by kernel_rfl
  unfold Instr.typeAssert
  simp [go_sem, hz, h]
theorem yes_28 (p : Value) (w : World) : Sem.run Tryz.prog (Instr.typeAssert (.iface 92 p) 44 92 true) w = .ok (.tuple #[p, .bool true]) w := by kernel_rfl

theorem no_29 (T : TypeId) (h : T ≠ 185) (p : Value) (w : World) : Sem.run Tryz.prog (Instr.typeAssert (.iface T p) 44 185 true) w = .ok (.tuple #[.pointer none, .bool false]) w := by
  have hz : Sem.run Tryz.prog (zeroValue 185) w = .ok (.pointer none) w := by kernel_rfl
  unfold Instr.typeAssert
  simp [go_sem, hz, h]
theorem yes_29 (p : Value) (w : World) : Sem.run Tryz.prog (Instr.typeAssert (.iface 185 p) 44 185 true) w = .ok (.tuple #[p, .bool true]) w := by kernel_rfl

theorem no_30 (T : TypeId) (h : T ≠ 221) (p : Value) (w : World) : Sem.run Tryz.prog (Instr.typeAssert (.iface T p) 44 221 true) w = .ok (.tuple #[.pointer none, .bool false]) w := by
  have hz : Sem.run Tryz.prog (zeroValue 221) w = .ok (.pointer none) w := by kernel_rfl
  unfold Instr.typeAssert
  simp [go_sem, hz, h]
theorem yes_30 (p : Value) (w : World) : Sem.run Tryz.prog (Instr.typeAssert (.iface 221 p) 44 221 true) w = .ok (.tuple #[p, .bool true]) w := by kernel_rfl

theorem no_31 (T : TypeId) (h : T ≠ 228) (p : Value) (w : World) : Sem.run Tryz.prog (Instr.typeAssert (.iface T p) 44 228 true) w = .ok (.tuple #[.pointer none, .bool false]) w := by
  have hz : Sem.run Tryz.prog (zeroValue 228) w = .ok (.pointer none) w := by kernel_rfl
  unfold Instr.typeAssert
  simp [go_sem, hz, h]
theorem yes_31 (p : Value) (w : World) : Sem.run Tryz.prog (Instr.typeAssert (.iface 228 p) 44 228 true) w = .ok (.tuple #[p, .bool true]) w := by kernel_rfl

theorem no_32 (T : TypeId) (h : T ≠ 230) (p : Value) (w : World) : Sem.run Tryz.prog (Instr.typeAssert (.iface T p) 44 230 true) w = .ok (.tuple #[.pointer none, .bool false]) w := by
  have hz : Sem.run Tryz.prog (zeroValue 230) w = .ok (.pointer none) w := by kernel_rfl
  unfold Instr.typeAssert
  simp [go_sem, hz, h]
theorem yes_32 (p : Value) (w : World) : Sem.run Tryz.prog (Instr.typeAssert (.iface 230 p) 44 230 true) w = .ok (.tuple #[p, .bool true]) w := by kernel_rfl

theorem no_33 (T : TypeId) (h : T ≠ 113) (p : Value) (w : World) : Sem.run Tryz.prog (Instr.typeAssert (.iface T p) 44 113 true) w = .ok (.tuple #[.pointer none, .bool false]) w := by
  have hz : Sem.run Tryz.prog (zeroValue 113) w = .ok (.pointer none) w := by kernel_rfl
  unfold Instr.typeAssert
  simp [go_sem, hz, h]
theorem yes_33 (p : Value) (w : World) : Sem.run Tryz.prog (Instr.typeAssert (.iface 113 p) 44 113 true) w = .ok (.tuple #[p, .bool true]) w := by kernel_rfl

theorem no_34 (T : TypeId) (h : T ≠ 65) (p : Value) (w : World) : Sem.run Tryz.prog (Instr.typeAssert (.iface T p) 44 65 true) w = .ok (.tuple #[.pointer none, .bool false]) w := by
  have hz : Sem.run Tryz.prog (zeroValue 65) w = .ok (.pointer none) w := by kernel_rfl
  unfold Instr.typeAssert
  simp [go_sem, hz, h]
theorem yes_34 (p : Value) (w : World) : Sem.run Tryz.prog (Instr.typeAssert (.iface 65 p) 44 65 true) w = .ok (.tuple #[p, .bool true]) w := by kernel_rfl

theorem no_35 (T : TypeId) (h : T ≠ 70) (p : Value) (w : World) : Sem.run Tryz.prog (Instr.typeAssert (.iface T p) 44 70 true) w = .ok (.tuple #[.pointer none, .bool false]) w := by
  have hz : Sem.run Tryz.prog (zeroValue 70) w = .ok (.pointer none) w := by kernel_rfl
  unfold Instr.typeAssert
  simp [go_sem, hz, h]
theorem yes_35 (p : Value) (w : World) : Sem.run Tryz.prog (Instr.typeAssert (.iface 70 p) 44 70 true) w = .ok (.tuple #[p, .bool true]) w := by kernel_rfl

theorem no_36 (T : TypeId) (h : T ≠ 49) (p : Value) (w : World) : Sem.run Tryz.prog (Instr.typeAssert (.iface T p) 44 49 true) w = .ok (.tuple #[.pointer none, .bool false]) w := by
  have hz : Sem.run Tryz.prog (zeroValue 49) w = .ok (.pointer none) w := by kernel_rfl
  unfold Instr.typeAssert
  simp [go_sem, hz, h]
theorem yes_36 (p : Value) (w : World) : Sem.run Tryz.prog (Instr.typeAssert (.iface 49 p) 44 49 true) w = .ok (.tuple #[p, .bool true]) w := by kernel_rfl

theorem no_37 (T : TypeId) (h : T ≠ 60) (p : Value) (w : World) : Sem.run Tryz.prog (Instr.typeAssert (.iface T p) 44 60 true) w = .ok (.tuple #[.pointer none, .bool false]) w := by
  have hz : Sem.run Tryz.prog (zeroValue 60) w = .ok (.pointer none) w := by kernel_rfl
  unfold Instr.typeAssert
  simp [go_sem, hz, h]
theorem yes_37 (p : Value) (w : World) : Sem.run Tryz.prog (Instr.typeAssert (.iface 60 p) 44 60 true) w = .ok (.tuple #[p, .bool true]) w := by kernel_rfl

theorem no_38 (T : TypeId) (h : T ≠ 234) (p : Value) (w : World) : Sem.run Tryz.prog (Instr.typeAssert (.iface T p) 44 234 true) w = .ok (.tuple #[.pointer none, .bool false]) w := by
  have hz : Sem.run Tryz.prog (zeroValue 234) w = .ok (.pointer none) w := by kernel_rfl
  unfold Instr.typeAssert
  simp [go_sem, hz, h]
theorem yes_38 (p : Value) (w : World) : Sem.run Tryz.prog (Instr.typeAssert (.iface 234 p) 44 234 true) w = .ok (.tuple #[p, .bool true]) w := by kernel_rfl

theorem no_39 (T : TypeId) (h : T ≠ 239) (p : Value) (w : World) : Sem.run Tryz.prog (Instr.typeAssert (.iface T p) 44 239 true) w = .ok (.tuple #[.pointer none, .bool false]) w := by
  have hz : Sem.run Tryz.prog (zeroValue 239) w = .ok (.pointer none) w := by kernel_rfl
  unfold Instr.typeAssert
  simp [go_sem, hz, h]
theorem yes_39 (p : Value) (w : World) : Sem.run Tryz.prog (Instr.typeAssert (.iface 239 p) 44 239 true) w = .ok (.tuple #[p, .bool true]) w := by kernel_rfl

theorem no_41 (T : TypeId) (h : T ≠ 244) (p : Value) (w : World) : Sem.run Tryz.prog (Instr.typeAssert (.iface T p) 44 244 true) w = .ok (.tuple #[.pointer none, .bool false]) w := by
  have hz : Sem.run Tryz.prog (zeroValue 244) w = .ok (.pointer none) w := by kernel_rfl
  unfold Instr.typeAssert
  simp [go_sem, hz, h]
theorem yes_41 (p : Value) (w : World) : Sem.run Tryz.prog (Instr.typeAssert (.iface 244 p) 44 244 true) w = .ok (.tuple #[p, .bool true]) w := by kernel_rfl

theorem no_42 (T : TypeId) (h : T ≠ 250) (p : Value) (w : World) : Sem.run Tryz.prog (Instr.typeAssert (.iface T p) 44 250 true) w = .ok (.tuple #[.pointer none, .bool false]) w := by
  have hz : Sem.run Tryz.prog (zeroValue 250) w = .ok (.pointer none) w := by kernel_rfl
  unfold Instr.typeAssert
  simp [go_sem, hz, h]
theorem yes_42 (p : Value) (w : World) : Sem.run Tryz.prog (Instr.typeAssert (.iface 250 p) 44 250 true) w = .ok (.tuple #[p, .bool true]) w := by kernel_rfl

theorem no_43 (T : TypeId) (h : T ≠ 255) (p : Value) (w : World) : Sem.run Tryz.prog (Instr.typeAssert (.iface T p) 44 255 true) w = .ok (.tuple #[.pointer none, .bool false]) w := by
  have hz : Sem.run Tryz.prog (zeroValue 255) w = .ok (.pointer none) w := by kernel_rfl
  unfold Instr.typeAssert
  simp [go_sem, hz, h]
theorem yes_43 (p : Value) (w : World) : Sem.run Tryz.prog (Instr.typeAssert (.iface 255 p) 44 255 true) w = .ok (.tuple #[p, .bool true]) w := by kernel_rfl
end Go.Proofs.YtongafghllkomaaGreatDoor
