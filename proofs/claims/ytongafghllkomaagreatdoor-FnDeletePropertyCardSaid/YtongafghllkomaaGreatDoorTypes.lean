/-
  The methods that name a node's type, and impl's TypeName over them. No conditions.
-/
import Derived.Test.YtongafghllkomaaGreatDoorSame
import Derived.Test.YtongafghllkomaaGreatDoorLits
import Derived.Defers
import Derived.Recover
namespace Go.Proofs.YtongafghllkomaaGreatDoor
open Go.RowKit
set_option linter.unusedVariables false

def meTab : List (Int × Nat) := [(2, 213), (3, 206), (4, 219), (5, 216), (6, 227), (7, 230), (8, 234), (9, 238), (10, 242), (11, 247), (12, 256), (14, 267), (15, 271), (16, 275), (17, 252), (18, 279), (19, 283), (20, 287), (21, 294), (22, 298), (23, 302), (24, 306), (25, 310), (26, 314), (27, 318), (28, 209), (29, 291), (30, 323), (33, 223), (34, 198), (35, 202), (36, 188), (37, 193), (38, 335), (39, 339), (41, 343), (42, 348), (43, 352)]
/-- The number of the method of the nodes of a kind. -/
def meOf (k : Int) : Nat := lookN meTab k

theorem type_2 (b : Nat) (w : World) : Calls Tryz.prog 213 #[.pointer (some ⟨b, 0, none⟩)] w fun e w' => e = .returned (.string ⟨#[80, 97, 99, 107, 97, 103, 101]⟩) ∧ w = w' := by
  go_enter Tryz.func213, Tryz.ntmps213
  go_wp2_with fail
  go_ret
  exact ⟨rfl, rfl⟩
theorem meth_2 (b : Nat) (w : World) : Sem.run Tryz.prog (method 526 96 (.pointer (some ⟨b, 0, none⟩)) "Type") w = .ok (213, .pointer (some ⟨b, 0, none⟩)) w := by kernel_rfl
theorem entr_2 (b : Nat) (w : World) : Sem.run Tryz.prog (callFunc 213 #[.pointer (some ⟨b, 0, none⟩)]) w = .ok (.enter 213 #[.pointer (some ⟨b, 0, none⟩)]) w := by kernel_rfl

theorem type_3 (b : Nat) (w : World) : Calls Tryz.prog 206 #[.pointer (some ⟨b, 0, none⟩)] w fun e w' => e = .returned (.string ⟨#[70, 105, 108, 101]⟩) ∧ w = w' := by
  go_enter Tryz.func206, Tryz.ntmps206
  go_wp2_with fail
  go_ret
  exact ⟨rfl, rfl⟩
theorem meth_3 (b : Nat) (w : World) : Sem.run Tryz.prog (method 526 80 (.pointer (some ⟨b, 0, none⟩)) "Type") w = .ok (206, .pointer (some ⟨b, 0, none⟩)) w := by kernel_rfl
theorem entr_3 (b : Nat) (w : World) : Sem.run Tryz.prog (callFunc 206 #[.pointer (some ⟨b, 0, none⟩)]) w = .ok (.enter 206 #[.pointer (some ⟨b, 0, none⟩)]) w := by kernel_rfl

theorem type_4 (b : Nat) (w : World) : Calls Tryz.prog 219 #[.pointer (some ⟨b, 0, none⟩)] w fun e w' => e = .returned (.string ⟨#[80, 97, 99, 107, 97, 103, 101, 67, 108, 97, 117, 115, 101]⟩) ∧ w = w' := by
  go_enter Tryz.func219, Tryz.ntmps219
  go_wp2_with fail
  go_ret
  exact ⟨rfl, rfl⟩
theorem meth_4 (b : Nat) (w : World) : Sem.run Tryz.prog (method 526 109 (.pointer (some ⟨b, 0, none⟩)) "Type") w = .ok (219, .pointer (some ⟨b, 0, none⟩)) w := by kernel_rfl
theorem entr_4 (b : Nat) (w : World) : Sem.run Tryz.prog (callFunc 219 #[.pointer (some ⟨b, 0, none⟩)]) w = .ok (.enter 219 #[.pointer (some ⟨b, 0, none⟩)]) w := by kernel_rfl

theorem type_5 (b : Nat) (w : World) : Calls Tryz.prog 216 #[.pointer (some ⟨b, 0, none⟩)] w fun e w' => e = .returned (.string ⟨#[73, 109, 112, 111, 114, 116, 68, 101, 99, 108, 97, 114, 97, 116, 105, 111, 110]⟩) ∧ w = w' := by
  go_enter Tryz.func216, Tryz.ntmps216
  go_wp2_with fail
  go_ret
  exact ⟨rfl, rfl⟩
theorem meth_5 (b : Nat) (w : World) : Sem.run Tryz.prog (method 526 104 (.pointer (some ⟨b, 0, none⟩)) "Type") w = .ok (216, .pointer (some ⟨b, 0, none⟩)) w := by kernel_rfl
theorem entr_5 (b : Nat) (w : World) : Sem.run Tryz.prog (callFunc 216 #[.pointer (some ⟨b, 0, none⟩)]) w = .ok (.enter 216 #[.pointer (some ⟨b, 0, none⟩)]) w := by kernel_rfl

theorem type_6 (b : Nat) (w : World) : Calls Tryz.prog 227 #[.pointer (some ⟨b, 0, none⟩)] w fun e w' => e = .returned (.string ⟨#[66, 108, 111, 99, 107]⟩) ∧ w = w' := by
  go_enter Tryz.func227, Tryz.ntmps227
  go_wp2_with fail
  go_ret
  exact ⟨rfl, rfl⟩
theorem meth_6 (b : Nat) (w : World) : Sem.run Tryz.prog (method 526 120 (.pointer (some ⟨b, 0, none⟩)) "Type") w = .ok (227, .pointer (some ⟨b, 0, none⟩)) w := by kernel_rfl
theorem entr_6 (b : Nat) (w : World) : Sem.run Tryz.prog (callFunc 227 #[.pointer (some ⟨b, 0, none⟩)]) w = .ok (.enter 227 #[.pointer (some ⟨b, 0, none⟩)]) w := by kernel_rfl

theorem type_7 (b : Nat) (w : World) : Calls Tryz.prog 230 #[.pointer (some ⟨b, 0, none⟩)] w fun e w' => e = .returned (.string ⟨#[66, 97, 100, 83, 116, 97, 116, 101, 109, 101, 110, 116]⟩) ∧ w = w' := by
  go_enter Tryz.func230, Tryz.ntmps230
  go_wp2_with fail
  go_ret
  exact ⟨rfl, rfl⟩
theorem meth_7 (b : Nat) (w : World) : Sem.run Tryz.prog (method 526 123 (.pointer (some ⟨b, 0, none⟩)) "Type") w = .ok (230, .pointer (some ⟨b, 0, none⟩)) w := by kernel_rfl
theorem entr_7 (b : Nat) (w : World) : Sem.run Tryz.prog (callFunc 230 #[.pointer (some ⟨b, 0, none⟩)]) w = .ok (.enter 230 #[.pointer (some ⟨b, 0, none⟩)]) w := by kernel_rfl

theorem type_8 (b : Nat) (w : World) : Calls Tryz.prog 234 #[.pointer (some ⟨b, 0, none⟩)] w fun e w' => e = .returned (.string ⟨#[69, 120, 112, 114, 101, 115, 115, 105, 111, 110, 83, 116, 97, 116, 101, 109, 101, 110, 116]⟩) ∧ w = w' := by
  go_enter Tryz.func234, Tryz.ntmps234
  go_wp2_with fail
  go_ret
  exact ⟨rfl, rfl⟩
theorem meth_8 (b : Nat) (w : World) : Sem.run Tryz.prog (method 526 126 (.pointer (some ⟨b, 0, none⟩)) "Type") w = .ok (234, .pointer (some ⟨b, 0, none⟩)) w := by kernel_rfl
theorem entr_8 (b : Nat) (w : World) : Sem.run Tryz.prog (callFunc 234 #[.pointer (some ⟨b, 0, none⟩)]) w = .ok (.enter 234 #[.pointer (some ⟨b, 0, none⟩)]) w := by kernel_rfl

theorem type_9 (b : Nat) (w : World) : Calls Tryz.prog 238 #[.pointer (some ⟨b, 0, none⟩)] w fun e w' => e = .returned (.string ⟨#[82, 101, 116, 117, 114, 110, 83, 116, 97, 116, 101, 109, 101, 110, 116]⟩) ∧ w = w' := by
  go_enter Tryz.func238, Tryz.ntmps238
  go_wp2_with fail
  go_ret
  exact ⟨rfl, rfl⟩
theorem meth_9 (b : Nat) (w : World) : Sem.run Tryz.prog (method 526 130 (.pointer (some ⟨b, 0, none⟩)) "Type") w = .ok (238, .pointer (some ⟨b, 0, none⟩)) w := by kernel_rfl
theorem entr_9 (b : Nat) (w : World) : Sem.run Tryz.prog (callFunc 238 #[.pointer (some ⟨b, 0, none⟩)]) w = .ok (.enter 238 #[.pointer (some ⟨b, 0, none⟩)]) w := by kernel_rfl

theorem type_10 (b : Nat) (w : World) : Calls Tryz.prog 242 #[.pointer (some ⟨b, 0, none⟩)] w fun e w' => e = .returned (.string ⟨#[86, 97, 114, 105, 97, 98, 108, 101, 65, 115, 115, 105, 103, 110, 109, 101, 110, 116]⟩) ∧ w = w' := by
  go_enter Tryz.func242, Tryz.ntmps242
  go_wp2_with fail
  go_ret
  exact ⟨rfl, rfl⟩
theorem meth_10 (b : Nat) (w : World) : Sem.run Tryz.prog (method 526 133 (.pointer (some ⟨b, 0, none⟩)) "Type") w = .ok (242, .pointer (some ⟨b, 0, none⟩)) w := by kernel_rfl
theorem entr_10 (b : Nat) (w : World) : Sem.run Tryz.prog (callFunc 242 #[.pointer (some ⟨b, 0, none⟩)]) w = .ok (.enter 242 #[.pointer (some ⟨b, 0, none⟩)]) w := by kernel_rfl

theorem type_11 (b : Nat) (w : World) : Calls Tryz.prog 247 #[.pointer (some ⟨b, 0, none⟩)] w fun e w' => e = .returned (.string ⟨#[77, 101, 109, 98, 101, 114, 65, 115, 115, 105, 103, 110, 109, 101, 110, 116]⟩) ∧ w = w' := by
  go_enter Tryz.func247, Tryz.ntmps247
  go_wp2_with fail
  go_ret
  exact ⟨rfl, rfl⟩
theorem meth_11 (b : Nat) (w : World) : Sem.run Tryz.prog (method 526 136 (.pointer (some ⟨b, 0, none⟩)) "Type") w = .ok (247, .pointer (some ⟨b, 0, none⟩)) w := by kernel_rfl
theorem entr_11 (b : Nat) (w : World) : Sem.run Tryz.prog (callFunc 247 #[.pointer (some ⟨b, 0, none⟩)]) w = .ok (.enter 247 #[.pointer (some ⟨b, 0, none⟩)]) w := by kernel_rfl

theorem type_12 (b : Nat) (w : World) : Calls Tryz.prog 256 #[.pointer (some ⟨b, 0, none⟩)] w fun e w' => e = .returned (.string ⟨#[79, 112, 116, 105, 111, 110, 83, 116, 97, 116, 101, 109, 101, 110, 116]⟩) ∧ w = w' := by
  go_enter Tryz.func256, Tryz.ntmps256
  go_wp2_with fail
  go_ret
  exact ⟨rfl, rfl⟩
theorem meth_12 (b : Nat) (w : World) : Sem.run Tryz.prog (method 526 141 (.pointer (some ⟨b, 0, none⟩)) "Type") w = .ok (256, .pointer (some ⟨b, 0, none⟩)) w := by kernel_rfl
theorem entr_12 (b : Nat) (w : World) : Sem.run Tryz.prog (callFunc 256 #[.pointer (some ⟨b, 0, none⟩)]) w = .ok (.enter 256 #[.pointer (some ⟨b, 0, none⟩)]) w := by kernel_rfl

theorem type_14 (b : Nat) (w : World) : Calls Tryz.prog 267 #[.pointer (some ⟨b, 0, none⟩)] w fun e w' => e = .returned (.string ⟨#[84, 101, 115, 116, 83, 116, 97, 116, 101, 109, 101, 110, 116]⟩) ∧ w = w' := by
  go_enter Tryz.func267, Tryz.ntmps267
  go_wp2_with fail
  go_ret
  exact ⟨rfl, rfl⟩
theorem meth_14 (b : Nat) (w : World) : Sem.run Tryz.prog (method 526 157 (.pointer (some ⟨b, 0, none⟩)) "Type") w = .ok (267, .pointer (some ⟨b, 0, none⟩)) w := by kernel_rfl
theorem entr_14 (b : Nat) (w : World) : Sem.run Tryz.prog (callFunc 267 #[.pointer (some ⟨b, 0, none⟩)]) w = .ok (.enter 267 #[.pointer (some ⟨b, 0, none⟩)]) w := by kernel_rfl

theorem type_15 (b : Nat) (w : World) : Calls Tryz.prog 271 #[.pointer (some ⟨b, 0, none⟩)] w fun e w' => e = .returned (.string ⟨#[84, 101, 115, 116, 67, 97, 115, 101, 83, 116, 97, 116, 101, 109, 101, 110, 116]⟩) ∧ w = w' := by
  go_enter Tryz.func271, Tryz.ntmps271
  go_wp2_with fail
  go_ret
  exact ⟨rfl, rfl⟩
theorem meth_15 (b : Nat) (w : World) : Sem.run Tryz.prog (method 526 161 (.pointer (some ⟨b, 0, none⟩)) "Type") w = .ok (271, .pointer (some ⟨b, 0, none⟩)) w := by kernel_rfl
theorem entr_15 (b : Nat) (w : World) : Sem.run Tryz.prog (callFunc 271 #[.pointer (some ⟨b, 0, none⟩)]) w = .ok (.enter 271 #[.pointer (some ⟨b, 0, none⟩)]) w := by kernel_rfl

theorem type_16 (b : Nat) (w : World) : Calls Tryz.prog 275 #[.pointer (some ⟨b, 0, none⟩)] w fun e w' => e = .returned (.string ⟨#[67, 97, 108, 108, 69, 120, 112, 114, 101, 115, 115, 105, 111, 110]⟩) ∧ w = w' := by
  go_enter Tryz.func275, Tryz.ntmps275
  go_wp2_with fail
  go_ret
  exact ⟨rfl, rfl⟩
theorem meth_16 (b : Nat) (w : World) : Sem.run Tryz.prog (method 526 165 (.pointer (some ⟨b, 0, none⟩)) "Type") w = .ok (275, .pointer (some ⟨b, 0, none⟩)) w := by kernel_rfl
theorem entr_16 (b : Nat) (w : World) : Sem.run Tryz.prog (callFunc 275 #[.pointer (some ⟨b, 0, none⟩)]) w = .ok (.enter 275 #[.pointer (some ⟨b, 0, none⟩)]) w := by kernel_rfl

theorem type_17 (b : Nat) (w : World) : Calls Tryz.prog 252 #[.pointer (some ⟨b, 0, none⟩)] w fun e w' => e = .returned (.string ⟨#[77, 101, 109, 98, 101, 114, 69, 120, 112, 114, 101, 115, 115, 105, 111, 110]⟩) ∧ w = w' := by
  go_enter Tryz.func252, Tryz.ntmps252
  go_wp2_with fail
  go_ret
  exact ⟨rfl, rfl⟩
theorem meth_17 (b : Nat) (w : World) : Sem.run Tryz.prog (method 526 137 (.pointer (some ⟨b, 0, none⟩)) "Type") w = .ok (252, .pointer (some ⟨b, 0, none⟩)) w := by kernel_rfl
theorem entr_17 (b : Nat) (w : World) : Sem.run Tryz.prog (callFunc 252 #[.pointer (some ⟨b, 0, none⟩)]) w = .ok (.enter 252 #[.pointer (some ⟨b, 0, none⟩)]) w := by kernel_rfl

theorem type_18 (b : Nat) (w : World) : Calls Tryz.prog 279 #[.pointer (some ⟨b, 0, none⟩)] w fun e w' => e = .returned (.string ⟨#[73, 110, 100, 101, 120, 69, 120, 112, 114, 101, 115, 115, 105, 111, 110]⟩) ∧ w = w' := by
  go_enter Tryz.func279, Tryz.ntmps279
  go_wp2_with fail
  go_ret
  exact ⟨rfl, rfl⟩
theorem meth_18 (b : Nat) (w : World) : Sem.run Tryz.prog (method 526 175 (.pointer (some ⟨b, 0, none⟩)) "Type") w = .ok (279, .pointer (some ⟨b, 0, none⟩)) w := by kernel_rfl
theorem entr_18 (b : Nat) (w : World) : Sem.run Tryz.prog (callFunc 279 #[.pointer (some ⟨b, 0, none⟩)]) w = .ok (.enter 279 #[.pointer (some ⟨b, 0, none⟩)]) w := by kernel_rfl

theorem type_19 (b : Nat) (w : World) : Calls Tryz.prog 283 #[.pointer (some ⟨b, 0, none⟩)] w fun e w' => e = .returned (.string ⟨#[80, 105, 112, 101, 69, 120, 112, 114, 101, 115, 115, 105, 111, 110]⟩) ∧ w = w' := by
  go_enter Tryz.func283, Tryz.ntmps283
  go_wp2_with fail
  go_ret
  exact ⟨rfl, rfl⟩
theorem meth_19 (b : Nat) (w : World) : Sem.run Tryz.prog (method 526 178 (.pointer (some ⟨b, 0, none⟩)) "Type") w = .ok (283, .pointer (some ⟨b, 0, none⟩)) w := by kernel_rfl
theorem entr_19 (b : Nat) (w : World) : Sem.run Tryz.prog (callFunc 283 #[.pointer (some ⟨b, 0, none⟩)]) w = .ok (.enter 283 #[.pointer (some ⟨b, 0, none⟩)]) w := by kernel_rfl

theorem type_20 (b : Nat) (w : World) : Calls Tryz.prog 287 #[.pointer (some ⟨b, 0, none⟩)] w fun e w' => e = .returned (.string ⟨#[70, 117, 110, 99, 116, 105, 111, 110, 69, 120, 112, 114, 101, 115, 115, 105, 111, 110]⟩) ∧ w = w' := by
  go_enter Tryz.func287, Tryz.ntmps287
  go_wp2_with fail
  go_ret
  exact ⟨rfl, rfl⟩
theorem meth_20 (b : Nat) (w : World) : Sem.run Tryz.prog (method 526 182 (.pointer (some ⟨b, 0, none⟩)) "Type") w = .ok (287, .pointer (some ⟨b, 0, none⟩)) w := by kernel_rfl
theorem entr_20 (b : Nat) (w : World) : Sem.run Tryz.prog (callFunc 287 #[.pointer (some ⟨b, 0, none⟩)]) w = .ok (.enter 287 #[.pointer (some ⟨b, 0, none⟩)]) w := by kernel_rfl

theorem type_21 (b : Nat) (w : World) : Calls Tryz.prog 294 #[.pointer (some ⟨b, 0, none⟩)] w fun e w' => e = .returned (.string ⟨#[66, 105, 110, 97, 114, 121, 69, 120, 112, 114, 101, 115, 115, 105, 111, 110]⟩) ∧ w = w' := by
  go_enter Tryz.func294, Tryz.ntmps294
  go_wp2_with fail
  go_ret
  exact ⟨rfl, rfl⟩
theorem meth_21 (b : Nat) (w : World) : Sem.run Tryz.prog (method 526 188 (.pointer (some ⟨b, 0, none⟩)) "Type") w = .ok (294, .pointer (some ⟨b, 0, none⟩)) w := by kernel_rfl
theorem entr_21 (b : Nat) (w : World) : Sem.run Tryz.prog (callFunc 294 #[.pointer (some ⟨b, 0, none⟩)]) w = .ok (.enter 294 #[.pointer (some ⟨b, 0, none⟩)]) w := by kernel_rfl

theorem type_22 (b : Nat) (w : World) : Calls Tryz.prog 298 #[.pointer (some ⟨b, 0, none⟩)] w fun e w' => e = .returned (.string ⟨#[85, 110, 97, 114, 121, 69, 120, 112, 114, 101, 115, 115, 105, 111, 110]⟩) ∧ w = w' := by
  go_enter Tryz.func298, Tryz.ntmps298
  go_wp2_with fail
  go_ret
  exact ⟨rfl, rfl⟩
theorem meth_22 (b : Nat) (w : World) : Sem.run Tryz.prog (method 526 193 (.pointer (some ⟨b, 0, none⟩)) "Type") w = .ok (298, .pointer (some ⟨b, 0, none⟩)) w := by kernel_rfl
theorem entr_22 (b : Nat) (w : World) : Sem.run Tryz.prog (callFunc 298 #[.pointer (some ⟨b, 0, none⟩)]) w = .ok (.enter 298 #[.pointer (some ⟨b, 0, none⟩)]) w := by kernel_rfl

theorem type_23 (b : Nat) (w : World) : Calls Tryz.prog 302 #[.pointer (some ⟨b, 0, none⟩)] w fun e w' => e = .returned (.string ⟨#[76, 111, 103, 105, 99, 97, 108, 69, 120, 112, 114, 101, 115, 115, 105, 111, 110]⟩) ∧ w = w' := by
  go_enter Tryz.func302, Tryz.ntmps302
  go_wp2_with fail
  go_ret
  exact ⟨rfl, rfl⟩
theorem meth_23 (b : Nat) (w : World) : Sem.run Tryz.prog (method 526 196 (.pointer (some ⟨b, 0, none⟩)) "Type") w = .ok (302, .pointer (some ⟨b, 0, none⟩)) w := by kernel_rfl
theorem entr_23 (b : Nat) (w : World) : Sem.run Tryz.prog (callFunc 302 #[.pointer (some ⟨b, 0, none⟩)]) w = .ok (.enter 302 #[.pointer (some ⟨b, 0, none⟩)]) w := by kernel_rfl

theorem type_24 (b : Nat) (w : World) : Calls Tryz.prog 306 #[.pointer (some ⟨b, 0, none⟩)] w fun e w' => e = .returned (.string ⟨#[67, 111, 110, 100, 105, 116, 105, 111, 110, 97, 108, 69, 120, 112, 114, 101, 115, 115, 105, 111, 110]⟩) ∧ w = w' := by
  go_enter Tryz.func306, Tryz.ntmps306
  go_wp2_with fail
  go_ret
  exact ⟨rfl, rfl⟩
theorem meth_24 (b : Nat) (w : World) : Sem.run Tryz.prog (method 526 201 (.pointer (some ⟨b, 0, none⟩)) "Type") w = .ok (306, .pointer (some ⟨b, 0, none⟩)) w := by kernel_rfl
theorem entr_24 (b : Nat) (w : World) : Sem.run Tryz.prog (callFunc 306 #[.pointer (some ⟨b, 0, none⟩)]) w = .ok (.enter 306 #[.pointer (some ⟨b, 0, none⟩)]) w := by kernel_rfl

theorem type_25 (b : Nat) (w : World) : Calls Tryz.prog 310 #[.pointer (some ⟨b, 0, none⟩)] w fun e w' => e = .returned (.string ⟨#[80, 97, 114, 101, 110, 69, 120, 112, 114, 101, 115, 115, 105, 111, 110]⟩) ∧ w = w' := by
  go_enter Tryz.func310, Tryz.ntmps310
  go_wp2_with fail
  go_ret
  exact ⟨rfl, rfl⟩
theorem meth_25 (b : Nat) (w : World) : Sem.run Tryz.prog (method 526 204 (.pointer (some ⟨b, 0, none⟩)) "Type") w = .ok (310, .pointer (some ⟨b, 0, none⟩)) w := by kernel_rfl
theorem entr_25 (b : Nat) (w : World) : Sem.run Tryz.prog (callFunc 310 #[.pointer (some ⟨b, 0, none⟩)]) w = .ok (.enter 310 #[.pointer (some ⟨b, 0, none⟩)]) w := by kernel_rfl

theorem type_26 (b : Nat) (w : World) : Calls Tryz.prog 314 #[.pointer (some ⟨b, 0, none⟩)] w fun e w' => e = .returned (.string ⟨#[65, 114, 114, 97, 121, 69, 120, 112, 114, 101, 115, 115, 105, 111, 110]⟩) ∧ w = w' := by
  go_enter Tryz.func314, Tryz.ntmps314
  go_wp2_with fail
  go_ret
  exact ⟨rfl, rfl⟩
theorem meth_26 (b : Nat) (w : World) : Sem.run Tryz.prog (method 526 207 (.pointer (some ⟨b, 0, none⟩)) "Type") w = .ok (314, .pointer (some ⟨b, 0, none⟩)) w := by kernel_rfl
theorem entr_26 (b : Nat) (w : World) : Sem.run Tryz.prog (callFunc 314 #[.pointer (some ⟨b, 0, none⟩)]) w = .ok (.enter 314 #[.pointer (some ⟨b, 0, none⟩)]) w := by kernel_rfl

theorem type_27 (b : Nat) (w : World) : Calls Tryz.prog 318 #[.pointer (some ⟨b, 0, none⟩)] w fun e w' => e = .returned (.string ⟨#[68, 105, 99, 116, 69, 120, 112, 114, 101, 115, 115, 105, 111, 110]⟩) ∧ w = w' := by
  go_enter Tryz.func318, Tryz.ntmps318
  go_wp2_with fail
  go_ret
  exact ⟨rfl, rfl⟩
theorem meth_27 (b : Nat) (w : World) : Sem.run Tryz.prog (method 526 210 (.pointer (some ⟨b, 0, none⟩)) "Type") w = .ok (318, .pointer (some ⟨b, 0, none⟩)) w := by kernel_rfl
theorem entr_27 (b : Nat) (w : World) : Sem.run Tryz.prog (callFunc 318 #[.pointer (some ⟨b, 0, none⟩)]) w = .ok (.enter 318 #[.pointer (some ⟨b, 0, none⟩)]) w := by kernel_rfl

theorem type_28 (b : Nat) (w : World) : Calls Tryz.prog 209 #[.pointer (some ⟨b, 0, none⟩)] w fun e w' => e = .returned (.string ⟨#[79, 98, 106, 101, 99, 116, 69, 120, 112, 114, 101, 115, 115, 105, 111, 110]⟩) ∧ w = w' := by
  go_enter Tryz.func209, Tryz.ntmps209
  go_wp2_with fail
  go_ret
  exact ⟨rfl, rfl⟩
theorem meth_28 (b : Nat) (w : World) : Sem.run Tryz.prog (method 526 92 (.pointer (some ⟨b, 0, none⟩)) "Type") w = .ok (209, .pointer (some ⟨b, 0, none⟩)) w := by kernel_rfl
theorem entr_28 (b : Nat) (w : World) : Sem.run Tryz.prog (callFunc 209 #[.pointer (some ⟨b, 0, none⟩)]) w = .ok (.enter 209 #[.pointer (some ⟨b, 0, none⟩)]) w := by kernel_rfl

theorem type_29 (b : Nat) (w : World) : Calls Tryz.prog 291 #[.pointer (some ⟨b, 0, none⟩)] w fun e w' => e = .returned (.string ⟨#[80, 114, 111, 112, 101, 114, 116, 121]⟩) ∧ w = w' := by
  go_enter Tryz.func291, Tryz.ntmps291
  go_wp2_with fail
  go_ret
  exact ⟨rfl, rfl⟩
theorem meth_29 (b : Nat) (w : World) : Sem.run Tryz.prog (method 526 185 (.pointer (some ⟨b, 0, none⟩)) "Type") w = .ok (291, .pointer (some ⟨b, 0, none⟩)) w := by kernel_rfl
theorem entr_29 (b : Nat) (w : World) : Sem.run Tryz.prog (callFunc 291 #[.pointer (some ⟨b, 0, none⟩)]) w = .ok (.enter 291 #[.pointer (some ⟨b, 0, none⟩)]) w := by kernel_rfl

theorem type_30 (b : Nat) (w : World) : Calls Tryz.prog 323 #[.pointer (some ⟨b, 0, none⟩)] w fun e w' => e = .returned (.string ⟨#[83, 116, 114, 105, 110, 103, 69, 120, 112, 114, 101, 115, 115, 105, 111, 110]⟩) ∧ w = w' := by
  go_enter Tryz.func323, Tryz.ntmps323
  go_wp2_with fail
  go_ret
  exact ⟨rfl, rfl⟩
theorem meth_30 (b : Nat) (w : World) : Sem.run Tryz.prog (method 526 221 (.pointer (some ⟨b, 0, none⟩)) "Type") w = .ok (323, .pointer (some ⟨b, 0, none⟩)) w := by kernel_rfl
theorem entr_30 (b : Nat) (w : World) : Sem.run Tryz.prog (callFunc 323 #[.pointer (some ⟨b, 0, none⟩)]) w = .ok (.enter 323 #[.pointer (some ⟨b, 0, none⟩)]) w := by kernel_rfl

theorem type_33 (b : Nat) (w : World) : Calls Tryz.prog 223 #[.pointer (some ⟨b, 0, none⟩)] w fun e w' => e = .returned (.string ⟨#[73, 100, 101, 110, 116, 105, 102, 105, 101, 114]⟩) ∧ w = w' := by
  go_enter Tryz.func223, Tryz.ntmps223
  go_wp2_with fail
  go_ret
  exact ⟨rfl, rfl⟩
theorem meth_33 (b : Nat) (w : World) : Sem.run Tryz.prog (method 526 113 (.pointer (some ⟨b, 0, none⟩)) "Type") w = .ok (223, .pointer (some ⟨b, 0, none⟩)) w := by kernel_rfl
theorem entr_33 (b : Nat) (w : World) : Sem.run Tryz.prog (callFunc 223 #[.pointer (some ⟨b, 0, none⟩)]) w = .ok (.enter 223 #[.pointer (some ⟨b, 0, none⟩)]) w := by kernel_rfl

theorem type_34 (b : Nat) (w : World) : Calls Tryz.prog 198 #[.pointer (some ⟨b, 0, none⟩)] w fun e w' => e = .returned (.string ⟨#[83, 116, 114, 105, 110, 103, 76, 105, 116, 101, 114, 97, 108]⟩) ∧ w = w' := by
  go_enter Tryz.func198, Tryz.ntmps198
  go_wp2_with fail
  go_ret
  exact ⟨rfl, rfl⟩
theorem meth_34 (b : Nat) (w : World) : Sem.run Tryz.prog (method 526 65 (.pointer (some ⟨b, 0, none⟩)) "Type") w = .ok (198, .pointer (some ⟨b, 0, none⟩)) w := by kernel_rfl
theorem entr_34 (b : Nat) (w : World) : Sem.run Tryz.prog (callFunc 198 #[.pointer (some ⟨b, 0, none⟩)]) w = .ok (.enter 198 #[.pointer (some ⟨b, 0, none⟩)]) w := by kernel_rfl

theorem type_35 (b : Nat) (w : World) : Calls Tryz.prog 202 #[.pointer (some ⟨b, 0, none⟩)] w fun e w' => e = .returned (.string ⟨#[66, 111, 111, 108, 101, 97, 110, 76, 105, 116, 101, 114, 97, 108]⟩) ∧ w = w' := by
  go_enter Tryz.func202, Tryz.ntmps202
  go_wp2_with fail
  go_ret
  exact ⟨rfl, rfl⟩
theorem meth_35 (b : Nat) (w : World) : Sem.run Tryz.prog (method 526 70 (.pointer (some ⟨b, 0, none⟩)) "Type") w = .ok (202, .pointer (some ⟨b, 0, none⟩)) w := by kernel_rfl
theorem entr_35 (b : Nat) (w : World) : Sem.run Tryz.prog (callFunc 202 #[.pointer (some ⟨b, 0, none⟩)]) w = .ok (.enter 202 #[.pointer (some ⟨b, 0, none⟩)]) w := by kernel_rfl

theorem type_36 (b : Nat) (w : World) : Calls Tryz.prog 188 #[.pointer (some ⟨b, 0, none⟩)] w fun e w' => e = .returned (.string ⟨#[73, 110, 116, 101, 103, 101, 114, 76, 105, 116, 101, 114, 97, 108]⟩) ∧ w = w' := by
  go_enter Tryz.func188, Tryz.ntmps188
  go_wp2_with fail
  go_ret
  exact ⟨rfl, rfl⟩
theorem meth_36 (b : Nat) (w : World) : Sem.run Tryz.prog (method 526 49 (.pointer (some ⟨b, 0, none⟩)) "Type") w = .ok (188, .pointer (some ⟨b, 0, none⟩)) w := by kernel_rfl
theorem entr_36 (b : Nat) (w : World) : Sem.run Tryz.prog (callFunc 188 #[.pointer (some ⟨b, 0, none⟩)]) w = .ok (.enter 188 #[.pointer (some ⟨b, 0, none⟩)]) w := by kernel_rfl

theorem type_37 (b : Nat) (w : World) : Calls Tryz.prog 193 #[.pointer (some ⟨b, 0, none⟩)] w fun e w' => e = .returned (.string ⟨#[85, 110, 115, 105, 103, 110, 101, 100, 73, 110, 116, 101, 103, 101, 114, 76, 105, 116, 101, 114, 97, 108]⟩) ∧ w = w' := by
  go_enter Tryz.func193, Tryz.ntmps193
  go_wp2_with fail
  go_ret
  exact ⟨rfl, rfl⟩
theorem meth_37 (b : Nat) (w : World) : Sem.run Tryz.prog (method 526 60 (.pointer (some ⟨b, 0, none⟩)) "Type") w = .ok (193, .pointer (some ⟨b, 0, none⟩)) w := by kernel_rfl
theorem entr_37 (b : Nat) (w : World) : Sem.run Tryz.prog (callFunc 193 #[.pointer (some ⟨b, 0, none⟩)]) w = .ok (.enter 193 #[.pointer (some ⟨b, 0, none⟩)]) w := by kernel_rfl

theorem type_38 (b : Nat) (w : World) : Calls Tryz.prog 335 #[.pointer (some ⟨b, 0, none⟩)] w fun e w' => e = .returned (.string ⟨#[70, 108, 111, 97, 116, 76, 105, 116, 101, 114, 97, 108]⟩) ∧ w = w' := by
  go_enter Tryz.func335, Tryz.ntmps335
  go_wp2_with fail
  go_ret
  exact ⟨rfl, rfl⟩
theorem meth_38 (b : Nat) (w : World) : Sem.run Tryz.prog (method 526 234 (.pointer (some ⟨b, 0, none⟩)) "Type") w = .ok (335, .pointer (some ⟨b, 0, none⟩)) w := by kernel_rfl
theorem entr_38 (b : Nat) (w : World) : Sem.run Tryz.prog (callFunc 335 #[.pointer (some ⟨b, 0, none⟩)]) w = .ok (.enter 335 #[.pointer (some ⟨b, 0, none⟩)]) w := by kernel_rfl

theorem type_39 (b : Nat) (w : World) : Calls Tryz.prog 339 #[.pointer (some ⟨b, 0, none⟩)] w fun e w' => e = .returned (.string ⟨#[68, 117, 114, 97, 116, 105, 111, 110, 76, 105, 116, 101, 114, 97, 108]⟩) ∧ w = w' := by
  go_enter Tryz.func339, Tryz.ntmps339
  go_wp2_with fail
  go_ret
  exact ⟨rfl, rfl⟩
theorem meth_39 (b : Nat) (w : World) : Sem.run Tryz.prog (method 526 239 (.pointer (some ⟨b, 0, none⟩)) "Type") w = .ok (339, .pointer (some ⟨b, 0, none⟩)) w := by kernel_rfl
theorem entr_39 (b : Nat) (w : World) : Sem.run Tryz.prog (callFunc 339 #[.pointer (some ⟨b, 0, none⟩)]) w = .ok (.enter 339 #[.pointer (some ⟨b, 0, none⟩)]) w := by kernel_rfl

theorem type_41 (b : Nat) (w : World) : Calls Tryz.prog 343 #[.pointer (some ⟨b, 0, none⟩)] w fun e w' => e = .returned (.string ⟨#[68, 97, 116, 101, 84, 105, 109, 101, 76, 105, 116, 101, 114, 97, 108]⟩) ∧ w = w' := by
  go_enter Tryz.func343, Tryz.ntmps343
  go_wp2_with fail
  go_ret
  exact ⟨rfl, rfl⟩
theorem meth_41 (b : Nat) (w : World) : Sem.run Tryz.prog (method 526 244 (.pointer (some ⟨b, 0, none⟩)) "Type") w = .ok (343, .pointer (some ⟨b, 0, none⟩)) w := by kernel_rfl
theorem entr_41 (b : Nat) (w : World) : Sem.run Tryz.prog (callFunc 343 #[.pointer (some ⟨b, 0, none⟩)]) w = .ok (.enter 343 #[.pointer (some ⟨b, 0, none⟩)]) w := by kernel_rfl

theorem type_42 (b : Nat) (w : World) : Calls Tryz.prog 348 #[.pointer (some ⟨b, 0, none⟩)] w fun e w' => e = .returned (.string ⟨#[82, 101, 103, 101, 120, 112, 76, 105, 116, 101, 114, 97, 108]⟩) ∧ w = w' := by
  go_enter Tryz.func348, Tryz.ntmps348
  go_wp2_with fail
  go_ret
  exact ⟨rfl, rfl⟩
theorem meth_42 (b : Nat) (w : World) : Sem.run Tryz.prog (method 526 250 (.pointer (some ⟨b, 0, none⟩)) "Type") w = .ok (348, .pointer (some ⟨b, 0, none⟩)) w := by kernel_rfl
theorem entr_42 (b : Nat) (w : World) : Sem.run Tryz.prog (callFunc 348 #[.pointer (some ⟨b, 0, none⟩)]) w = .ok (.enter 348 #[.pointer (some ⟨b, 0, none⟩)]) w := by kernel_rfl

theorem type_43 (b : Nat) (w : World) : Calls Tryz.prog 352 #[.pointer (some ⟨b, 0, none⟩)] w fun e w' => e = .returned (.string ⟨#[80, 105, 112, 101, 76, 105, 116, 101, 114, 97, 108]⟩) ∧ w = w' := by
  go_enter Tryz.func352, Tryz.ntmps352
  go_wp2_with fail
  go_ret
  exact ⟨rfl, rfl⟩
theorem meth_43 (b : Nat) (w : World) : Sem.run Tryz.prog (method 526 255 (.pointer (some ⟨b, 0, none⟩)) "Type") w = .ok (352, .pointer (some ⟨b, 0, none⟩)) w := by kernel_rfl
theorem entr_43 (b : Nat) (w : World) : Sem.run Tryz.prog (callFunc 352 #[.pointer (some ⟨b, 0, none⟩)]) w = .ok (.enter 352 #[.pointer (some ⟨b, 0, none⟩)]) w := by kernel_rfl

theorem named_walk {k : Int} (h : k ∈ namedL) : k ∈ walkL := by
  unfold namedL at h; unfold walkL
  simp at h ⊢; omega

/-- Which method is called, and what it answers. -/
theorem meth_any (k : Int) (hk : k ∈ namedL) (b : Nat) : (∀ w, Sem.run Tryz.prog (method 526 (pTy k) (.pointer (some ⟨b, 0, none⟩)) "Type") w = .ok (meOf k, .pointer (some ⟨b, 0, none⟩)) w) ∧ (∀ w, Sem.run Tryz.prog (callFunc (meOf k) #[.pointer (some ⟨b, 0, none⟩)]) w = .ok (.enter (meOf k) #[.pointer (some ⟨b, 0, none⟩)]) w) ∧
    ∀ w, Calls Tryz.prog (meOf k) #[.pointer (some ⟨b, 0, none⟩)] w fun e w' => e = .returned (.string (nameOf k)) ∧ w = w' := by
  unfold namedL at hk
  simp only [List.mem_cons, List.not_mem_nil, or_false] at hk
  rcases hk with rfl | rfl | rfl | rfl | rfl | rfl | rfl | rfl | rfl | rfl | rfl | rfl | rfl | rfl | rfl | rfl | rfl | rfl | rfl | rfl | rfl | rfl | rfl | rfl | rfl | rfl | rfl | rfl | rfl | rfl | rfl | rfl | rfl | rfl | rfl | rfl | rfl | rfl
  · rw [show pTy 2 = 96 from ptrTy_2, show meOf 2 = 213 from by decide, show nameOf 2 = ⟨#[80, 97, 99, 107, 97, 103, 101]⟩ from by decide]; exact ⟨meth_2 b, entr_2 b, type_2 b⟩
  · rw [show pTy 3 = 80 from ptrTy_3, show meOf 3 = 206 from by decide, show nameOf 3 = ⟨#[70, 105, 108, 101]⟩ from by decide]; exact ⟨meth_3 b, entr_3 b, type_3 b⟩
  · rw [show pTy 4 = 109 from ptrTy_4, show meOf 4 = 219 from by decide, show nameOf 4 = ⟨#[80, 97, 99, 107, 97, 103, 101, 67, 108, 97, 117, 115, 101]⟩ from by decide]; exact ⟨meth_4 b, entr_4 b, type_4 b⟩
  · rw [show pTy 5 = 104 from ptrTy_5, show meOf 5 = 216 from by decide, show nameOf 5 = ⟨#[73, 109, 112, 111, 114, 116, 68, 101, 99, 108, 97, 114, 97, 116, 105, 111, 110]⟩ from by decide]; exact ⟨meth_5 b, entr_5 b, type_5 b⟩
  · rw [show pTy 6 = 120 from ptrTy_6, show meOf 6 = 227 from by decide, show nameOf 6 = ⟨#[66, 108, 111, 99, 107]⟩ from by decide]; exact ⟨meth_6 b, entr_6 b, type_6 b⟩
  · rw [show pTy 7 = 123 from ptrTy_7, show meOf 7 = 230 from by decide, show nameOf 7 = ⟨#[66, 97, 100, 83, 116, 97, 116, 101, 109, 101, 110, 116]⟩ from by decide]; exact ⟨meth_7 b, entr_7 b, type_7 b⟩
  · rw [show pTy 8 = 126 from ptrTy_8, show meOf 8 = 234 from by decide, show nameOf 8 = ⟨#[69, 120, 112, 114, 101, 115, 115, 105, 111, 110, 83, 116, 97, 116, 101, 109, 101, 110, 116]⟩ from by decide]; exact ⟨meth_8 b, entr_8 b, type_8 b⟩
  · rw [show pTy 9 = 130 from ptrTy_9, show meOf 9 = 238 from by decide, show nameOf 9 = ⟨#[82, 101, 116, 117, 114, 110, 83, 116, 97, 116, 101, 109, 101, 110, 116]⟩ from by decide]; exact ⟨meth_9 b, entr_9 b, type_9 b⟩
  · rw [show pTy 10 = 133 from ptrTy_10, show meOf 10 = 242 from by decide, show nameOf 10 = ⟨#[86, 97, 114, 105, 97, 98, 108, 101, 65, 115, 115, 105, 103, 110, 109, 101, 110, 116]⟩ from by decide]; exact ⟨meth_10 b, entr_10 b, type_10 b⟩
  · rw [show pTy 11 = 136 from ptrTy_11, show meOf 11 = 247 from by decide, show nameOf 11 = ⟨#[77, 101, 109, 98, 101, 114, 65, 115, 115, 105, 103, 110, 109, 101, 110, 116]⟩ from by decide]; exact ⟨meth_11 b, entr_11 b, type_11 b⟩
  · rw [show pTy 12 = 141 from ptrTy_12, show meOf 12 = 256 from by decide, show nameOf 12 = ⟨#[79, 112, 116, 105, 111, 110, 83, 116, 97, 116, 101, 109, 101, 110, 116]⟩ from by decide]; exact ⟨meth_12 b, entr_12 b, type_12 b⟩
  · rw [show pTy 14 = 157 from ptrTy_14, show meOf 14 = 267 from by decide, show nameOf 14 = ⟨#[84, 101, 115, 116, 83, 116, 97, 116, 101, 109, 101, 110, 116]⟩ from by decide]; exact ⟨meth_14 b, entr_14 b, type_14 b⟩
  · rw [show pTy 15 = 161 from ptrTy_15, show meOf 15 = 271 from by decide, show nameOf 15 = ⟨#[84, 101, 115, 116, 67, 97, 115, 101, 83, 116, 97, 116, 101, 109, 101, 110, 116]⟩ from by decide]; exact ⟨meth_15 b, entr_15 b, type_15 b⟩
  · rw [show pTy 16 = 165 from ptrTy_16, show meOf 16 = 275 from by decide, show nameOf 16 = ⟨#[67, 97, 108, 108, 69, 120, 112, 114, 101, 115, 115, 105, 111, 110]⟩ from by decide]; exact ⟨meth_16 b, entr_16 b, type_16 b⟩
  · rw [show pTy 17 = 137 from ptrTy_17, show meOf 17 = 252 from by decide, show nameOf 17 = ⟨#[77, 101, 109, 98, 101, 114, 69, 120, 112, 114, 101, 115, 115, 105, 111, 110]⟩ from by decide]; exact ⟨meth_17 b, entr_17 b, type_17 b⟩
  · rw [show pTy 18 = 175 from ptrTy_18, show meOf 18 = 279 from by decide, show nameOf 18 = ⟨#[73, 110, 100, 101, 120, 69, 120, 112, 114, 101, 115, 115, 105, 111, 110]⟩ from by decide]; exact ⟨meth_18 b, entr_18 b, type_18 b⟩
  · rw [show pTy 19 = 178 from ptrTy_19, show meOf 19 = 283 from by decide, show nameOf 19 = ⟨#[80, 105, 112, 101, 69, 120, 112, 114, 101, 115, 115, 105, 111, 110]⟩ from by decide]; exact ⟨meth_19 b, entr_19 b, type_19 b⟩
  · rw [show pTy 20 = 182 from ptrTy_20, show meOf 20 = 287 from by decide, show nameOf 20 = ⟨#[70, 117, 110, 99, 116, 105, 111, 110, 69, 120, 112, 114, 101, 115, 115, 105, 111, 110]⟩ from by decide]; exact ⟨meth_20 b, entr_20 b, type_20 b⟩
  · rw [show pTy 21 = 188 from ptrTy_21, show meOf 21 = 294 from by decide, show nameOf 21 = ⟨#[66, 105, 110, 97, 114, 121, 69, 120, 112, 114, 101, 115, 115, 105, 111, 110]⟩ from by decide]; exact ⟨meth_21 b, entr_21 b, type_21 b⟩
  · rw [show pTy 22 = 193 from ptrTy_22, show meOf 22 = 298 from by decide, show nameOf 22 = ⟨#[85, 110, 97, 114, 121, 69, 120, 112, 114, 101, 115, 115, 105, 111, 110]⟩ from by decide]; exact ⟨meth_22 b, entr_22 b, type_22 b⟩
  · rw [show pTy 23 = 196 from ptrTy_23, show meOf 23 = 302 from by decide, show nameOf 23 = ⟨#[76, 111, 103, 105, 99, 97, 108, 69, 120, 112, 114, 101, 115, 115, 105, 111, 110]⟩ from by decide]; exact ⟨meth_23 b, entr_23 b, type_23 b⟩
  · rw [show pTy 24 = 201 from ptrTy_24, show meOf 24 = 306 from by decide, show nameOf 24 = ⟨#[67, 111, 110, 100, 105, 116, 105, 111, 110, 97, 108, 69, 120, 112, 114, 101, 115, 115, 105, 111, 110]⟩ from by decide]; exact ⟨meth_24 b, entr_24 b, type_24 b⟩
  · rw [show pTy 25 = 204 from ptrTy_25, show meOf 25 = 310 from by decide, show nameOf 25 = ⟨#[80, 97, 114, 101, 110, 69, 120, 112, 114, 101, 115, 115, 105, 111, 110]⟩ from by decide]; exact ⟨meth_25 b, entr_25 b, type_25 b⟩
  · rw [show pTy 26 = 207 from ptrTy_26, show meOf 26 = 314 from by decide, show nameOf 26 = ⟨#[65, 114, 114, 97, 121, 69, 120, 112, 114, 101, 115, 115, 105, 111, 110]⟩ from by decide]; exact ⟨meth_26 b, entr_26 b, type_26 b⟩
  · rw [show pTy 27 = 210 from ptrTy_27, show meOf 27 = 318 from by decide, show nameOf 27 = ⟨#[68, 105, 99, 116, 69, 120, 112, 114, 101, 115, 115, 105, 111, 110]⟩ from by decide]; exact ⟨meth_27 b, entr_27 b, type_27 b⟩
  · rw [show pTy 28 = 92 from ptrTy_28, show meOf 28 = 209 from by decide, show nameOf 28 = ⟨#[79, 98, 106, 101, 99, 116, 69, 120, 112, 114, 101, 115, 115, 105, 111, 110]⟩ from by decide]; exact ⟨meth_28 b, entr_28 b, type_28 b⟩
  · rw [show pTy 29 = 185 from ptrTy_29, show meOf 29 = 291 from by decide, show nameOf 29 = ⟨#[80, 114, 111, 112, 101, 114, 116, 121]⟩ from by decide]; exact ⟨meth_29 b, entr_29 b, type_29 b⟩
  · rw [show pTy 30 = 221 from ptrTy_30, show meOf 30 = 323 from by decide, show nameOf 30 = ⟨#[83, 116, 114, 105, 110, 103, 69, 120, 112, 114, 101, 115, 115, 105, 111, 110]⟩ from by decide]; exact ⟨meth_30 b, entr_30 b, type_30 b⟩
  · rw [show pTy 33 = 113 from ptrTy_33, show meOf 33 = 223 from by decide, show nameOf 33 = ⟨#[73, 100, 101, 110, 116, 105, 102, 105, 101, 114]⟩ from by decide]; exact ⟨meth_33 b, entr_33 b, type_33 b⟩
  · rw [show pTy 34 = 65 from ptrTy_34, show meOf 34 = 198 from by decide, show nameOf 34 = ⟨#[83, 116, 114, 105, 110, 103, 76, 105, 116, 101, 114, 97, 108]⟩ from by decide]; exact ⟨meth_34 b, entr_34 b, type_34 b⟩
  · rw [show pTy 35 = 70 from ptrTy_35, show meOf 35 = 202 from by decide, show nameOf 35 = ⟨#[66, 111, 111, 108, 101, 97, 110, 76, 105, 116, 101, 114, 97, 108]⟩ from by decide]; exact ⟨meth_35 b, entr_35 b, type_35 b⟩
  · rw [show pTy 36 = 49 from ptrTy_36, show meOf 36 = 188 from by decide, show nameOf 36 = ⟨#[73, 110, 116, 101, 103, 101, 114, 76, 105, 116, 101, 114, 97, 108]⟩ from by decide]; exact ⟨meth_36 b, entr_36 b, type_36 b⟩
  · rw [show pTy 37 = 60 from ptrTy_37, show meOf 37 = 193 from by decide, show nameOf 37 = ⟨#[85, 110, 115, 105, 103, 110, 101, 100, 73, 110, 116, 101, 103, 101, 114, 76, 105, 116, 101, 114, 97, 108]⟩ from by decide]; exact ⟨meth_37 b, entr_37 b, type_37 b⟩
  · rw [show pTy 38 = 234 from ptrTy_38, show meOf 38 = 335 from by decide, show nameOf 38 = ⟨#[70, 108, 111, 97, 116, 76, 105, 116, 101, 114, 97, 108]⟩ from by decide]; exact ⟨meth_38 b, entr_38 b, type_38 b⟩
  · rw [show pTy 39 = 239 from ptrTy_39, show meOf 39 = 339 from by decide, show nameOf 39 = ⟨#[68, 117, 114, 97, 116, 105, 111, 110, 76, 105, 116, 101, 114, 97, 108]⟩ from by decide]; exact ⟨meth_39 b, entr_39 b, type_39 b⟩
  · rw [show pTy 41 = 244 from ptrTy_41, show meOf 41 = 343 from by decide, show nameOf 41 = ⟨#[68, 97, 116, 101, 84, 105, 109, 101, 76, 105, 116, 101, 114, 97, 108]⟩ from by decide]; exact ⟨meth_41 b, entr_41 b, type_41 b⟩
  · rw [show pTy 42 = 250 from ptrTy_42, show meOf 42 = 348 from by decide, show nameOf 42 = ⟨#[82, 101, 103, 101, 120, 112, 76, 105, 116, 101, 114, 97, 108]⟩ from by decide]; exact ⟨meth_42 b, entr_42 b, type_42 b⟩
  · rw [show pTy 43 = 255 from ptrTy_43, show meOf 43 = 352 from by decide, show nameOf 43 = ⟨#[80, 105, 112, 101, 76, 105, 116, 101, 114, 97, 108]⟩ from by decide]; exact ⟨meth_43 b, entr_43 b, type_43 b⟩

theorem noText_idle (p q : Addr) (w : World) : CallsD Tryz.prog 30 #[.pointer (some p), .pointer (some q)] .returning w fun e u' w' => u' = .returning ∧ e = .returned (.tuple #[]) ∧ w' = w := by
  refine callsD_of_wpS Tryz.func30 rfl fun c₀ cs hu => ?_
  apply wpS_seq
  apply wpS_region
  simp [wpOpsS, go_sem, recoverD, hu, Tryz.ntmps30, Exit.thenS]
  refine wpS_cond (t := false) (by simp [Act.eval, Array.replicate]) ?_
  simp only [Bool.false_eq_true, if_false]
  refine wpS_of_wp (wp_skip ?_)
  cases c₀
  simp_all [bodyPostS, results, Tryz.results30]

set_option maxRecDepth 100000 in
theorem implName_any (d : Nat) (n : Nd) (D : Nat) (w : World) (hL : LiesD D w n) (hG : GoodD d n) (hk : n.kind ∈ namedL) :
    Calls Tryz.prog 10 #[n.val] w fun e w' => e = .returned (.tuple #[.string (nameOf n.kind), .bool true]) ∧ Below w.heap.size w w' := by
  obtain ⟨k, t, m, u, ao, cap, kids⟩ := n
  have HL := Lib.hid hL
  have HG := Lib.hid hG
  have HK := Lib.hid (show k ∈ namedL from hk)
  clear hL hG hk
  show Calls _ _ #[.agg #[.int .i64 k, .string t, .string m, .int .u64 u, .slice ao kids.length cap]] w _
  go_enter_defers Tryz.func10, Tryz.ntmps10
  go_wp2_with fail
  refine (un_all d (.mk k t m u ao cap kids) D _ (HL.out.below ((((Below.refl _ _).alloc (Nat.le_refl _) _).alloc (by simp) _).alloc (by first | omega | (simp; done) | (simp; omega)) _)) HG.out).mono ?_
  rintro e w1 ⟨b, rfl, -, hb⟩
  have HB := Lib.hid (((((Below.refl w.heap.size w).alloc (Nat.le_refl _) _).alloc (by simp) _).alloc (by first | omega | (simp; done) | (simp; omega)) _).trans (hb.mono (by first | omega | (simp; done) | (simp; omega))))
  obtain ⟨k1, f1⟩ := bblk hb (b := w.heap.size + 1) (by first | omega | (simp; done) | (simp; omega))
  obtain ⟨k2, f2⟩ := bblk hb (b := w.heap.size + 1 + 1) (by first | omega | (simp; done) | (simp; omega))
  clear hb
  obtain ⟨hm, he, hc⟩ := meth_any k HK.out b
  have hm2 : ∀ w, Sem.run Tryz.prog (method 526 (pTy (Nd.kind (.mk k t m u ao cap kids))) (.pointer (some ⟨b, 0, none⟩)) "Type") w = .ok (meOf k, .pointer (some ⟨b, 0, none⟩)) w := hm
  clear hm
  generalize pTy (Nd.kind (.mk k t m u ao cap kids)) = T at hm2 ⊢
  generalize meOf k = F at hm2 he hc ⊢
  have HC := Lib.hid hc
  clear hc
  go_wp2_with fail
  refine (HC.out _).mono ?_
  rintro e w2 ⟨rfl, rfl⟩
  go_wp2_with fail
  refine leaves_cons (f := 30) (args := #[.pointer (some ⟨w.heap.size + 1, 0, none⟩), .pointer (some ⟨w.heap.size + 1 + 1, 0, none⟩)]) (by simp) (by simp [go_sem]) ?_
  refine (noText_idle _ _ _).mono ?_
  rintro e u2 w3 ⟨rfl, rfl, rfl⟩
  simp [Leaves, settle, results, Tryz.results10, go_sem, k1, k2]
  exact ⟨rfl, (HB.out.setCell (p := ⟨w.heap.size + 1, 0, none⟩) (Nat.le_succ _) _).setCell (p := ⟨w.heap.size + 1 + 1, 0, none⟩) (by simp; omega) _⟩
end Go.Proofs.YtongafghllkomaaGreatDoor
