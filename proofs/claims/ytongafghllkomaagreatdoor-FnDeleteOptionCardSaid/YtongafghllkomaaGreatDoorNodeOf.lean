/-
  nodeOf at each type that a walked tree wants, given unnode's own contract; maybeIdentifier, maybeString, maybeExpression. No conditions.
-/
import Derived.Test.YtongafghllkomaaGreatDoorRep
namespace Go.Proofs.YtongafghllkomaaGreatDoor
open Go.RowKit
set_option linter.unusedVariables false

/-- No node of a kind, so many levels down. -/
def NoneD : Nat → Nd → Int → Prop
  | 0, _, _ => True
  | d + 1, n, k => n.kind ≠ k ∧ ∀ (i : Nat) (x : Nd), n.kids[i]? = some x → NoneD d x k

def walkL : List Int := [2, 3, 4, 5, 6, 7, 8, 9, 10, 11, 12, 14, 15, 16, 17, 18, 19, 20, 21, 22, 23, 24, 25, 26, 27, 28, 29, 30, 31, 32, 33, 34, 35, 36, 37, 38, 39, 41, 42, 43]

def UnPost (d : Nat) (n : Nd) (w : World) (e : Ending) (w' : World) : Prop := ∃ b, e = .returned (.iface (pTy n.kind) (.pointer (some ⟨b, 0, none⟩))) ∧ RepD (From w.heap.size) d w' n b ∧ Below w.heap.size w w'
def PtrPost (d : Nat) (n : Nd) (w : World) (e : Ending) (w' : World) : Prop := ∃ b, e = .returned (.pointer (some ⟨b, 0, none⟩)) ∧ RepD (From w.heap.size) d w' n b ∧ Below w.heap.size w w'
/-- Few kids everywhere, and no more than the slices have room for. -/
def SmallD : Nat → Nd → Prop
  | 0, _ => True
  | d + 1, n => (n.kids.length ≤ 400 ∧ n.kids.length ≤ n.cap) ∧ ∀ (i : Nat) (x : Nd), n.kids[i]? = some x → SmallD d x

/-- A tree that unnode takes. -/
def GoodD (d : Nat) (n : Nd) : Prop := FitP d n ∧ NoneD d n 13 ∧ SmallD d n ∧ n.kind ∈ walkL
def UnC (d : Nat) : Prop := ∀ (n : Nd) (D : Nat) (w : World), LiesD D w n → GoodD d n → Calls Tryz.prog 31 #[n.val] w (UnPost d n w)

theorem as_3 (p : Option Addr) (w : World) : Sem.run Tryz.prog (Instr.typeAssert (.iface 80 (.pointer p)) 44 80 true) w = .ok (.tuple #[.pointer p, .bool true]) w := by kernel_rfl
theorem pTy_3 : pTy 3 = 80 := by decide

set_option maxRecDepth 100000 in
theorem nodeOf_3 (d : Nat) (hU : UnC d) (n : Nd) (D : Nat) (w : World) (hL : LiesD D w n) (hG : GoodD d n) (hk : n.kind = 3) : Calls Tryz.prog 47 #[n.val] w (PtrPost d n w) := by
  obtain ⟨k, t, m, u, ao, cap, kids⟩ := n
  obtain rfl : k = 3 := hk
  have HL := Lib.hid hL
  have HG := Lib.hid hG
  show Calls _ _ #[.agg #[.int .i64 3, .string t, .string m, .int .u64 u, .slice ao kids.length cap]] w _
  clear hL hG
  have ha := as_3
  go_enter Tryz.func47, Tryz.ntmps47
  go_wp2_with fail
  refine (hU (.mk 3 t m u ao cap kids) D _ (HL.out.below ((Below.refl _ _).alloc (Nat.le_refl _) _)) HG.out).mono ?_
  rintro e w1 ⟨b, rfl, hR, hb⟩
  rw [show pTy (Nd.kind (.mk 3 t m u ao cap kids)) = 80 from pTy_3]
  have HR := Lib.hid (hR.mono (From.le (show w.heap.size ≤ _ by simp)))
  have HB := Lib.hid (((Below.refl w.heap.size w).alloc (Nat.le_refl _) _).trans (hb.mono (by simp)))
  clear hR hb
  go_wp2_with fail
  go_ret
  exact ⟨b, rfl, HR.out, HB.out⟩

theorem as_4 (p : Option Addr) (w : World) : Sem.run Tryz.prog (Instr.typeAssert (.iface 109 (.pointer p)) 44 109 true) w = .ok (.tuple #[.pointer p, .bool true]) w := by kernel_rfl
theorem pTy_4 : pTy 4 = 109 := by decide

set_option maxRecDepth 100000 in
theorem nodeOf_4 (d : Nat) (hU : UnC d) (n : Nd) (D : Nat) (w : World) (hL : LiesD D w n) (hG : GoodD d n) (hk : n.kind = 4) : Calls Tryz.prog 62 #[n.val] w (PtrPost d n w) := by
  obtain ⟨k, t, m, u, ao, cap, kids⟩ := n
  obtain rfl : k = 4 := hk
  have HL := Lib.hid hL
  have HG := Lib.hid hG
  show Calls _ _ #[.agg #[.int .i64 4, .string t, .string m, .int .u64 u, .slice ao kids.length cap]] w _
  clear hL hG
  have ha := as_4
  go_enter Tryz.func62, Tryz.ntmps62
  go_wp2_with fail
  refine (hU (.mk 4 t m u ao cap kids) D _ (HL.out.below ((Below.refl _ _).alloc (Nat.le_refl _) _)) HG.out).mono ?_
  rintro e w1 ⟨b, rfl, hR, hb⟩
  rw [show pTy (Nd.kind (.mk 4 t m u ao cap kids)) = 109 from pTy_4]
  have HR := Lib.hid (hR.mono (From.le (show w.heap.size ≤ _ by simp)))
  have HB := Lib.hid (((Below.refl w.heap.size w).alloc (Nat.le_refl _) _).trans (hb.mono (by simp)))
  clear hR hb
  go_wp2_with fail
  go_ret
  exact ⟨b, rfl, HR.out, HB.out⟩

theorem as_5 (p : Option Addr) (w : World) : Sem.run Tryz.prog (Instr.typeAssert (.iface 104 (.pointer p)) 44 104 true) w = .ok (.tuple #[.pointer p, .bool true]) w := by kernel_rfl
theorem pTy_5 : pTy 5 = 104 := by decide

set_option maxRecDepth 100000 in
theorem nodeOf_5 (d : Nat) (hU : UnC d) (n : Nd) (D : Nat) (w : World) (hL : LiesD D w n) (hG : GoodD d n) (hk : n.kind = 5) : Calls Tryz.prog 116 #[n.val] w (PtrPost d n w) := by
  obtain ⟨k, t, m, u, ao, cap, kids⟩ := n
  obtain rfl : k = 5 := hk
  have HL := Lib.hid hL
  have HG := Lib.hid hG
  show Calls _ _ #[.agg #[.int .i64 5, .string t, .string m, .int .u64 u, .slice ao kids.length cap]] w _
  clear hL hG
  have ha := as_5
  go_enter Tryz.func116, Tryz.ntmps116
  go_wp2_with fail
  refine (hU (.mk 5 t m u ao cap kids) D _ (HL.out.below ((Below.refl _ _).alloc (Nat.le_refl _) _)) HG.out).mono ?_
  rintro e w1 ⟨b, rfl, hR, hb⟩
  rw [show pTy (Nd.kind (.mk 5 t m u ao cap kids)) = 104 from pTy_5]
  have HR := Lib.hid (hR.mono (From.le (show w.heap.size ≤ _ by simp)))
  have HB := Lib.hid (((Below.refl w.heap.size w).alloc (Nat.le_refl _) _).trans (hb.mono (by simp)))
  clear hR hb
  go_wp2_with fail
  go_ret
  exact ⟨b, rfl, HR.out, HB.out⟩

theorem as_6 (p : Option Addr) (w : World) : Sem.run Tryz.prog (Instr.typeAssert (.iface 120 (.pointer p)) 44 120 true) w = .ok (.tuple #[.pointer p, .bool true]) w := by kernel_rfl
theorem pTy_6 : pTy 6 = 120 := by decide

set_option maxRecDepth 100000 in
theorem nodeOf_6 (d : Nat) (hU : UnC d) (n : Nd) (D : Nat) (w : World) (hL : LiesD D w n) (hG : GoodD d n) (hk : n.kind = 6) : Calls Tryz.prog 72 #[n.val] w (PtrPost d n w) := by
  obtain ⟨k, t, m, u, ao, cap, kids⟩ := n
  obtain rfl : k = 6 := hk
  have HL := Lib.hid hL
  have HG := Lib.hid hG
  show Calls _ _ #[.agg #[.int .i64 6, .string t, .string m, .int .u64 u, .slice ao kids.length cap]] w _
  clear hL hG
  have ha := as_6
  go_enter Tryz.func72, Tryz.ntmps72
  go_wp2_with fail
  refine (hU (.mk 6 t m u ao cap kids) D _ (HL.out.below ((Below.refl _ _).alloc (Nat.le_refl _) _)) HG.out).mono ?_
  rintro e w1 ⟨b, rfl, hR, hb⟩
  rw [show pTy (Nd.kind (.mk 6 t m u ao cap kids)) = 120 from pTy_6]
  have HR := Lib.hid (hR.mono (From.le (show w.heap.size ≤ _ by simp)))
  have HB := Lib.hid (((Below.refl w.heap.size w).alloc (Nat.le_refl _) _).trans (hb.mono (by simp)))
  clear hR hb
  go_wp2_with fail
  go_ret
  exact ⟨b, rfl, HR.out, HB.out⟩

theorem as_10 (p : Option Addr) (w : World) : Sem.run Tryz.prog (Instr.typeAssert (.iface 133 (.pointer p)) 44 133 true) w = .ok (.tuple #[.pointer p, .bool true]) w := by kernel_rfl
theorem pTy_10 : pTy 10 = 133 := by decide

set_option maxRecDepth 100000 in
theorem nodeOf_10 (d : Nat) (hU : UnC d) (n : Nd) (D : Nat) (w : World) (hL : LiesD D w n) (hG : GoodD d n) (hk : n.kind = 10) : Calls Tryz.prog 70 #[n.val] w (PtrPost d n w) := by
  obtain ⟨k, t, m, u, ao, cap, kids⟩ := n
  obtain rfl : k = 10 := hk
  have HL := Lib.hid hL
  have HG := Lib.hid hG
  show Calls _ _ #[.agg #[.int .i64 10, .string t, .string m, .int .u64 u, .slice ao kids.length cap]] w _
  clear hL hG
  have ha := as_10
  go_enter Tryz.func70, Tryz.ntmps70
  go_wp2_with fail
  refine (hU (.mk 10 t m u ao cap kids) D _ (HL.out.below ((Below.refl _ _).alloc (Nat.le_refl _) _)) HG.out).mono ?_
  rintro e w1 ⟨b, rfl, hR, hb⟩
  rw [show pTy (Nd.kind (.mk 10 t m u ao cap kids)) = 133 from pTy_10]
  have HR := Lib.hid (hR.mono (From.le (show w.heap.size ≤ _ by simp)))
  have HB := Lib.hid (((Below.refl w.heap.size w).alloc (Nat.le_refl _) _).trans (hb.mono (by simp)))
  clear hR hb
  go_wp2_with fail
  go_ret
  exact ⟨b, rfl, HR.out, HB.out⟩

theorem as_16 (p : Option Addr) (w : World) : Sem.run Tryz.prog (Instr.typeAssert (.iface 165 (.pointer p)) 44 165 true) w = .ok (.tuple #[.pointer p, .bool true]) w := by kernel_rfl
theorem pTy_16 : pTy 16 = 165 := by decide

set_option maxRecDepth 100000 in
theorem nodeOf_16 (d : Nat) (hU : UnC d) (n : Nd) (D : Nat) (w : World) (hL : LiesD D w n) (hG : GoodD d n) (hk : n.kind = 16) : Calls Tryz.prog 77 #[n.val] w (PtrPost d n w) := by
  obtain ⟨k, t, m, u, ao, cap, kids⟩ := n
  obtain rfl : k = 16 := hk
  have HL := Lib.hid hL
  have HG := Lib.hid hG
  show Calls _ _ #[.agg #[.int .i64 16, .string t, .string m, .int .u64 u, .slice ao kids.length cap]] w _
  clear hL hG
  have ha := as_16
  go_enter Tryz.func77, Tryz.ntmps77
  go_wp2_with fail
  refine (hU (.mk 16 t m u ao cap kids) D _ (HL.out.below ((Below.refl _ _).alloc (Nat.le_refl _) _)) HG.out).mono ?_
  rintro e w1 ⟨b, rfl, hR, hb⟩
  rw [show pTy (Nd.kind (.mk 16 t m u ao cap kids)) = 165 from pTy_16]
  have HR := Lib.hid (hR.mono (From.le (show w.heap.size ≤ _ by simp)))
  have HB := Lib.hid (((Below.refl w.heap.size w).alloc (Nat.le_refl _) _).trans (hb.mono (by simp)))
  clear hR hb
  go_wp2_with fail
  go_ret
  exact ⟨b, rfl, HR.out, HB.out⟩

theorem as_17 (p : Option Addr) (w : World) : Sem.run Tryz.prog (Instr.typeAssert (.iface 137 (.pointer p)) 44 137 true) w = .ok (.tuple #[.pointer p, .bool true]) w := by kernel_rfl
theorem pTy_17 : pTy 17 = 137 := by decide

set_option maxRecDepth 100000 in
theorem nodeOf_17 (d : Nat) (hU : UnC d) (n : Nd) (D : Nat) (w : World) (hL : LiesD D w n) (hG : GoodD d n) (hk : n.kind = 17) : Calls Tryz.prog 67 #[n.val] w (PtrPost d n w) := by
  obtain ⟨k, t, m, u, ao, cap, kids⟩ := n
  obtain rfl : k = 17 := hk
  have HL := Lib.hid hL
  have HG := Lib.hid hG
  show Calls _ _ #[.agg #[.int .i64 17, .string t, .string m, .int .u64 u, .slice ao kids.length cap]] w _
  clear hL hG
  have ha := as_17
  go_enter Tryz.func67, Tryz.ntmps67
  go_wp2_with fail
  refine (hU (.mk 17 t m u ao cap kids) D _ (HL.out.below ((Below.refl _ _).alloc (Nat.le_refl _) _)) HG.out).mono ?_
  rintro e w1 ⟨b, rfl, hR, hb⟩
  rw [show pTy (Nd.kind (.mk 17 t m u ao cap kids)) = 137 from pTy_17]
  have HR := Lib.hid (hR.mono (From.le (show w.heap.size ≤ _ by simp)))
  have HB := Lib.hid (((Below.refl w.heap.size w).alloc (Nat.le_refl _) _).trans (hb.mono (by simp)))
  clear hR hb
  go_wp2_with fail
  go_ret
  exact ⟨b, rfl, HR.out, HB.out⟩

theorem as_28 (p : Option Addr) (w : World) : Sem.run Tryz.prog (Instr.typeAssert (.iface 92 (.pointer p)) 44 92 true) w = .ok (.tuple #[.pointer p, .bool true]) w := by kernel_rfl
theorem pTy_28 : pTy 28 = 92 := by decide

set_option maxRecDepth 100000 in
theorem nodeOf_28 (d : Nat) (hU : UnC d) (n : Nd) (D : Nat) (w : World) (hL : LiesD D w n) (hG : GoodD d n) (hk : n.kind = 28) : Calls Tryz.prog 55 #[n.val] w (PtrPost d n w) := by
  obtain ⟨k, t, m, u, ao, cap, kids⟩ := n
  obtain rfl : k = 28 := hk
  have HL := Lib.hid hL
  have HG := Lib.hid hG
  show Calls _ _ #[.agg #[.int .i64 28, .string t, .string m, .int .u64 u, .slice ao kids.length cap]] w _
  clear hL hG
  have ha := as_28
  go_enter Tryz.func55, Tryz.ntmps55
  go_wp2_with fail
  refine (hU (.mk 28 t m u ao cap kids) D _ (HL.out.below ((Below.refl _ _).alloc (Nat.le_refl _) _)) HG.out).mono ?_
  rintro e w1 ⟨b, rfl, hR, hb⟩
  rw [show pTy (Nd.kind (.mk 28 t m u ao cap kids)) = 92 from pTy_28]
  have HR := Lib.hid (hR.mono (From.le (show w.heap.size ≤ _ by simp)))
  have HB := Lib.hid (((Below.refl w.heap.size w).alloc (Nat.le_refl _) _).trans (hb.mono (by simp)))
  clear hR hb
  go_wp2_with fail
  go_ret
  exact ⟨b, rfl, HR.out, HB.out⟩

theorem as_29 (p : Option Addr) (w : World) : Sem.run Tryz.prog (Instr.typeAssert (.iface 185 (.pointer p)) 44 185 true) w = .ok (.tuple #[.pointer p, .bool true]) w := by kernel_rfl
theorem pTy_29 : pTy 29 = 185 := by decide

set_option maxRecDepth 100000 in
theorem nodeOf_29 (d : Nat) (hU : UnC d) (n : Nd) (D : Nat) (w : World) (hL : LiesD D w n) (hG : GoodD d n) (hk : n.kind = 29) : Calls Tryz.prog 118 #[n.val] w (PtrPost d n w) := by
  obtain ⟨k, t, m, u, ao, cap, kids⟩ := n
  obtain rfl : k = 29 := hk
  have HL := Lib.hid hL
  have HG := Lib.hid hG
  show Calls _ _ #[.agg #[.int .i64 29, .string t, .string m, .int .u64 u, .slice ao kids.length cap]] w _
  clear hL hG
  have ha := as_29
  go_enter Tryz.func118, Tryz.ntmps118
  go_wp2_with fail
  refine (hU (.mk 29 t m u ao cap kids) D _ (HL.out.below ((Below.refl _ _).alloc (Nat.le_refl _) _)) HG.out).mono ?_
  rintro e w1 ⟨b, rfl, hR, hb⟩
  rw [show pTy (Nd.kind (.mk 29 t m u ao cap kids)) = 185 from pTy_29]
  have HR := Lib.hid (hR.mono (From.le (show w.heap.size ≤ _ by simp)))
  have HB := Lib.hid (((Below.refl w.heap.size w).alloc (Nat.le_refl _) _).trans (hb.mono (by simp)))
  clear hR hb
  go_wp2_with fail
  go_ret
  exact ⟨b, rfl, HR.out, HB.out⟩

theorem as_33 (p : Option Addr) (w : World) : Sem.run Tryz.prog (Instr.typeAssert (.iface 113 (.pointer p)) 44 113 true) w = .ok (.tuple #[.pointer p, .bool true]) w := by kernel_rfl
theorem pTy_33 : pTy 33 = 113 := by decide

set_option maxRecDepth 100000 in
theorem nodeOf_33 (d : Nat) (hU : UnC d) (n : Nd) (D : Nat) (w : World) (hL : LiesD D w n) (hG : GoodD d n) (hk : n.kind = 33) : Calls Tryz.prog 63 #[n.val] w (PtrPost d n w) := by
  obtain ⟨k, t, m, u, ao, cap, kids⟩ := n
  obtain rfl : k = 33 := hk
  have HL := Lib.hid hL
  have HG := Lib.hid hG
  show Calls _ _ #[.agg #[.int .i64 33, .string t, .string m, .int .u64 u, .slice ao kids.length cap]] w _
  clear hL hG
  have ha := as_33
  go_enter Tryz.func63, Tryz.ntmps63
  go_wp2_with fail
  refine (hU (.mk 33 t m u ao cap kids) D _ (HL.out.below ((Below.refl _ _).alloc (Nat.le_refl _) _)) HG.out).mono ?_
  rintro e w1 ⟨b, rfl, hR, hb⟩
  rw [show pTy (Nd.kind (.mk 33 t m u ao cap kids)) = 113 from pTy_33]
  have HR := Lib.hid (hR.mono (From.le (show w.heap.size ≤ _ by simp)))
  have HB := Lib.hid (((Below.refl w.heap.size w).alloc (Nat.le_refl _) _).trans (hb.mono (by simp)))
  clear hR hb
  go_wp2_with fail
  go_ret
  exact ⟨b, rfl, HR.out, HB.out⟩

theorem as_34 (p : Option Addr) (w : World) : Sem.run Tryz.prog (Instr.typeAssert (.iface 65 (.pointer p)) 44 65 true) w = .ok (.tuple #[.pointer p, .bool true]) w := by kernel_rfl
theorem pTy_34 : pTy 34 = 65 := by decide

set_option maxRecDepth 100000 in
theorem nodeOf_34 (d : Nat) (hU : UnC d) (n : Nd) (D : Nat) (w : World) (hL : LiesD D w n) (hG : GoodD d n) (hk : n.kind = 34) : Calls Tryz.prog 65 #[n.val] w (PtrPost d n w) := by
  obtain ⟨k, t, m, u, ao, cap, kids⟩ := n
  obtain rfl : k = 34 := hk
  have HL := Lib.hid hL
  have HG := Lib.hid hG
  show Calls _ _ #[.agg #[.int .i64 34, .string t, .string m, .int .u64 u, .slice ao kids.length cap]] w _
  clear hL hG
  have ha := as_34
  go_enter Tryz.func65, Tryz.ntmps65
  go_wp2_with fail
  refine (hU (.mk 34 t m u ao cap kids) D _ (HL.out.below ((Below.refl _ _).alloc (Nat.le_refl _) _)) HG.out).mono ?_
  rintro e w1 ⟨b, rfl, hR, hb⟩
  rw [show pTy (Nd.kind (.mk 34 t m u ao cap kids)) = 65 from pTy_34]
  have HR := Lib.hid (hR.mono (From.le (show w.heap.size ≤ _ by simp)))
  have HB := Lib.hid (((Below.refl w.heap.size w).alloc (Nat.le_refl _) _).trans (hb.mono (by simp)))
  clear hR hb
  go_wp2_with fail
  go_ret
  exact ⟨b, rfl, HR.out, HB.out⟩

theorem asExpression_16 (p : Option Addr) (w : World) : Sem.run Tryz.prog (Instr.typeAssert (.iface (pTy 16) (.pointer p)) 44 87 true) w = .ok (.tuple #[.iface (pTy 16) (.pointer p), .bool true]) w := by kernel_rfl
theorem asExpression_17 (p : Option Addr) (w : World) : Sem.run Tryz.prog (Instr.typeAssert (.iface (pTy 17) (.pointer p)) 44 87 true) w = .ok (.tuple #[.iface (pTy 17) (.pointer p), .bool true]) w := by kernel_rfl
theorem asExpression_18 (p : Option Addr) (w : World) : Sem.run Tryz.prog (Instr.typeAssert (.iface (pTy 18) (.pointer p)) 44 87 true) w = .ok (.tuple #[.iface (pTy 18) (.pointer p), .bool true]) w := by kernel_rfl
theorem asExpression_19 (p : Option Addr) (w : World) : Sem.run Tryz.prog (Instr.typeAssert (.iface (pTy 19) (.pointer p)) 44 87 true) w = .ok (.tuple #[.iface (pTy 19) (.pointer p), .bool true]) w := by kernel_rfl
theorem asExpression_20 (p : Option Addr) (w : World) : Sem.run Tryz.prog (Instr.typeAssert (.iface (pTy 20) (.pointer p)) 44 87 true) w = .ok (.tuple #[.iface (pTy 20) (.pointer p), .bool true]) w := by kernel_rfl
theorem asExpression_21 (p : Option Addr) (w : World) : Sem.run Tryz.prog (Instr.typeAssert (.iface (pTy 21) (.pointer p)) 44 87 true) w = .ok (.tuple #[.iface (pTy 21) (.pointer p), .bool true]) w := by kernel_rfl
theorem asExpression_22 (p : Option Addr) (w : World) : Sem.run Tryz.prog (Instr.typeAssert (.iface (pTy 22) (.pointer p)) 44 87 true) w = .ok (.tuple #[.iface (pTy 22) (.pointer p), .bool true]) w := by kernel_rfl
theorem asExpression_23 (p : Option Addr) (w : World) : Sem.run Tryz.prog (Instr.typeAssert (.iface (pTy 23) (.pointer p)) 44 87 true) w = .ok (.tuple #[.iface (pTy 23) (.pointer p), .bool true]) w := by kernel_rfl
theorem asExpression_24 (p : Option Addr) (w : World) : Sem.run Tryz.prog (Instr.typeAssert (.iface (pTy 24) (.pointer p)) 44 87 true) w = .ok (.tuple #[.iface (pTy 24) (.pointer p), .bool true]) w := by kernel_rfl
theorem asExpression_25 (p : Option Addr) (w : World) : Sem.run Tryz.prog (Instr.typeAssert (.iface (pTy 25) (.pointer p)) 44 87 true) w = .ok (.tuple #[.iface (pTy 25) (.pointer p), .bool true]) w := by kernel_rfl
theorem asExpression_26 (p : Option Addr) (w : World) : Sem.run Tryz.prog (Instr.typeAssert (.iface (pTy 26) (.pointer p)) 44 87 true) w = .ok (.tuple #[.iface (pTy 26) (.pointer p), .bool true]) w := by kernel_rfl
theorem asExpression_27 (p : Option Addr) (w : World) : Sem.run Tryz.prog (Instr.typeAssert (.iface (pTy 27) (.pointer p)) 44 87 true) w = .ok (.tuple #[.iface (pTy 27) (.pointer p), .bool true]) w := by kernel_rfl
theorem asExpression_28 (p : Option Addr) (w : World) : Sem.run Tryz.prog (Instr.typeAssert (.iface (pTy 28) (.pointer p)) 44 87 true) w = .ok (.tuple #[.iface (pTy 28) (.pointer p), .bool true]) w := by kernel_rfl
theorem asExpression_30 (p : Option Addr) (w : World) : Sem.run Tryz.prog (Instr.typeAssert (.iface (pTy 30) (.pointer p)) 44 87 true) w = .ok (.tuple #[.iface (pTy 30) (.pointer p), .bool true]) w := by kernel_rfl
theorem asExpression_33 (p : Option Addr) (w : World) : Sem.run Tryz.prog (Instr.typeAssert (.iface (pTy 33) (.pointer p)) 44 87 true) w = .ok (.tuple #[.iface (pTy 33) (.pointer p), .bool true]) w := by kernel_rfl
theorem asExpression_34 (p : Option Addr) (w : World) : Sem.run Tryz.prog (Instr.typeAssert (.iface (pTy 34) (.pointer p)) 44 87 true) w = .ok (.tuple #[.iface (pTy 34) (.pointer p), .bool true]) w := by kernel_rfl
theorem asExpression_35 (p : Option Addr) (w : World) : Sem.run Tryz.prog (Instr.typeAssert (.iface (pTy 35) (.pointer p)) 44 87 true) w = .ok (.tuple #[.iface (pTy 35) (.pointer p), .bool true]) w := by kernel_rfl
theorem asExpression_36 (p : Option Addr) (w : World) : Sem.run Tryz.prog (Instr.typeAssert (.iface (pTy 36) (.pointer p)) 44 87 true) w = .ok (.tuple #[.iface (pTy 36) (.pointer p), .bool true]) w := by kernel_rfl
theorem asExpression_37 (p : Option Addr) (w : World) : Sem.run Tryz.prog (Instr.typeAssert (.iface (pTy 37) (.pointer p)) 44 87 true) w = .ok (.tuple #[.iface (pTy 37) (.pointer p), .bool true]) w := by kernel_rfl
theorem asExpression_38 (p : Option Addr) (w : World) : Sem.run Tryz.prog (Instr.typeAssert (.iface (pTy 38) (.pointer p)) 44 87 true) w = .ok (.tuple #[.iface (pTy 38) (.pointer p), .bool true]) w := by kernel_rfl
theorem asExpression_39 (p : Option Addr) (w : World) : Sem.run Tryz.prog (Instr.typeAssert (.iface (pTy 39) (.pointer p)) 44 87 true) w = .ok (.tuple #[.iface (pTy 39) (.pointer p), .bool true]) w := by kernel_rfl
theorem asExpression_41 (p : Option Addr) (w : World) : Sem.run Tryz.prog (Instr.typeAssert (.iface (pTy 41) (.pointer p)) 44 87 true) w = .ok (.tuple #[.iface (pTy 41) (.pointer p), .bool true]) w := by kernel_rfl
theorem asExpression_42 (p : Option Addr) (w : World) : Sem.run Tryz.prog (Instr.typeAssert (.iface (pTy 42) (.pointer p)) 44 87 true) w = .ok (.tuple #[.iface (pTy 42) (.pointer p), .bool true]) w := by kernel_rfl
theorem asExpression_43 (p : Option Addr) (w : World) : Sem.run Tryz.prog (Instr.typeAssert (.iface (pTy 43) (.pointer p)) 44 87 true) w = .ok (.tuple #[.iface (pTy 43) (.pointer p), .bool true]) w := by kernel_rfl
theorem asExpression (k : Int) (hk : k ∈ ([16, 17, 18, 19, 20, 21, 22, 23, 24, 25, 26, 27, 28, 30, 33, 34, 35, 36, 37, 38, 39, 41, 42, 43] : List Int)) (p : Option Addr) (w : World) : Sem.run Tryz.prog (Instr.typeAssert (.iface (pTy k) (.pointer p)) 44 87 true) w = .ok (.tuple #[.iface (pTy k) (.pointer p), .bool true]) w := by
  simp only [List.mem_cons, List.not_mem_nil, or_false] at hk
  rcases hk with rfl | rfl | rfl | rfl | rfl | rfl | rfl | rfl | rfl | rfl | rfl | rfl | rfl | rfl | rfl | rfl | rfl | rfl | rfl | rfl | rfl | rfl | rfl | rfl
  · exact asExpression_16 p w
  · exact asExpression_17 p w
  · exact asExpression_18 p w
  · exact asExpression_19 p w
  · exact asExpression_20 p w
  · exact asExpression_21 p w
  · exact asExpression_22 p w
  · exact asExpression_23 p w
  · exact asExpression_24 p w
  · exact asExpression_25 p w
  · exact asExpression_26 p w
  · exact asExpression_27 p w
  · exact asExpression_28 p w
  · exact asExpression_30 p w
  · exact asExpression_33 p w
  · exact asExpression_34 p w
  · exact asExpression_35 p w
  · exact asExpression_36 p w
  · exact asExpression_37 p w
  · exact asExpression_38 p w
  · exact asExpression_39 p w
  · exact asExpression_41 p w
  · exact asExpression_42 p w
  · exact asExpression_43 p w

set_option maxRecDepth 100000 in
theorem nodeOfExpression (d : Nat) (hU : UnC d) (n : Nd) (D : Nat) (w : World) (hL : LiesD D w n) (hG : GoodD d n) (hk : n.kind ∈ ([16, 17, 18, 19, 20, 21, 22, 23, 24, 25, 26, 27, 28, 30, 33, 34, 35, 36, 37, 38, 39, 41, 42, 43] : List Int)) : Calls Tryz.prog 73 #[n.val] w (UnPost d n w) := by
  obtain ⟨k, t, m, u, ao, cap, kids⟩ := n
  have hk : k ∈ ([16, 17, 18, 19, 20, 21, 22, 23, 24, 25, 26, 27, 28, 30, 33, 34, 35, 36, 37, 38, 39, 41, 42, 43] : List Int) := hk
  have HL := Lib.hid hL
  have HG := Lib.hid hG
  show Calls _ _ #[.agg #[.int .i64 k, .string t, .string m, .int .u64 u, .slice ao kids.length cap]] w _
  clear hL hG
  have ha := asExpression k hk
  clear hk
  go_enter Tryz.func73, Tryz.ntmps73
  go_wp2_with fail
  refine (hU (.mk k t m u ao cap kids) D _ (HL.out.below ((Below.refl _ _).alloc (Nat.le_refl _) _)) HG.out).mono ?_
  rintro e w1 ⟨b, rfl, hR, hb⟩
  simp only [Nd.kind]
  have HR := Lib.hid (hR.mono (From.le (show w.heap.size ≤ _ by simp)))
  have HB := Lib.hid (((Below.refl w.heap.size w).alloc (Nat.le_refl _) _).trans (hb.mono (by simp)))
  clear hR hb
  go_wp2_with fail
  go_ret
  exact ⟨b, rfl, HR.out, HB.out⟩

theorem asStatement_7 (p : Option Addr) (w : World) : Sem.run Tryz.prog (Instr.typeAssert (.iface (pTy 7) (.pointer p)) 44 108 true) w = .ok (.tuple #[.iface (pTy 7) (.pointer p), .bool true]) w := by kernel_rfl
theorem asStatement_8 (p : Option Addr) (w : World) : Sem.run Tryz.prog (Instr.typeAssert (.iface (pTy 8) (.pointer p)) 44 108 true) w = .ok (.tuple #[.iface (pTy 8) (.pointer p), .bool true]) w := by kernel_rfl
theorem asStatement_9 (p : Option Addr) (w : World) : Sem.run Tryz.prog (Instr.typeAssert (.iface (pTy 9) (.pointer p)) 44 108 true) w = .ok (.tuple #[.iface (pTy 9) (.pointer p), .bool true]) w := by kernel_rfl
theorem asStatement_10 (p : Option Addr) (w : World) : Sem.run Tryz.prog (Instr.typeAssert (.iface (pTy 10) (.pointer p)) 44 108 true) w = .ok (.tuple #[.iface (pTy 10) (.pointer p), .bool true]) w := by kernel_rfl
theorem asStatement_11 (p : Option Addr) (w : World) : Sem.run Tryz.prog (Instr.typeAssert (.iface (pTy 11) (.pointer p)) 44 108 true) w = .ok (.tuple #[.iface (pTy 11) (.pointer p), .bool true]) w := by kernel_rfl
theorem asStatement_12 (p : Option Addr) (w : World) : Sem.run Tryz.prog (Instr.typeAssert (.iface (pTy 12) (.pointer p)) 44 108 true) w = .ok (.tuple #[.iface (pTy 12) (.pointer p), .bool true]) w := by kernel_rfl
theorem asStatement_14 (p : Option Addr) (w : World) : Sem.run Tryz.prog (Instr.typeAssert (.iface (pTy 14) (.pointer p)) 44 108 true) w = .ok (.tuple #[.iface (pTy 14) (.pointer p), .bool true]) w := by kernel_rfl
theorem asStatement_15 (p : Option Addr) (w : World) : Sem.run Tryz.prog (Instr.typeAssert (.iface (pTy 15) (.pointer p)) 44 108 true) w = .ok (.tuple #[.iface (pTy 15) (.pointer p), .bool true]) w := by kernel_rfl
theorem asStatement (k : Int) (hk : k ∈ ([7, 8, 9, 10, 11, 12, 14, 15] : List Int)) (p : Option Addr) (w : World) : Sem.run Tryz.prog (Instr.typeAssert (.iface (pTy k) (.pointer p)) 44 108 true) w = .ok (.tuple #[.iface (pTy k) (.pointer p), .bool true]) w := by
  simp only [List.mem_cons, List.not_mem_nil, or_false] at hk
  rcases hk with rfl | rfl | rfl | rfl | rfl | rfl | rfl | rfl
  · exact asStatement_7 p w
  · exact asStatement_8 p w
  · exact asStatement_9 p w
  · exact asStatement_10 p w
  · exact asStatement_11 p w
  · exact asStatement_12 p w
  · exact asStatement_14 p w
  · exact asStatement_15 p w

set_option maxRecDepth 100000 in
theorem nodeOfStatement (d : Nat) (hU : UnC d) (n : Nd) (D : Nat) (w : World) (hL : LiesD D w n) (hG : GoodD d n) (hk : n.kind ∈ ([7, 8, 9, 10, 11, 12, 14, 15] : List Int)) : Calls Tryz.prog 117 #[n.val] w (UnPost d n w) := by
  obtain ⟨k, t, m, u, ao, cap, kids⟩ := n
  have hk : k ∈ ([7, 8, 9, 10, 11, 12, 14, 15] : List Int) := hk
  have HL := Lib.hid hL
  have HG := Lib.hid hG
  show Calls _ _ #[.agg #[.int .i64 k, .string t, .string m, .int .u64 u, .slice ao kids.length cap]] w _
  clear hL hG
  have ha := asStatement k hk
  clear hk
  go_enter Tryz.func117, Tryz.ntmps117
  go_wp2_with fail
  refine (hU (.mk k t m u ao cap kids) D _ (HL.out.below ((Below.refl _ _).alloc (Nat.le_refl _) _)) HG.out).mono ?_
  rintro e w1 ⟨b, rfl, hR, hb⟩
  simp only [Nd.kind]
  have HR := Lib.hid (hR.mono (From.le (show w.heap.size ≤ _ by simp)))
  have HB := Lib.hid (((Below.refl w.heap.size w).alloc (Nat.le_refl _) _).trans (hb.mono (by simp)))
  clear hR hb
  go_wp2_with fail
  go_ret
  exact ⟨b, rfl, HR.out, HB.out⟩

theorem asAssignment_10 (p : Option Addr) (w : World) : Sem.run Tryz.prog (Instr.typeAssert (.iface (pTy 10) (.pointer p)) 44 143 true) w = .ok (.tuple #[.iface (pTy 10) (.pointer p), .bool true]) w := by kernel_rfl
theorem asAssignment_11 (p : Option Addr) (w : World) : Sem.run Tryz.prog (Instr.typeAssert (.iface (pTy 11) (.pointer p)) 44 143 true) w = .ok (.tuple #[.iface (pTy 11) (.pointer p), .bool true]) w := by kernel_rfl
theorem asAssignment (k : Int) (hk : k ∈ ([10, 11] : List Int)) (p : Option Addr) (w : World) : Sem.run Tryz.prog (Instr.typeAssert (.iface (pTy k) (.pointer p)) 44 143 true) w = .ok (.tuple #[.iface (pTy k) (.pointer p), .bool true]) w := by
  simp only [List.mem_cons, List.not_mem_nil, or_false] at hk
  rcases hk with rfl | rfl
  · exact asAssignment_10 p w
  · exact asAssignment_11 p w

set_option maxRecDepth 100000 in
theorem nodeOfAssignment (d : Nat) (hU : UnC d) (n : Nd) (D : Nat) (w : World) (hL : LiesD D w n) (hG : GoodD d n) (hk : n.kind ∈ ([10, 11] : List Int)) : Calls Tryz.prog 68 #[n.val] w (UnPost d n w) := by
  obtain ⟨k, t, m, u, ao, cap, kids⟩ := n
  have hk : k ∈ ([10, 11] : List Int) := hk
  have HL := Lib.hid hL
  have HG := Lib.hid hG
  show Calls _ _ #[.agg #[.int .i64 k, .string t, .string m, .int .u64 u, .slice ao kids.length cap]] w _
  clear hL hG
  have ha := asAssignment k hk
  clear hk
  go_enter Tryz.func68, Tryz.ntmps68
  go_wp2_with fail
  refine (hU (.mk k t m u ao cap kids) D _ (HL.out.below ((Below.refl _ _).alloc (Nat.le_refl _) _)) HG.out).mono ?_
  rintro e w1 ⟨b, rfl, hR, hb⟩
  simp only [Nd.kind]
  have HR := Lib.hid (hR.mono (From.le (show w.heap.size ≤ _ by simp)))
  have HB := Lib.hid (((Below.refl w.heap.size w).alloc (Nat.le_refl _) _).trans (hb.mono (by simp)))
  clear hR hb
  go_wp2_with fail
  go_ret
  exact ⟨b, rfl, HR.out, HB.out⟩

theorem asPropertyKey_33 (p : Option Addr) (w : World) : Sem.run Tryz.prog (Instr.typeAssert (.iface (pTy 33) (.pointer p)) 44 171 true) w = .ok (.tuple #[.iface (pTy 33) (.pointer p), .bool true]) w := by kernel_rfl
theorem asPropertyKey_34 (p : Option Addr) (w : World) : Sem.run Tryz.prog (Instr.typeAssert (.iface (pTy 34) (.pointer p)) 44 171 true) w = .ok (.tuple #[.iface (pTy 34) (.pointer p), .bool true]) w := by kernel_rfl
theorem asPropertyKey (k : Int) (hk : k ∈ ([33, 34] : List Int)) (p : Option Addr) (w : World) : Sem.run Tryz.prog (Instr.typeAssert (.iface (pTy k) (.pointer p)) 44 171 true) w = .ok (.tuple #[.iface (pTy k) (.pointer p), .bool true]) w := by
  simp only [List.mem_cons, List.not_mem_nil, or_false] at hk
  rcases hk with rfl | rfl
  · exact asPropertyKey_33 p w
  · exact asPropertyKey_34 p w

set_option maxRecDepth 100000 in
theorem nodeOfPropertyKey (d : Nat) (hU : UnC d) (n : Nd) (D : Nat) (w : World) (hL : LiesD D w n) (hG : GoodD d n) (hk : n.kind ∈ ([33, 34] : List Int)) : Calls Tryz.prog 76 #[n.val] w (UnPost d n w) := by
  obtain ⟨k, t, m, u, ao, cap, kids⟩ := n
  have hk : k ∈ ([33, 34] : List Int) := hk
  have HL := Lib.hid hL
  have HG := Lib.hid hG
  show Calls _ _ #[.agg #[.int .i64 k, .string t, .string m, .int .u64 u, .slice ao kids.length cap]] w _
  clear hL hG
  have ha := asPropertyKey k hk
  clear hk
  go_enter Tryz.func76, Tryz.ntmps76
  go_wp2_with fail
  refine (hU (.mk k t m u ao cap kids) D _ (HL.out.below ((Below.refl _ _).alloc (Nat.le_refl _) _)) HG.out).mono ?_
  rintro e w1 ⟨b, rfl, hR, hb⟩
  simp only [Nd.kind]
  have HR := Lib.hid (hR.mono (From.le (show w.heap.size ≤ _ by simp)))
  have HB := Lib.hid (((Below.refl w.heap.size w).alloc (Nat.le_refl _) _).trans (hb.mono (by simp)))
  clear hR hb
  go_wp2_with fail
  go_ret
  exact ⟨b, rfl, HR.out, HB.out⟩

theorem asStringExpressionPart_31 (p : Option Addr) (w : World) : Sem.run Tryz.prog (Instr.typeAssert (.iface (pTy 31) (.pointer p)) 44 225 true) w = .ok (.tuple #[.iface (pTy 31) (.pointer p), .bool true]) w := by kernel_rfl
theorem asStringExpressionPart_32 (p : Option Addr) (w : World) : Sem.run Tryz.prog (Instr.typeAssert (.iface (pTy 32) (.pointer p)) 44 225 true) w = .ok (.tuple #[.iface (pTy 32) (.pointer p), .bool true]) w := by kernel_rfl
theorem asStringExpressionPart (k : Int) (hk : k ∈ ([31, 32] : List Int)) (p : Option Addr) (w : World) : Sem.run Tryz.prog (Instr.typeAssert (.iface (pTy k) (.pointer p)) 44 225 true) w = .ok (.tuple #[.iface (pTy k) (.pointer p), .bool true]) w := by
  simp only [List.mem_cons, List.not_mem_nil, or_false] at hk
  rcases hk with rfl | rfl
  · exact asStringExpressionPart_31 p w
  · exact asStringExpressionPart_32 p w

set_option maxRecDepth 100000 in
theorem nodeOfStringExpressionPart (d : Nat) (hU : UnC d) (n : Nd) (D : Nat) (w : World) (hL : LiesD D w n) (hG : GoodD d n) (hk : n.kind ∈ ([31, 32] : List Int)) : Calls Tryz.prog 121 #[n.val] w (UnPost d n w) := by
  obtain ⟨k, t, m, u, ao, cap, kids⟩ := n
  have hk : k ∈ ([31, 32] : List Int) := hk
  have HL := Lib.hid hL
  have HG := Lib.hid hG
  show Calls _ _ #[.agg #[.int .i64 k, .string t, .string m, .int .u64 u, .slice ao kids.length cap]] w _
  clear hL hG
  have ha := asStringExpressionPart k hk
  clear hk
  go_enter Tryz.func121, Tryz.ntmps121
  go_wp2_with fail
  refine (hU (.mk k t m u ao cap kids) D _ (HL.out.below ((Below.refl _ _).alloc (Nat.le_refl _) _)) HG.out).mono ?_
  rintro e w1 ⟨b, rfl, hR, hb⟩
  simp only [Nd.kind]
  have HR := Lib.hid (hR.mono (From.le (show w.heap.size ≤ _ by simp)))
  have HB := Lib.hid (((Below.refl w.heap.size w).alloc (Nat.le_refl _) _).trans (hb.mono (by simp)))
  clear hR hb
  go_wp2_with fail
  go_ret
  exact ⟨b, rfl, HR.out, HB.out⟩

set_option maxRecDepth 100000 in
theorem maybeIdentifier_none (n : Nd) (w : World) (hk : n.kind = 0) : Calls Tryz.prog 64 #[n.val] w fun e w' => e = .returned (.pointer Option.none) ∧ Below w.heap.size w w' := by
  obtain ⟨k, t, m, u, ao, cap, kids⟩ := n
  obtain rfl : k = 0 := hk
  show Calls _ _ #[.agg #[.int .i64 0, .string t, .string m, .int .u64 u, .slice ao kids.length cap]] w _
  go_enter Tryz.func64, Tryz.ntmps64
  go_wp2_with fail
  go_ret
  exact ⟨rfl, (Below.refl _ _).alloc (Nat.le_refl _) _⟩

set_option maxRecDepth 100000 in
theorem maybeIdentifier_some (d : Nat) (hU : UnC d) (n : Nd) (D : Nat) (w : World) (hL : LiesD D w n) (hG : GoodD d n) (hk : n.kind = 33) : Calls Tryz.prog 64 #[n.val] w (PtrPost d n w) := by
  obtain ⟨k, t, m, u, ao, cap, kids⟩ := n
  have HL := Lib.hid hL
  have HG := Lib.hid hG
  have HM := Lib.hid hk
  show Calls _ _ #[.agg #[.int .i64 k, .string t, .string m, .int .u64 u, .slice ao kids.length cap]] w _
  have hk2 : (k == 0) = false := by
    have hne : k ≠ 0 := by
      have : k = 33 := hk; omega
    simpa using hne
  clear hL hG hk
  go_enter Tryz.func64, Tryz.ntmps64
  go_wp2_with fail
  refine (nodeOf_33 d hU (.mk k t m u ao cap kids) D _ (HL.out.below ((Below.refl _ _).alloc (Nat.le_refl _) _)) HG.out HM.out).mono ?_
  rintro e w1 ⟨b, rfl, hR, hb⟩
  have HR := Lib.hid (hR.mono (From.le (show w.heap.size ≤ _ by simp)))
  have HB := Lib.hid (((Below.refl w.heap.size w).alloc (Nat.le_refl _) _).trans (hb.mono (by simp)))
  clear hR hb
  go_wp2_with fail
  go_ret
  exact ⟨b, rfl, HR.out, HB.out⟩

set_option maxRecDepth 100000 in
theorem maybeString_none (n : Nd) (w : World) (hk : n.kind = 0) : Calls Tryz.prog 71 #[n.val] w fun e w' => e = .returned (.pointer Option.none) ∧ Below w.heap.size w w' := by
  obtain ⟨k, t, m, u, ao, cap, kids⟩ := n
  obtain rfl : k = 0 := hk
  show Calls _ _ #[.agg #[.int .i64 0, .string t, .string m, .int .u64 u, .slice ao kids.length cap]] w _
  go_enter Tryz.func71, Tryz.ntmps71
  go_wp2_with fail
  go_ret
  exact ⟨rfl, (Below.refl _ _).alloc (Nat.le_refl _) _⟩

set_option maxRecDepth 100000 in
theorem maybeString_some (d : Nat) (hU : UnC d) (n : Nd) (D : Nat) (w : World) (hL : LiesD D w n) (hG : GoodD d n) (hk : n.kind = 34) : Calls Tryz.prog 71 #[n.val] w (PtrPost d n w) := by
  obtain ⟨k, t, m, u, ao, cap, kids⟩ := n
  have HL := Lib.hid hL
  have HG := Lib.hid hG
  have HM := Lib.hid hk
  show Calls _ _ #[.agg #[.int .i64 k, .string t, .string m, .int .u64 u, .slice ao kids.length cap]] w _
  have hk2 : (k == 0) = false := by
    have hne : k ≠ 0 := by
      have : k = 34 := hk; omega
    simpa using hne
  clear hL hG hk
  go_enter Tryz.func71, Tryz.ntmps71
  go_wp2_with fail
  refine (nodeOf_34 d hU (.mk k t m u ao cap kids) D _ (HL.out.below ((Below.refl _ _).alloc (Nat.le_refl _) _)) HG.out HM.out).mono ?_
  rintro e w1 ⟨b, rfl, hR, hb⟩
  have HR := Lib.hid (hR.mono (From.le (show w.heap.size ≤ _ by simp)))
  have HB := Lib.hid (((Below.refl w.heap.size w).alloc (Nat.le_refl _) _).trans (hb.mono (by simp)))
  clear hR hb
  go_wp2_with fail
  go_ret
  exact ⟨b, rfl, HR.out, HB.out⟩

set_option maxRecDepth 100000 in
theorem maybeExpression_none (n : Nd) (w : World) (hk : n.kind = 0) : Calls Tryz.prog 66 #[n.val] w fun e w' => e = .returned (.nilIface) ∧ Below w.heap.size w w' := by
  obtain ⟨k, t, m, u, ao, cap, kids⟩ := n
  obtain rfl : k = 0 := hk
  show Calls _ _ #[.agg #[.int .i64 0, .string t, .string m, .int .u64 u, .slice ao kids.length cap]] w _
  go_enter Tryz.func66, Tryz.ntmps66
  go_wp2_with fail
  go_ret
  exact ⟨rfl, (Below.refl _ _).alloc (Nat.le_refl _) _⟩

set_option maxRecDepth 100000 in
theorem maybeExpression_some (d : Nat) (hU : UnC d) (n : Nd) (D : Nat) (w : World) (hL : LiesD D w n) (hG : GoodD d n) (hk : n.kind ∈ ([16, 17, 18, 19, 20, 21, 22, 23, 24, 25, 26, 27, 28, 30, 33, 34, 35, 36, 37, 38, 39, 41, 42, 43] : List Int)) : Calls Tryz.prog 66 #[n.val] w (UnPost d n w) := by
  obtain ⟨k, t, m, u, ao, cap, kids⟩ := n
  have HL := Lib.hid hL
  have HG := Lib.hid hG
  have HM := Lib.hid hk
  show Calls _ _ #[.agg #[.int .i64 k, .string t, .string m, .int .u64 u, .slice ao kids.length cap]] w _
  have hk2 : (k == 0) = false := by
    have hne : k ≠ 0 := by
      intro e; subst e; revert hk; show (0 : Int) ∈ _ → False; decide
    simpa using hne
  clear hL hG hk
  go_enter Tryz.func66, Tryz.ntmps66
  go_wp2_with fail
  refine (nodeOfExpression d hU (.mk k t m u ao cap kids) D _ (HL.out.below ((Below.refl _ _).alloc (Nat.le_refl _) _)) HG.out HM.out).mono ?_
  rintro e w1 ⟨b, rfl, hR, hb⟩
  have HR := Lib.hid (hR.mono (From.le (show w.heap.size ≤ _ by simp)))
  have HB := Lib.hid (((Below.refl w.heap.size w).alloc (Nat.le_refl _) _).trans (hb.mono (by simp)))
  clear hR hb
  go_wp2_with fail
  go_ret
  exact ⟨b, rfl, HR.out, HB.out⟩

end Go.Proofs.YtongafghllkomaaGreatDoor
