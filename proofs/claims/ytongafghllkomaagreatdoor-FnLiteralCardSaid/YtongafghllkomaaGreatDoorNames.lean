/-
  The names of the kinds of nodes: the table of the trees' specification. No conditions but that the number is one of 64 bits.
-/
import Derived.Test.YtongafghllkomaaGreatDoorShape
namespace Go.Proofs.YtongafghllkomaaGreatDoor
open Go.RowKit
set_option linter.unusedVariables false
def nameTab : List (Int × ByteArray) := [(2, ⟨#[80, 97, 99, 107, 97, 103, 101]⟩), (3, ⟨#[70, 105, 108, 101]⟩), (4, ⟨#[80, 97, 99, 107, 97, 103, 101, 67, 108, 97, 117, 115, 101]⟩), (5, ⟨#[73, 109, 112, 111, 114, 116, 68, 101, 99, 108, 97, 114, 97, 116, 105, 111, 110]⟩), (6, ⟨#[66, 108, 111, 99, 107]⟩), (7, ⟨#[66, 97, 100, 83, 116, 97, 116, 101, 109, 101, 110, 116]⟩), (8, ⟨#[69, 120, 112, 114, 101, 115, 115, 105, 111, 110, 83, 116, 97, 116, 101, 109, 101, 110, 116]⟩), (9, ⟨#[82, 101, 116, 117, 114, 110, 83, 116, 97, 116, 101, 109, 101, 110, 116]⟩), (10, ⟨#[86, 97, 114, 105, 97, 98, 108, 101, 65, 115, 115, 105, 103, 110, 109, 101, 110, 116]⟩), (11, ⟨#[77, 101, 109, 98, 101, 114, 65, 115, 115, 105, 103, 110, 109, 101, 110, 116]⟩), (12, ⟨#[79, 112, 116, 105, 111, 110, 83, 116, 97, 116, 101, 109, 101, 110, 116]⟩), (13, ⟨#[66, 117, 105, 108, 116, 105, 110, 83, 116, 97, 116, 101, 109, 101, 110, 116]⟩), (14, ⟨#[84, 101, 115, 116, 83, 116, 97, 116, 101, 109, 101, 110, 116]⟩), (15, ⟨#[84, 101, 115, 116, 67, 97, 115, 101, 83, 116, 97, 116, 101, 109, 101, 110, 116]⟩), (16, ⟨#[67, 97, 108, 108, 69, 120, 112, 114, 101, 115, 115, 105, 111, 110]⟩), (17, ⟨#[77, 101, 109, 98, 101, 114, 69, 120, 112, 114, 101, 115, 115, 105, 111, 110]⟩), (18, ⟨#[73, 110, 100, 101, 120, 69, 120, 112, 114, 101, 115, 115, 105, 111, 110]⟩), (19, ⟨#[80, 105, 112, 101, 69, 120, 112, 114, 101, 115, 115, 105, 111, 110]⟩), (20, ⟨#[70, 117, 110, 99, 116, 105, 111, 110, 69, 120, 112, 114, 101, 115, 115, 105, 111, 110]⟩), (21, ⟨#[66, 105, 110, 97, 114, 121, 69, 120, 112, 114, 101, 115, 115, 105, 111, 110]⟩), (22, ⟨#[85, 110, 97, 114, 121, 69, 120, 112, 114, 101, 115, 115, 105, 111, 110]⟩), (23, ⟨#[76, 111, 103, 105, 99, 97, 108, 69, 120, 112, 114, 101, 115, 115, 105, 111, 110]⟩), (24, ⟨#[67, 111, 110, 100, 105, 116, 105, 111, 110, 97, 108, 69, 120, 112, 114, 101, 115, 115, 105, 111, 110]⟩), (25, ⟨#[80, 97, 114, 101, 110, 69, 120, 112, 114, 101, 115, 115, 105, 111, 110]⟩), (26, ⟨#[65, 114, 114, 97, 121, 69, 120, 112, 114, 101, 115, 115, 105, 111, 110]⟩), (27, ⟨#[68, 105, 99, 116, 69, 120, 112, 114, 101, 115, 115, 105, 111, 110]⟩), (28, ⟨#[79, 98, 106, 101, 99, 116, 69, 120, 112, 114, 101, 115, 115, 105, 111, 110]⟩), (29, ⟨#[80, 114, 111, 112, 101, 114, 116, 121]⟩), (30, ⟨#[83, 116, 114, 105, 110, 103, 69, 120, 112, 114, 101, 115, 115, 105, 111, 110]⟩), (33, ⟨#[73, 100, 101, 110, 116, 105, 102, 105, 101, 114]⟩), (34, ⟨#[83, 116, 114, 105, 110, 103, 76, 105, 116, 101, 114, 97, 108]⟩), (35, ⟨#[66, 111, 111, 108, 101, 97, 110, 76, 105, 116, 101, 114, 97, 108]⟩), (36, ⟨#[73, 110, 116, 101, 103, 101, 114, 76, 105, 116, 101, 114, 97, 108]⟩), (37, ⟨#[85, 110, 115, 105, 103, 110, 101, 100, 73, 110, 116, 101, 103, 101, 114, 76, 105, 116, 101, 114, 97, 108]⟩), (38, ⟨#[70, 108, 111, 97, 116, 76, 105, 116, 101, 114, 97, 108]⟩), (39, ⟨#[68, 117, 114, 97, 116, 105, 111, 110, 76, 105, 116, 101, 114, 97, 108]⟩), (41, ⟨#[68, 97, 116, 101, 84, 105, 109, 101, 76, 105, 116, 101, 114, 97, 108]⟩), (42, ⟨#[82, 101, 103, 101, 120, 112, 76, 105, 116, 101, 114, 97, 108]⟩), (43, ⟨#[80, 105, 112, 101, 76, 105, 116, 101, 114, 97, 108]⟩)]
def nameOf (c : Int) : ByteArray := nameTab.foldl (fun acc p => if p.1 = c then p.2 else acc) ⟨#[]⟩
/-- The kinds that have a name, and are none of types. -/
def namedL : List Int := [2, 3, 4, 5, 6, 7, 8, 9, 10, 11, 12, 14, 15, 16, 17, 18, 19, 20, 21, 22, 23, 24, 25, 26, 27, 28, 29, 30, 33, 34, 35, 36, 37, 38, 39, 41, 42, 43]

theorem undMS : Tryz.prog.underlying 48 = some (.map 3 9) := by kernel_rfl
theorem zeroS (w : World) : (zeroValue 9).run Tryz.prog w = .ok (.string ⟨#[]⟩) w := by kernel_rfl

theorem lookV_strs (c : Int) : ∀ (t : List (Int × ByteArray)) (z : ByteArray), lookV (t.map fun p => (p.1, Value.string p.2)) (.string z) c = .string (t.foldl (fun acc p => if p.1 = c then p.2 else acc) z) := by
  intro t
  induction t with
  | nil => intro z; rfl
  | cons p t ih =>
    intro z
    unfold lookV at ih ⊢
    simp only [List.map_cons, List.foldl_cons]
    rw [← ih]
    by_cases hp : p.1 = c
    · rw [if_pos hp, if_pos hp]
    · rw [if_neg hp, if_neg hp]

theorem wpList_lookup_s {w0 w : World} {ops : Array Oper} {rest : List Oper} {o : Oper} {a : Act} {Q : Exit → Act → World → Prop} {b : Nat} {l : List (Int × Value)} (h : VMap w0 w b l) (hl : l = nameTab.map fun p => (p.1, Value.string p.2))
    (hg : o.guard = none) (m x : Operand) (t : TypeId) (hop : o.op = Op.lookup t m x false) (e : TypeId) (ht : Tryz.prog.underlying t = some (.map 3 e)) (hz : (zeroValue e).run Tryz.prog w = .ok (.string ⟨#[]⟩) w)
    (hm : a.eval m = .map (some b)) (c : Int) (hx : a.eval x = .int .i64 c) (hc : (Lit.int .i64 c).wf = true)
    (hK : wpList Tryz.prog ops Q rest (a.put o.dst (.string (nameOf c))) w) : wpList Tryz.prog ops Q (o :: rest) a w := by
  subst hl
  refine wpList_plain hg fun K' hK' => ?_
  have hrun := h.2.2.lookup ht (.string ⟨#[]⟩) hz c hc
  rw [lookV_strs] at hrun
  unfold Oper.wp
  simp [execOp, hop, hm, hx, hrun, Result.andThen]
  exact hK' _ _ hK

/-- A text is handed back, and what there was is as it was. -/
def RetStr (s : ByteArray) (w : World) (e : Ending) (w' : World) : Prop := e = .returned (.string s) ∧ Below w.heap.size w w'

/-- A map of texts, and nothing else has turned since w0. -/
def SMap (w0 w : World) (b n : Nat) (T : List (Int × ByteArray)) : Prop := T.length = n ∧ VMap w0 w b (T.map fun p => (p.1, Value.string p.2))

theorem SMap.made (w : World) : SMap w (w.alloc (.map #[] 0)) w.heap.size 0 [] := ⟨rfl, VMap.made w⟩

theorem wpList_insert_s {w0 w : World} {ops : Array Oper} {rest : List Oper} {o : Oper} {a : Act} {Q : Exit → Act → World → Prop} {b n : Nat} {T : List (Int × ByteArray)} (h : SMap w0 w b n T)
    (hg : o.guard = none) (m : Operand) (t : TypeId) (k : Int) (s : ByteArray) (hop : o.op = Op.insert t m (.const (.int .i64 k)) (.const (.string s))) (e : TypeId) (ht : Tryz.prog.underlying t = some (.map 3 e)) (hl : n < 1000)
    (hm : a.eval m = .map (some b)) (hk : (Lit.int .i64 k).wf = true)
    (hK : ∀ w', SMap w0 w' b (n + 1) (T ++ [(k, s)]) → wpList Tryz.prog ops Q rest (a.put o.dst undef) w') : wpList Tryz.prog ops Q (o :: rest) a w := by
  refine wpList_plain hg fun K' hK' => ?_
  obtain ⟨w', hrun, h1, -⟩ := h.2.insert ht (by rw [List.length_map, h.1]; exact hl) k (.string s) hk
  unfold Oper.wp
  have e1 : a.eval (.const (.int .i64 k)) = .int .i64 k := rfl
  have e2 : a.eval (.const (.string s)) = .string s := rfl
  simp [execOp, hop, hm, e1, e2, hrun, Result.andThen]
  exact hK' _ _ (hK w' ⟨by simp [h.1], by rw [List.map_append]; exact h1⟩)

theorem wpList_lookup_m {w0 w : World} {ops : Array Oper} {rest : List Oper} {o : Oper} {a : Act} {Q : Exit → Act → World → Prop} {b n : Nat} {T : List (Int × ByteArray)} (h : SMap w0 w b n T) (hT : T = nameTab)
    (hg : o.guard = none) (m x : Operand) (t : TypeId) (hop : o.op = Op.lookup t m x false) (e : TypeId) (ht : Tryz.prog.underlying t = some (.map 3 e)) (hz : (zeroValue e).run Tryz.prog w = .ok (.string ⟨#[]⟩) w)
    (hm : a.eval m = .map (some b)) (c : Int) (hx : a.eval x = .int .i64 c) (hc : (Lit.int .i64 c).wf = true)
    (hK : wpList Tryz.prog ops Q rest (a.put o.dst (.string (nameOf c))) w) : wpList Tryz.prog ops Q (o :: rest) a w :=
  wpList_lookup_s h.2 (by rw [hT]) hg m x t hop e ht hz hm c hx hc hK

set_option maxHeartbeats 4000000 in
set_option maxRecDepth 100000 in
theorem specName_any (c : Int) (w : World) (hc : (Lit.int .i64 c).wf = true) :
    Calls Tryz.prog 13 #[.int .i64 c] w (RetStr (nameOf c) w) := by
  have hmm := @run_makeMap Tryz.prog
  go_enter Tryz.func13, Tryz.ntmps13
  go_wp2_with (first | (rename SMap _ _ _ _ _ => hS; refine wpList_insert_s hS rfl _ _ _ _ rfl 9 undMS (by decide) rfl ?_ ?_; (next => decide); clear hS; intro w1 h1) | (refine wpList_insert_s (SMap.made _) rfl _ _ _ _ rfl 9 undMS (by decide) rfl ?_ ?_; (next => decide); intro w1 h1) | (refine wpList_lookup_m ‹SMap _ _ _ _ _› rfl rfl _ _ 48 rfl 9 undMS (zeroS _) rfl c rfl hc ?_))
  go_ret
  exact ⟨rfl, VMap.bel (And.right ‹SMap _ _ _ _ _›)⟩

theorem fold_none {c : Int} : ∀ (t : List (Int × ByteArray)) (z : ByteArray), (∀ p ∈ t, p.1 ≠ c) → t.foldl (fun acc p => if p.1 = c then p.2 else acc) z = z := by
  intro t
  induction t with
  | nil => intro z _; rfl
  | cons p t ih =>
    intro z h
    simp only [List.foldl_cons]
    rw [if_neg (h p (by simp))]
    exact ih z (fun q hq => h q (by simp [hq]))

theorem nameOf_named (c : Int) : (c ∈ namedL ∨ c = 13) ∨ nameOf c = ⟨#[]⟩ := by
  by_cases h : c ∈ namedL ∨ c = 13
  · exact Or.inl h
  · right
    have h1 : ∀ p ∈ nameTab, p.1 ∈ namedL ∨ p.1 = 13 := by decide
    exact fold_none nameTab ⟨#[]⟩ (fun p hp e => h (e ▸ h1 p hp))
end Go.Proofs.YtongafghllkomaaGreatDoor
