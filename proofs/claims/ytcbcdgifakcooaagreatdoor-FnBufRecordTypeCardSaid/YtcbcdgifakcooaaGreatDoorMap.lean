/-
  Nodes of trees as plain data, with the places of their kids; how they lie in a world. No conditions.
  What stands in which node: the classes, the shapes, and the trees that fit, in plain terms. No conditions.
  A region that draws its order, and whose last operations wait for all ahead of them: what those last ones store may be what the first ones load. No conditions.
  Small functions of the trees' specification at this seat's numbers: in, the classes' tests, few. No conditions.
  Maps that a call makes out of literals: integers as keys, values of any kind; and maps of lists of integers. No conditions.
-/
import Derived.WalkKit
import Derived.Lib.Hide
import Derived.OrdersHeld
import Derived.RegionTactic
import Derived.Deep.RegionHeld
import Derived.Test.YtcbcdgifakcooaaGreatDoorProg
import Derived.Lib.Builder
import Derived.Deep.LoopGhost
import Derived.BigQuiet
import Derived.Lib.QuietBelow
import Derived.Maps.OwnOps
import Derived.Maps.Views
namespace Go.Proofs.YtcbcdgifakcooaaGreatDoor
open Go.RowKit
set_option linter.unusedVariables false

/-- A node: its kind, texts, number, and its kids with the slice that holds them. -/
inductive Nd where
  | mk (kind : Int) (text more : ByteArray) (num : Int) (ao : Option Addr) (cap : Nat) (kids : List Nd)

namespace Nd
def kind : Nd → Int | mk k _ _ _ _ _ _ => k
def text : Nd → ByteArray | mk _ t _ _ _ _ _ => t
def more : Nd → ByteArray | mk _ _ m _ _ _ _ => m
def num : Nd → Int | mk _ _ _ u _ _ _ => u
def ao : Nd → Option Addr | mk _ _ _ _ a _ _ => a
def cap : Nd → Nat | mk _ _ _ _ _ c _ => c
def kids : Nd → List Nd | mk _ _ _ _ _ _ l => l
/-- The value of a node. -/
def val (n : Nd) : Value := .agg #[.int .i64 n.kind, .string n.text, .string n.more, .int .u64 n.num, .slice n.ao n.kids.length n.cap]
/-- Its sizes and its number are what memory can hold. -/
def wf (n : Nd) : Prop := n.text.size ≤ maxLen ∧ n.more.size ≤ maxLen ∧ n.kids.length ≤ maxLen ∧ 0 ≤ n.num ∧ n.num < 18446744073709551616 ∧ -9223372036854775808 ≤ n.kind ∧ n.kind ≤ 9223372036854775807
end Nd

/-- Five cells hold a node. -/
def NdCells (w : World) (b o : Nat) (n : Nd) : Prop :=
  w.cell? ⟨b, o, none⟩ = some (.int .i64 n.kind) ∧ w.cell? ⟨b, o + 1, none⟩ = some (.string n.text) ∧ w.cell? ⟨b, o + 2, none⟩ = some (.string n.more) ∧ w.cell? ⟨b, o + 3, none⟩ = some (.int .u64 n.num) ∧ w.cell? ⟨b, o + 4, none⟩ = some (.slice n.ao n.kids.length n.cap)

/-- A node's kids lie in a world, and theirs, so many levels down. -/
def LiesD : Nat → World → Nd → Prop
  | 0, _, _ => False
  | d + 1, w, n => n.wf ∧ ∀ (i : Nat) (x : Nd), n.kids[i]? = some x → (∃ b o, n.ao = some ⟨b, o, none⟩ ∧ NdCells w b (o + i * 5) x) ∧ LiesD d w x

theorem NdCells.lt {w : World} {b o : Nat} {n : Nd} (h : NdCells w b o n) : b < w.heap.size := World.block_lt_of_cell? _ _ h.1

theorem NdCells.below {w w' : World} {B b o : Nat} {n : Nd} (h : NdCells w b o n) (hb : Below B w w') (hB : b < B) : NdCells w' b o n := by
  obtain ⟨h0, h1, h2, h3, h4⟩ := h
  refine ⟨?_, ?_, ?_, ?_, ?_⟩
  · exact (hb.cell (p := ⟨b, o, none⟩) hB).trans h0
  · exact (hb.cell (p := ⟨b, o + 1, none⟩) hB).trans h1
  · exact (hb.cell (p := ⟨b, o + 2, none⟩) hB).trans h2
  · exact (hb.cell (p := ⟨b, o + 3, none⟩) hB).trans h3
  · exact (hb.cell (p := ⟨b, o + 4, none⟩) hB).trans h4

theorem LiesD.below {d : Nat} : ∀ {w w' : World} {n : Nd}, LiesD d w n → Below w.heap.size w w' → LiesD d w' n := by
  induction d with
  | zero => intro w w' n h; exact h.elim
  | succ d ih =>
    intro w w' n h hb
    refine ⟨h.1, fun i x hx => ?_⟩
    obtain ⟨⟨b, o, ha, hc⟩, hl⟩ := h.2 i x hx
    exact ⟨⟨b, o, ha, hc.below hb hc.lt⟩, ih hl hb⟩

theorem LiesD.mono {d : Nat} : ∀ {d' : Nat} {w : World} {n : Nd}, LiesD d w n → d ≤ d' → LiesD d' w n := by
  induction d with
  | zero => intro d' w n h; exact h.elim
  | succ d ih =>
    intro d' w n h hd
    obtain ⟨d', rfl⟩ : ∃ e, d' = e + 1 := ⟨d' - 1, by omega⟩
    exact ⟨h.1, fun i x hx => ⟨(h.2 i x hx).1, ih (h.2 i x hx).2 (by omega)⟩⟩

/-- How many nodes there are. -/
def Nd.countD : Nat → Nd → Nat
  | 0, _ => 0
  | d + 1, n => 1 + (n.kids.map (Nd.countD d)).sum

/-- Two nodes are the same but for the places of their kids. -/
def SameD : Nat → Nd → Nd → Prop
  | 0, _, _ => False
  | d + 1, a, b => a.kind = b.kind ∧ a.text = b.text ∧ a.more = b.more ∧ a.num = b.num ∧ a.kids.length = b.kids.length ∧ ∀ (i : Nat) (x y : Nd), a.kids[i]? = some x → b.kids[i]? = some y → SameD d x y

theorem SameD.refl_of {d : Nat} : ∀ {w : World} {n : Nd}, LiesD d w n → SameD d n n := by
  induction d with
  | zero => intro w n h; exact h.elim
  | succ d ih =>
    intro w n h
    refine ⟨rfl, rfl, rfl, rfl, rfl, fun i x y hx hy => ?_⟩
    obtain rfl : x = y := by rw [hx] at hy; exact Option.some.inj hy
    exact ih (h.2 i x hx).2

theorem SameD.symm {d : Nat} : ∀ {a b : Nd}, SameD d a b → SameD d b a := by
  induction d with
  | zero => intro a b h; exact h.elim
  | succ d ih =>
    intro a b h
    obtain ⟨h1, h2, h3, h4, h5, h6⟩ := h
    exact ⟨h1.symm, h2.symm, h3.symm, h4.symm, h5.symm, fun i x y hx hy => ih (h6 i y x hy hx)⟩
end Go.Proofs.YtcbcdgifakcooaaGreatDoor

namespace Go.Proofs.YtcbcdgifakcooaaGreatDoor
open Go.RowKit
set_option linter.unusedVariables false

def isExprB (k : Int) : Bool := decide (16 ≤ k) && decide (k ≤ 43) && !(k == 29) && !(k == 31) && !(k == 32) && !(k == 40)
def isStmtB (k : Int) : Bool := decide (7 ≤ k) && decide (k ≤ 15)
def isTypeB (k : Int) : Bool := (k == 45) || (k == 46) || (k == 47) || (k == 48) || (k == 49) || (k == 51)

/-- What a table has at a number. -/
def lookT (t : List (Int × List Int)) (c : Int) : List Int := t.foldl (fun acc p => if p.1 = c then p.2 else acc) []
def lookI (t : List (Int × Int)) (c : Int) : Int := t.foldl (fun acc p => if p.1 = c then p.2 else acc) 0

/-- The kinds of a class that has few. -/
def classTab : List (Int × List Int) := [(3, [33]), (4, [33, 0]), (5, [34, 0]), (6, [33, 34]), (9, [16]), (10, [28]), (11, [10]), (12, [10, 11]), (13, [17]), (14, [6]), (15, [34]), (19, [4, 0]), (20, [3]), (21, [29]), (22, [31, 32]), (23, [40]), (24, [44]), (25, [50]), (26, [52]), (27, [53])]
def classL (c : Int) : List Int := lookT classTab c

/-- A node is of a class. -/
def ofClassB (n : Nd) (c : Int) : Bool :=
  if c = 0 then isExprB n.kind else if c = 1 then isStmtB n.kind else if c = 2 then isTypeB n.kind
  else if c = 7 then (n.kind == 6) || isExprB n.kind else if c = 8 then (n.kind == 0) || isExprB n.kind
  else if c = 16 then (n.kind == 1) && n.kids.all (fun x => [(29 : Int)].contains x.kind)
  else if c = 17 then (n.kind == 1) && n.kids.all (fun x => x.kind == 5)
  else if c = 18 then (n.kind == 1) && n.kids.all (fun x => isStmtB x.kind)
  else (classL c).contains n.kind

/-- The classes of what stands in nodes of a kind, and of what may follow. -/
def fixedTab : List (Int × List Int) := [(3, [19, 17, 18]), (4, [3]), (5, [4, 15]), (8, [0]), (9, [0]), (10, [3, 0]), (11, [13, 0]), (12, [12]), (13, [3, 24]), (14, [11]), (15, [3, 5, 14]), (16, [0]), (17, [0, 6]), (18, [0, 0]), (19, [0, 9]), (20, [16, 7]), (21, [0, 0]), (22, [0]), (23, [0, 0]), (24, [0, 0, 0]), (25, [0]), (28, [4]), (29, [6, 8]), (32, [0]), (44, [2]), (45, [3]), (46, [3]), (47, [2]), (48, [2, 2]), (49, [4]), (50, [3, 2]), (51, [2]), (52, [4, 2]), (53, [3])]
def restTab : List (Int × Int) := [(2, 21), (6, 2), (16, 1), (26, 1), (27, 1), (28, 22), (30, 23), (39, 24), (44, 28), (49, 26), (51, 27), (53, 4)]
def fixedL (k : Int) : List Int := lookT fixedTab k
def restL (k : Int) : Int := if lookI restTab k = 0 then 28 else lookI restTab k - 1

def empties : ByteArray := ⟨#[]⟩

def hasText (k : Int) : Bool := [(2 : Int), 3, 7, 21, 22, 23, 31, 33, 34, 40, 42].contains k
def hasNum (k : Int) : Bool := [(35 : Int), 36, 37, 38, 40, 41, 52].contains k

/-- The operators by their numbers less one. -/
def opsL : List ByteArray := [⟨#[42]⟩, ⟨#[47]⟩, ⟨#[37]⟩, ⟨#[94]⟩, ⟨#[43]⟩, ⟨#[45]⟩, ⟨#[60, 61]⟩, ⟨#[60]⟩, ⟨#[62, 61]⟩, ⟨#[62]⟩, ⟨#[115, 116, 97, 114, 116, 115, 119, 105, 116, 104]⟩, ⟨#[105, 110]⟩, ⟨#[110, 111, 116]⟩, ⟨#[101, 120, 105, 115, 116, 115]⟩, ⟨#[110, 111, 116, 32, 101, 109, 112, 116, 121]⟩, ⟨#[101, 109, 112, 116, 121]⟩, ⟨#[61, 61]⟩, ⟨#[33, 61]⟩, ⟨#[61, 126]⟩, ⟨#[33, 126]⟩]
def op (m : Nat) : ByteArray := opsL.getD m ⟨#[]⟩
def unaryL : List ByteArray := [⟨#[45]⟩, ⟨#[43]⟩, ⟨#[110, 111, 116]⟩, ⟨#[101, 120, 105, 115, 116, 115]⟩]
def unitsL : List ByteArray := [⟨#[121]⟩, ⟨#[109, 111]⟩, ⟨#[119]⟩, ⟨#[100]⟩, ⟨#[104]⟩, ⟨#[109]⟩, ⟨#[115]⟩, ⟨#[109, 115]⟩, ⟨#[117, 115]⟩, ⟨#[110, 115]⟩]

/-- A node's texts and number are those that its kind has. -/
def PlainP (n : Nd) : Prop :=
  (hasText n.kind = false → n.text = empties) ∧ (hasNum n.kind = false → n.num = 0) ∧ (n.kind ≠ 2 → n.kind ≠ 3 → n.more = empties) ∧ n.text.size ≤ 300 ∧ n.more.size ≤ 300 ∧
  (n.kind = 21 → ∃ m, m < 20 ∧ m ≠ 12 ∧ m ≠ 13 ∧ n.text = op m) ∧ (n.kind = 22 → n.text ∈ unaryL) ∧ (n.kind = 23 → n.text = ⟨#[97, 110, 100]⟩ ∨ n.text = ⟨#[111, 114]⟩) ∧
  (n.kind = 35 → n.num ≤ 1) ∧ (n.kind = 52 → n.num ≤ 2) ∧ (n.kind = 40 → n.text ∈ unitsL)

/-- A tree that fits, so many levels deep. -/
def FitP : Nat → Nd → Prop
  | 0, _ => False
  | d + 1, n => (n.kind = 0 ∧ n.text = empties ∧ n.more = empties ∧ n.num = 0 ∧ n.kids = []) ∨
      (0 < n.kind ∧ n.kind < 54 ∧ PlainP n ∧ (n.kind ≠ 1 → (fixedL n.kind).length ≤ n.kids.length ∧ (n.kids.length ≤ (fixedL n.kind).length ∨ restL n.kind ≠ 28)) ∧
        (∀ (i : Nat) (x : Nd), n.kids[i]? = some x → (n.kind ≠ 1 → ofClassB x ((fixedL n.kind).getD i (restL n.kind)) = true) ∧ FitP d x) ∧ (n.kind = 27 → n.kids.length % 2 = 0))
end Go.Proofs.YtcbcdgifakcooaaGreatDoor

namespace Go.Proofs.YtcbcdgifakcooaaGreatDoor
open Go Go.RowKit
set_option linter.unusedVariables false

section
variable {P : Program} {ops : Array Oper} {Q : Exit → Act → World → Prop} {md : Region.Mode} {S : World → Prop} {n : Nat}

/-- Whatever order is picked: behind every operation ahead of number n the world meets S. -/
def HeadH (P : Program) (md : Region.Mode) (ops : Array Oper) (Q : Exit → Act → World → Prop) (S : World → Prop) (n : Nat) : Nat → Array Bool → Act → World → Prop
  | 0, listed, a, w => Region.ready md ops listed = [] ∧ Q .normal a w
  | fuel + 1, listed, a, w =>
    (Region.ready md ops listed = [] → Q .normal a w) ∧
    ∀ i ∈ Region.ready md ops listed, wpOp P ops Q i (fun a' w' => (i < n → S w') ∧ HeadH P md ops Q S n fuel (listed.setIfInBounds i true) a' w') a w

theorem HeadH.any : ∀ (fuel : Nat) (listed : Array Bool) (a : Act) (w : World), HeadH P md ops Q S n fuel listed a w → wpAny P md ops Q fuel listed a w := by
  intro fuel
  induction fuel with
  | zero => intro listed a w h; exact h
  | succ fuel ih => intro listed a w h; exact ⟨h.1, fun i hi => wpOp_mono (fun a' w' h2 => ih _ _ _ h2.2) (h.2 i hi)⟩

/-- Every operation from n on waits for number i. -/
def tailWaits (md : Region.Mode) (ops : Array Oper) (n i : Nat) : Bool :=
  (List.range ops.size).all fun j => decide (j < n) || (match ops[j]? with | some o => o.after.any (fun e => Region.binds md e && e.on == i) | none => false)

theorem tailWaits_spec {i j : Nat} (h : tailWaits md ops n i = true) {listed : Array Bool} (hi : i ∈ Region.ready md ops listed) (hj : j ∈ Region.ready md ops listed) : j < n := by
  obtain ⟨_, o, ho, hall⟩ := mem_ready.1 hj
  have hlt : j < ops.size := (Array.getElem?_eq_some_iff.1 ho).1
  have h1 := (List.all_eq_true.1 h) j (List.mem_range.2 hlt)
  rw [ho] at h1
  simp only [Bool.or_eq_true, decide_eq_true_eq] at h1
  rcases h1 with h1 | h1
  · exact h1
  · obtain ⟨e, he, h2⟩ := Array.any_eq_true'.1 h1
    simp only [Bool.and_eq_true, beq_iff_eq] at h2
    have h3 := hall e he h2.1
    have h4 := (mem_ready.1 hi).1
    rw [h2.2] at h3
    rcases Nat.lt_or_ge i listed.size with h' | h'
    · simp [h'] at h3 h4; rw [h3] at h4; cases h4
    · simp [Array.getElem?_eq_none h'] at h3

theorem HeadH.take {i : Nat} {oi : Oper} {v : Value} (hi : ops[i]? = some oi) (hs : Region.noSelect ops = true) (hf : tailWaits md ops n i = true)
    (hQ : ∀ c a w, Q (.panic c) (a.put oi.dst v) w → Q (.panic c) a w) :
    ∀ (fuel : Nat) (listed : Array Bool) (a : Act) (w : World),
      (∀ j oj, ops[j]? = some oj → j ≠ i → listed.getD j true = false → (∀ e ∈ oj.after, Region.binds md e = true → e.on ≠ i) → oi.apart ops oj = true) →
      i ∈ Region.ready md ops listed → YieldsIf P ops S oi v a → S w →
      HeadH P md ops Q S n fuel (listed.setIfInBounds i true) (a.put oi.dst v) w → HeadH P md ops Q S n (fuel + 1) listed a w := by
  have hsel := Region.noSelect_spec hs
  intro fuel
  induction fuel with
  | zero =>
    intro listed a w _ hr hy hS H
    refine ⟨fun h => (by rw [h] at hr; cases hr), fun j hj => ?_⟩
    by_cases hji : j = i
    · subst hji; exact hy.wpOp hi hS ⟨fun _ => hS, H⟩
    · have h0 := ready_mono hj hji
      rw [H.1] at h0
      cases h0
  | succ fuel ih =>
    intro listed a w hfree hr hy hS H
    refine ⟨fun h => (by rw [h] at hr; cases hr), fun j hj => ?_⟩
    by_cases hji : j = i
    · subst hji; exact hy.wpOp hi hS ⟨fun _ => hS, H⟩
    · have hjn := tailWaits_spec hf hr hj
      have h1 := H.2 j (ready_mono hj hji)
      obtain ⟨hjun, oj, hoj, hall⟩ := mem_ready.1 hj
      have hnot : ∀ e ∈ oj.after, Region.binds md e = true → e.on ≠ i := by
        intro e he hb heq
        have h3 := hall e he hb
        have h4 := (mem_ready.1 hr).1
        rw [heq] at h3
        rcases Nat.lt_or_ge i listed.size with h' | h'
        · simp [h'] at h3 h4; rw [h3] at h4; cases h4
        · simp [Array.getElem?_eq_none h'] at h3
      have h2 := wpOp_putIf hoj (hfree j oj hoj hji hjun hnot) (fun cs b => hsel i oi cs b hi) (fun cs b => hsel j oj cs b hoj) hQ hy h1
      refine wpOp_mono (fun a' w' h3 => ⟨h3.2.1, ih (listed.setIfInBounds j true) a' w' ?_ (ready_mono hr (Ne.symm hji)) h3.1 (h3.2.1 hjn) ?_⟩) h2
      · intro k ok hk hki hun hno
        refine hfree k ok hk hki ?_ hno
        by_cases hjk : j = k
        · subst hjk; exact hjun
        · rw [getD_set_ne true hjk] at hun; exact hun
      · rw [Array.setIfInBounds_comm _ _ hji]
        exact h3.2.2

/-- Number i, that may come up, is taken first. -/
theorem headTake {i : Nat} {oi : Oper} {v : Value} {fuel : Nat} {listed : Array Bool} {a : Act} {w : World} (hi : ops[i]? = some oi)
    (hs : Region.noSelect ops = true) (hw : tailWaits md ops n i = true) (hf : Region.free md ops listed i = true) (hr : (Region.ready md ops listed).contains i = true)
    (hQ : ∀ c a w, Q (.panic c) (a.put oi.dst v) w → Q (.panic c) a w) (hy : YieldsIf P ops S oi v a) (hS : S w)
    (h : HeadH P md ops Q S n fuel (listed.setIfInBounds i true) (a.put oi.dst v) w) : HeadH P md ops Q S n (fuel + 1) listed a w :=
  HeadH.take hi hs hw hQ fuel listed a w (Region.free_spec hi hf) (by simpa using hr) hy hS h

/-- Number i is the only one that may come up: it is carried out. -/
theorem headStep {i : Nat} {o : Oper} {fuel : Nat} {listed : Array Bool} {a : Act} {w : World} (ho : ops[i]? = some o) (hr : Region.ready md ops listed = [i])
    (h : ∀ K' : Act → World → Prop, Hid (∀ a w, ((i < n → S w) ∧ ((i < n → S w) → HeadH P md ops Q S n fuel (listed.setIfInBounds i true) a w)) → K' a w) → if Region.wanted o (yielded ops a.tmps) = true then Oper.wp P o a w K' Q else K' (a.put o.dst undef) w) :
    HeadH P md ops Q S n (fuel + 1) listed a w := by
  refine ⟨fun h0 => (by rw [hr] at h0; cases h0), fun j hj => ?_⟩
  rw [hr] at hj
  obtain rfl : j = i := by simpa using hj
  exact wpOp_step ho (fun K' hK => h K' (Lib.hid (fun a w h2 => hK a w ⟨h2.1, h2.2 h2.1⟩)))

theorem headDone {listed : Array Bool} {a : Act} {w : World} (hr : Region.ready md ops listed = []) (h : Q .normal a w) :
    ∀ fuel, HeadH P md ops Q S n fuel listed a w
  | 0 => ⟨hr, h⟩
  | _ + 1 => ⟨fun _ => h, by rw [hr]; simp⟩

theorem headBegin {id : Nat} {a : Act} {w : World} (n : Nat) (hm : P.follows .mixedOrders = true) (hS : S w.drew)
    (h : S w.drew → HeadH P .any ops Q S n ops.size (Array.replicate ops.size false) a w.drew) : (Code.region id ops true).wp P Q a w :=
  wp_region_any hm (HeadH.any _ _ _ _ (h hS))
end
end Go.Proofs.YtcbcdgifakcooaaGreatDoor

namespace Go.Proofs.YtcbcdgifakcooaaGreatDoor
open Go.RowKit
set_option linter.unusedVariables false

/-- A slice of integers that a world holds. -/
def IntsIn (ao : Option Addr) (zs : List Int) (w : World) : Prop := ∀ k z, zs[k]? = some z → ∃ a, ao = some a ∧ w.cell? (a.add k) = some (.int .i64 z)

theorem IntsIn.below {ao : Option Addr} {zs : List Int} {w w' : World} (h : IntsIn ao zs w) (hb : Below w.heap.size w w') : IntsIn ao zs w' := by
  intro k z hk
  obtain ⟨a, ha, hc⟩ := h k z hk
  exact ⟨a, ha, (hb.cell (World.block_lt_of_cell? _ _ hc)).trans hc⟩

/-- A number is one of some. -/
def inB (n : Int) (zs : List Int) : Bool := zs.contains n

theorem ret_bool {a b : Bool} (h : a = b) : Ending.returned (.bool a) = .returned (.bool b) := by rw [h]
theorem ret_int {k : IntKind} {a b : Int} (h : a = b) : Ending.returned (.int k a) = .returned (.int k b) := by rw [h]

theorem bcell {W w1 : World} (hb : Below W.heap.size W w1) : (∀ b o, b < W.heap.size → w1.cell? ⟨b, o, none⟩ = W.cell? ⟨b, o, none⟩) ∧ (∀ b o, b < W.heap.size → w1.frozen? ⟨b, o, none⟩ = W.frozen? ⟨b, o, none⟩) :=
  ⟨fun b o h => hb.cell (p := ⟨b, o, none⟩) h, fun b o h => hb.frozen (p := ⟨b, o, none⟩) h⟩

theorem bblk {W w1 : World} (hb : Below W.heap.size W w1) {b : Nat} (h : b < W.heap.size) : (∀ o, w1.cell? ⟨b, o, none⟩ = W.cell? ⟨b, o, none⟩) ∧ (∀ o, w1.frozen? ⟨b, o, none⟩ = W.frozen? ⟨b, o, none⟩) :=
  ⟨fun o => hb.cell (p := ⟨b, o, none⟩) h, fun o => hb.frozen (p := ⟨b, o, none⟩) h⟩

theorem add0 (b j : Nat) : (⟨b, 0, none⟩ : Addr).add j = ⟨b, j, none⟩ := by unfold Addr.add; split <;> simp_all

/-- A list of literal numbers that has just been laid. -/
theorem intsIn_new (w : World) (zs : List Int) (T : TypeId) (m : Nat × Nat) : IntsIn (some ⟨w.heap.size, 0, none⟩) zs (w.alloc (.cells (zs.map (Value.int .i64)).toArray T m)) := by
  intro k z hk
  refine ⟨_, rfl, ?_⟩
  rw [add0, Lib.cell_of_heap (heap_alloc_new w _)]
  simp [hk]

theorem in_any (n : Int) (ao : Option Addr) (zs : List Int) (m cap : Nat) (w : World) (hm : zs.length = m) (hM : m ≤ 2147483647) (HL : IntsIn ao zs w) :
    Calls Tryz.prog 135 #[.int .i64 n, .slice ao m cap] w fun e w' => e = .returned (.bool (inB n zs)) ∧ w = w' := by
  have HL := Lib.hid HL
  have HN := Lib.hid hm
  clear hm
  go_enter Tryz.func135, Tryz.ntmps135
  go_wp2_with fail
  go_loopg [9] m (fun gk i wr => wr = w ∧ ∃ k : Nat, k ≤ m ∧ gk = m - k ∧ i = .int .i64 (k : Int) ∧ Hid (∀ j, j < k → zs[j]? ≠ some n))
  case atStart => exact ⟨rfl, 0, by omega, by omega, rfl, Lib.hid (fun j h => by omega)⟩
  case round =>
    obtain ⟨rfl, k, hk, rfl, rfl, hall⟩ := hrel
    by_cases hkm : k < m
    · have hkz : (k : Int) < (m : Int) := by omega
      have hlen := HN.out
      obtain ⟨y, hy⟩ : ∃ y, zs[k]? = some y := ⟨zs[k]'(by omega), List.getElem?_eq_getElem _⟩
      obtain ⟨a, rfl, hc⟩ := HL.out k y hy
      have HY := Lib.hid hy
      clear hy hlen
      by_cases h1 : y = n
      · subst h1
        go_wp2_with fail
        go_ret
        refine ⟨?_, rfl⟩
        exact ret_bool (by unfold inB; simp; exact List.mem_of_getElem? HY.out)
      · have h2 : (y == n) = false := by simpa using h1
        have H1 := Lib.hid h1
        clear h1
        go_wp2_with fail
        go_roundg (m - (k + 1))
        case measure => omega
        case rel =>
          refine ⟨rfl, k + 1, by omega, rfl, by push_cast; rfl, Lib.hid ?_⟩
          intro j hj
          by_cases hjk : j < k
          · exact hall.out j hjk
          · obtain rfl : j = k := by omega
            rw [HY.out]; intro e; exact H1.out (Option.some.inj e)
    · have hkz : ¬ (k : Int) < (m : Int) := by omega
      obtain rfl : k = m := by omega
      go_wp2_with fail
      go_ret
      refine ⟨?_, rfl⟩
      refine ret_bool (Eq.symm ?_)
      unfold inB
      simp only [List.contains_eq_mem, decide_eq_false_iff_not]
      intro hmem
      obtain ⟨j, hj, e⟩ := List.mem_iff_getElem.1 hmem
      exact hall.out j (by rw [HN.out] at hj; exact hj) (by rw [List.getElem?_eq_getElem hj, e])

theorem isExpr_any (k : Int) (w : World) :
    Calls Tryz.prog 142 #[.int .i64 k] w fun e w' => e = .returned (.bool (isExprB k)) ∧ Below w.heap.size w w' := by
  by_cases h : 16 ≤ k ∧ k ≤ 43
  · obtain ⟨h1, h2⟩ := h
    go_enter Tryz.func142, Tryz.ntmps142
    go_wp2_with fail
    refine (in_any _ _ [29, 31, 32, 40] 4 _ _ rfl (by omega) (intsIn_new w _ _ _)).mono ?_
    rintro e w1 ⟨rfl, rfl⟩
    go_wp2_with fail
    go_ret
    exact ⟨ret_bool (by unfold isExprB inB; rw [Bool.eq_iff_iff]; simp; omega), (Below.refl _ _).alloc (Nat.le_refl _) _⟩
  · have hF : isExprB k = false := by
      cases hb : isExprB k with
      | false => rfl
      | true => unfold isExprB at hb; simp at hb; omega
    have HF := Lib.hid hF
    clear hF
    by_cases h1 : 16 ≤ k
    · have h2 : ¬ k ≤ 43 := by omega
      clear h
      go_enter Tryz.func142, Tryz.ntmps142
      go_wp2_with fail
      go_ret
      exact ⟨ret_bool HF.out.symm, Below.refl _ _⟩
    · clear h
      go_enter Tryz.func142, Tryz.ntmps142
      go_wp2_with fail
      go_ret
      exact ⟨ret_bool HF.out.symm, Below.refl _ _⟩

theorem isStmt_any (k : Int) (w : World) :
    Calls Tryz.prog 143 #[.int .i64 k] w fun e w' => e = .returned (.bool (isStmtB k)) ∧ w = w' := by
  by_cases h1 : 7 ≤ k
  · go_enter Tryz.func143, Tryz.ntmps143
    go_wp2_with fail
    go_ret
    exact ⟨ret_bool (by unfold isStmtB; simp [h1]), rfl⟩
  · have HF := Lib.hid (show isStmtB k = false by unfold isStmtB; simp; omega)
    go_enter Tryz.func143, Tryz.ntmps143
    go_wp2_with fail
    go_ret
    exact ⟨ret_bool HF.out.symm, rfl⟩

theorem isType_any (k : Int) (w : World) :
    Calls Tryz.prog 110 #[.int .i64 k] w fun e w' => e = .returned (.bool (isTypeB k)) ∧ Below w.heap.size w w' := by
  go_enter Tryz.func110, Tryz.ntmps110
  go_wp2_with fail
  refine (in_any _ _ [45, 46, 47, 48, 49, 51] 6 _ _ rfl (by omega) (intsIn_new w _ _ _)).mono ?_
  rintro e w1 ⟨rfl, rfl⟩
  go_wp2_with fail
  go_ret
  exact ⟨ret_bool (by unfold isTypeB inB; rw [Bool.eq_iff_iff]; simp; omega), (Below.refl _ _).alloc (Nat.le_refl _) _⟩

/-- A kid's five cells in a later world. -/
theorem kid_cells {d : Nat} {w wr : World} {k : Int} {t m : ByteArray} {u : Int} {ao : Option Addr} {cap : Nat} {kids : List Nd} {j : Nat} {x : Nd} (hL : LiesD (d + 1) w (.mk k t m u ao cap kids)) (hx : kids[j]? = some x) (hB : Below w.heap.size w wr) :
    ∃ b o, ao = some ⟨b, o, none⟩ ∧ wr.cell? ⟨b, o + j * 5, none⟩ = some (.int .i64 x.kind) ∧ wr.cell? ⟨b, o + j * 5 + 1, none⟩ = some (.string x.text) ∧ wr.cell? ⟨b, o + j * 5 + 2, none⟩ = some (.string x.more) ∧ wr.cell? ⟨b, o + j * 5 + 3, none⟩ = some (.int .u64 x.num) ∧ wr.cell? ⟨b, o + j * 5 + 4, none⟩ = some (.slice x.ao x.kids.length x.cap) ∧ LiesD d wr x := by
  obtain ⟨⟨b, o, ha, hc⟩, hl⟩ := hL.2 j x hx
  have h := hc.below hB hc.lt
  exact ⟨b, o, ha, h.1, h.2.1, h.2.2.1, h.2.2.2.1, h.2.2.2.2, hl.below hB⟩

theorem LiesD.len_le {d : Nat} {w : World} {k : Int} {t m : ByteArray} {u : Int} {ao : Option Addr} {cap : Nat} {kids : List Nd} (hL : LiesD d w (.mk k t m u ao cap kids)) : kids.length ≤ 9223372036854775807 := by
  cases d with
  | zero => exact hL.elim
  | succ d =>
    have := hL.1.2.2.1
    unfold maxLen at this
    exact this

theorem kidsAre_any (d : Nat) (n : Nd) (kind : Int) (w : World) (hL : LiesD (d + 1) w n) :
    Calls Tryz.prog 145 #[n.val, .int .i64 kind] w fun e w' => e = .returned (.bool (n.kids.all (fun x => x.kind == kind))) ∧ Below w.heap.size w w' := by
  obtain ⟨k, t, m, u, ao, cap, kids⟩ := n
  have hM := hL.len_le
  obtain ⟨len, hlen⟩ : ∃ len, kids.length = len := ⟨_, rfl⟩
  show Calls _ _ #[.agg #[.int .i64 k, .string t, .string m, .int .u64 u, .slice ao kids.length cap], _] w (fun e w' => e = .returned (.bool (kids.all (fun x => x.kind == kind))) ∧ Below w.heap.size w w')
  rw [hlen]
  rw [hlen] at hM
  have HN := Lib.hid hlen
  have HL := Lib.hid hL
  clear hlen hL
  go_enter Tryz.func145, Tryz.ntmps145
  go_wp2_with fail
  go_loopg [10] len (fun gk i wr => ∃ j : Nat, j ≤ len ∧ gk = len - j ∧ i = .int .i64 (j : Int) ∧ Hid (∀ i x, i < j → kids[i]? = some x → x.kind = kind) ∧ Hid (Below w.heap.size w wr))
  case atStart => exact ⟨0, by omega, by omega, rfl, Lib.hid (fun i x h => by omega), Lib.hid ((Below.refl _ _).alloc (Nat.le_refl _) _)⟩
  case round =>
    obtain ⟨j, hj, rfl, rfl, hall, hB⟩ := hrel
    by_cases hjn : j < len
    · have hjz : (j : Int) < (len : Int) := by omega
      obtain ⟨x, hx⟩ : ∃ x, kids[j]? = some x := ⟨kids[j]'(by have := HN.out; omega), List.getElem?_eq_getElem _⟩
      obtain ⟨b, o, hao, c0, c1, c2, c3, c4, -⟩ := kid_cells HL.out hx hB.out
      obtain rfl : ao = some ⟨b, o, none⟩ := hao
      have HX := Lib.hid hx
      clear hx
      by_cases hk : x.kind = kind
      · have hk2 : (x.kind != kind) = false := by simpa using hk
        have HK := Lib.hid hk
        clear hk
        go_wp2_with fail
        go_roundg (len - (j + 1))
        case measure => omega
        case rel =>
          refine ⟨j + 1, by omega, rfl, by push_cast; rfl, Lib.hid ?_, Lib.hid (hB.out.alloc hB.out.size _)⟩
          intro i y hi hy
          by_cases hij : i < j
          · exact hall.out i y hij hy
          · obtain rfl : i = j := by omega
            rw [HX.out] at hy
            cases hy
            exact HK.out
      · have hk2 : (x.kind != kind) = true := by simpa using hk
        have HK := Lib.hid hk
        clear hk
        go_wp2_with fail
        go_ret
        refine ⟨ret_bool (Eq.symm ?_), hB.out.alloc hB.out.size _⟩
        rw [List.all_eq_false]
        exact ⟨x, List.mem_of_getElem? HX.out, by simpa using HK.out⟩
    · have hjz : ¬ (j : Int) < (len : Int) := by omega
      obtain rfl : j = len := by omega
      go_wp2_with fail
      go_ret
      refine ⟨ret_bool (Eq.symm ?_), hB.out⟩
      rw [List.all_eq_true]
      intro x hx
      obtain ⟨i, hi, e⟩ := List.mem_iff_getElem.1 hx
      simpa using hall.out i x (by have := HN.out; omega) (by rw [List.getElem?_eq_getElem hi, e])

end Go.Proofs.YtcbcdgifakcooaaGreatDoor

namespace Go.Proofs.YtcbcdgifakcooaaGreatDoor
open Go.RowKit
open Go.Maps (Keyed)
set_option linter.unusedVariables false

theorem und3 : Tryz.prog.underlying 3 = some (.int .i64) := by kernel_rfl
theorem law3 : Keyed Tryz.prog 3 := Maps.int_keyed und3

/-- A value stands for itself. -/
def heldR (v : Value) : Option (DataW Value × List MemPlace) := some (.held v, [])
def datL (l : List (Int × Value)) : DataW Value := l.foldl (fun D p => D.put (.int .i64 p.1) (.held p.2)) (.map [])
def lookV (l : List (Int × Value)) (z : Value) (c : Int) : Value := l.foldl (fun acc p => if p.1 = c then p.2 else acc) z

theorem datL_map (l : List (Int × Value)) : Maps.IsMap (datL l) := by
  unfold datL
  have : ∀ (l : List (Int × Value)) (D : DataW Value), Maps.IsMap D → Maps.IsMap (l.foldl (fun D p => D.put (.int .i64 p.1) (.held p.2)) D) := by
    intro l
    induction l with
    | nil => intro D h; exact h
    | cons p l ih =>
      intro D h
      refine ih _ ?_
      obtain ⟨es, rfl⟩ := h
      exact ⟨_, rfl⟩
  exact this l _ ⟨_, rfl⟩

theorem datL_snoc (l : List (Int × Value)) (k : Int) (v : Value) : datL (l ++ [(k, v)]) = (datL l).put (.int .i64 k) (.held v) := by simp [datL, List.foldl_append]
theorem lookV_snoc (l : List (Int × Value)) (z : Value) (c k : Int) (v : Value) : lookV (l ++ [(k, v)]) z c = if k = c then v else lookV l z c := by simp [lookV, List.foldl_append]

theorem atKey_datL (z : Value) (c : Int) : ∀ (n : Nat) (l : List (Int × Value)), l.length = n → (datL l).atKey (.int .i64 c) (.held z) = .held (lookV l z c) := by
  intro n
  induction n with
  | zero => intro l hl; obtain rfl : l = [] := List.eq_nil_of_length_eq_zero hl; rfl
  | succ n ih =>
    intro l hl
    have hne : l ≠ [] := by intro e; subst e; simp at hl
    have e : l = l.dropLast ++ [l.getLast hne] := (List.dropLast_concat_getLast hne).symm
    obtain ⟨l', p, rfl⟩ : ∃ l' p, l = l' ++ [p] := ⟨_, _, e⟩
    obtain ⟨k, v⟩ := p
    have hl' : l'.length = n := by simp at hl; omega
    rw [datL_snoc, lookV_snoc]
    by_cases hk : k = c
    · subst hk
      rw [if_pos rfl, Maps.atKey_put_same (datL_map l') (by exact trivial)]
    · rw [if_neg hk, Maps.atKey_put_other (by intro e; cases e; exact hk rfl)]
      exact ih l' hl'

/-- A block is a map whose entries are these. -/
def LitMap (w : World) (b : Nat) (l : List (Int × Value)) : Prop := w.ownsMap Tryz.prog 3 heldR b l.length (datL l)

theorem LitMap.made (w : World) : LitMap (w.alloc (.map #[] 0)) w.heap.size [] := World.ownsMap_made w _ _ _

theorem LitMap.insert {w : World} {b : Nat} {l : List (Int × Value)} {t e : TypeId} (h : LitMap w b l) (ht : Tryz.prog.underlying t = some (.map 3 e)) (hl : l.length < 1000) (k : Int) (v : Value) (hk : (Lit.int .i64 k).wf = true) :
    ∃ w', (Instr.mapUpdate t (.map (some b)) (.int .i64 k) v).run Tryz.prog w = .ok () w' ∧ LitMap w' b (l ++ [(k, v)]) ∧ w.grownBy w' (some b) := by
  obtain ⟨w', h1, h2, h3⟩ := World.ownsMap.update h law3 ht (by unfold maxLen; omega) (Maps.keyOf_int_mk und3 hk) (d := .held v) (ps := []) rfl
  refine ⟨w', h1, ?_, h3⟩
  unfold LitMap
  rw [datL_snoc]
  simpa using h2

theorem LitMap.lookup {w : World} {b : Nat} {l : List (Int × Value)} {t e : TypeId} (h : LitMap w b l) (ht : Tryz.prog.underlying t = some (.map 3 e)) (z : Value) (hz : (zeroValue e).run Tryz.prog w = .ok z w) (c : Int) (hc : (Lit.int .i64 c).wf = true) :
    (Instr.lookup t (.map (some b)) (.int .i64 c) false).run Tryz.prog w = .ok (lookV l z c) w := by
  obtain ⟨v, ps, h1, h2⟩ := World.ownsMap.lookup h law3 ht hz (zd := .held z) (zp := []) rfl (Maps.keyOf_int_mk und3 hc)
  rw [atKey_datL z c l.length l rfl] at h2
  simp only [heldR, Option.some.injEq, Prod.mk.injEq, DataW.held.injEq] at h2
  rw [h1, h2.1]

/-- A map of values, and nothing else has turned since w0. -/
def VMap (w0 w : World) (b : Nat) (l : List (Int × Value)) : Prop := Below w0.heap.size w0 w ∧ w0.heap.size ≤ b ∧ LitMap w b l

theorem VMap.made (w : World) : VMap w (w.alloc (.map #[] 0)) w.heap.size [] := ⟨(Below.refl _ _).alloc (Nat.le_refl _) _, Nat.le_refl _, LitMap.made w⟩

theorem VMap.insert {w0 w : World} {b : Nat} {l : List (Int × Value)} {t e : TypeId} (h : VMap w0 w b l) (ht : Tryz.prog.underlying t = some (.map 3 e)) (hl : l.length < 1000) (k : Int) (v : Value) (hk : (Lit.int .i64 k).wf = true) :
    ∃ w', (Instr.mapUpdate t (.map (some b)) (.int .i64 k) v).run Tryz.prog w = .ok () w' ∧ VMap w0 w' b (l ++ [(k, v)]) ∧ w.grownBy w' (some b) := by
  obtain ⟨h1, h2, h3⟩ := h
  obtain ⟨w', hr, hm, hg⟩ := h3.insert ht hl k v hk
  exact ⟨w', hr, ⟨h1.grown hg h1.size (fun j hj => by cases hj; exact h2), h2, hm⟩, hg⟩

/-- At the operation that lays an entry of a map's literal. -/
theorem wpList_insert_v {w0 w : World} {ops : Array Oper} {rest : List Oper} {o : Oper} {a : Act} {Q : Exit → Act → World → Prop}
    (hg : o.guard = none) (m x v : Operand) (t : TypeId) (hop : o.op = Op.insert t m x v) (e : TypeId) (ht : Tryz.prog.underlying t = some (.map 3 e)) (b : Nat) (l : List (Int × Value)) (h : VMap w0 w b l) (hl : l.length < 1000)
    (hm : a.eval m = .map (some b)) (k : Int) (val : Value) (hx : a.eval x = .int .i64 k) (hv : a.eval v = val) (hk : (Lit.int .i64 k).wf = true)
    (hK : ∀ w', VMap w0 w' b (l ++ [(k, val)]) → wpList Tryz.prog ops Q rest (a.put o.dst undef) w') : wpList Tryz.prog ops Q (o :: rest) a w := by
  refine wpList_plain hg fun K' hK' => ?_
  obtain ⟨w', hrun, h1, -⟩ := h.insert ht hl k val hk
  unfold Oper.wp
  simp [execOp, hop, hm, hx, hv, hrun, Result.andThen]
  exact hK' _ _ (hK w' h1)

/-- A value is a slice of these integers. -/
def IntsAt (w : World) (v : Value) (zs : List Int) : Prop := ∃ ao cap, v = .slice ao zs.length cap ∧ IntsIn ao zs w

/-- A map of lists of integers, and nothing else has turned since w0. -/
def SlMap (w0 w : World) (b : Nat) (t : List (Int × List Int)) : Prop :=
  ∃ vs : List Value, vs.length = t.length ∧ VMap w0 w b ((t.map (·.1)).zip vs) ∧ ∀ (i : Nat) (v : Value) (p : Int × List Int), vs[i]? = some v → t[i]? = some p → IntsAt w v p.2

theorem SlMap.made (w : World) : SlMap w (w.alloc (.map #[] 0)) w.heap.size [] := ⟨[], rfl, VMap.made w, by simp⟩

theorem IntsAt.grown {w w' : World} {b : Nat} {v : Value} {zs : List Int} {es : Array MapEntry} {clock : Nat} (h : IntsAt w v zs) (hb : w.heap[b]? = some (.map es clock)) (hg : w.grownBy w' (some b)) : IntsAt w' v zs := by
  obtain ⟨ao, cap, rfl, hi⟩ := h
  refine ⟨ao, cap, rfl, fun k z hk => ?_⟩
  obtain ⟨a, ha, hc⟩ := hi k z hk
  refine ⟨a, ha, ?_⟩
  have hlt := World.block_lt_of_cell? _ _ hc
  have hne : (a.add k).block ≠ b := by
    intro e
    unfold World.cell? at hc
    rw [e, hb] at hc
    simp at hc
  unfold World.cell? at hc ⊢
  rw [hg.block _ hlt (by simpa using hne)]
  exact hc

theorem SlMap.insert {w0 w1 : World} {b : Nat} {t : List (Int × List Int)} {ty e : TypeId} (h : SlMap w0 w1 b t) (ht : Tryz.prog.underlying ty = some (.map 3 e)) (hl : t.length < 1000) (zs : List Int) (E : TypeId) (k : Int) (hk : (Lit.int .i64 k).wf = true) :
    ∃ w', (Instr.mapUpdate ty (.map (some b)) (.int .i64 k) (.slice (some ⟨w1.heap.size, 0, none⟩) zs.length zs.length)).run Tryz.prog (w1.alloc (.cells (zs.map (Value.int .i64)).toArray E)) = .ok () w' ∧ SlMap w0 w' b (t ++ [(k, zs)]) := by
  obtain ⟨vs, hvl, hV, hI⟩ := h
  obtain ⟨hB, hb, hM⟩ := hV
  have hV2 : VMap w0 (w1.alloc (.cells (zs.map (Value.int .i64)).toArray E)) b ((t.map (·.1)).zip vs) := ⟨hB.alloc hB.size _, hb, World.ownsMap.alloc hM _⟩
  have hlen : ((t.map (·.1)).zip vs).length = t.length := by simp [hvl]
  obtain ⟨w', hr, hV', hg⟩ := hV2.insert ht (by omega) k (.slice (some ⟨w1.heap.size, 0, none⟩) zs.length zs.length) hk
  obtain ⟨es, clock, hblk, -⟩ := hV2.2.2
  refine ⟨w', hr, vs ++ [.slice (some ⟨w1.heap.size, 0, none⟩) zs.length zs.length], by simp [hvl], ?_, ?_⟩
  · have e1 : ((t ++ [(k, zs)]).map (·.1)).zip (vs ++ [Value.slice (some ⟨w1.heap.size, 0, none⟩) zs.length zs.length]) = (t.map (·.1)).zip vs ++ [(k, .slice (some ⟨w1.heap.size, 0, none⟩) zs.length zs.length)] := by
      rw [List.map_append, List.zip_append (by simp [hvl])]
      rfl
    rw [e1]; exact hV'
  · intro i v p hv hp
    by_cases hi : i < vs.length
    · rw [List.getElem?_append_left hi] at hv
      rw [List.getElem?_append_left (by omega)] at hp
      have h1 := hI i v p hv hp
      obtain ⟨ao, cap, rfl, h2⟩ := h1
      exact IntsAt.grown ⟨ao, cap, rfl, h2.below ((Below.refl _ _).alloc (Nat.le_refl _) _)⟩ hblk hg
    · obtain rfl : i = vs.length := by
        have := (List.getElem?_eq_some_iff.1 hv).1
        simp at this; omega
      rw [List.getElem?_append_right (Nat.le_refl _)] at hv
      rw [hvl, List.getElem?_append_right (Nat.le_refl _)] at hp
      simp at hv hp
      subst hv hp
      exact IntsAt.grown ⟨_, zs.length, rfl, intsIn_new w1 zs E (0, 0)⟩ hblk hg

def unInts (cs : Array Value) : List Int := cs.toList.map intOf

theorem wpList_insert_sl {w0 w1 : World} {ops : Array Oper} {rest : List Oper} {o : Oper} {a : Act} {Q : Exit → Act → World → Prop} {b : Nat} {l : List (Int × List Int)} {cs : Array Value} {E : TypeId} (h : SlMap w0 w1 b l)
    (hg : o.guard = none) (m x v : Operand) (t : TypeId) (hop : o.op = Op.insert t m x v) (e : TypeId) (ht : Tryz.prog.underlying t = some (.map 3 e)) (hl : l.length < 1000)
    (hm : a.eval m = .map (some b)) (k : Int) (hx : a.eval x = .int .i64 k) (hcs : cs = ((unInts cs).map (Value.int .i64)).toArray) (g : Nat) (hv : a.eval v = .slice (some ⟨g, 0, none⟩) (unInts cs).length (unInts cs).length) (hgs : g = w1.heap.size) (hk : (Lit.int .i64 k).wf = true)
    (hK : ∀ w', SlMap w0 w' b (l ++ [(k, unInts cs)]) → wpList Tryz.prog ops Q rest (a.put o.dst undef) w') : wpList Tryz.prog ops Q (o :: rest) a (w1.alloc (.cells cs E)) := by
  subst hgs
  refine wpList_plain hg fun K' hK' => ?_
  obtain ⟨w', hrun, h1⟩ := h.insert ht hl (unInts cs) E k hk
  rw [← hcs] at hrun
  unfold Oper.wp
  simp [execOp, hop, hm, hx, hv, hrun, Result.andThen]
  exact hK' _ _ (hK w' h1)

theorem lookup_zip (w : World) (c : Int) : ∀ (t : List (Int × List Int)) (vs : List Value) (z : Value) (zs : List Int), vs.length = t.length → IntsAt w z zs → (∀ (i : Nat) (v : Value) (p : Int × List Int), vs[i]? = some v → t[i]? = some p → IntsAt w v p.2) →
    IntsAt w (((t.map (·.1)).zip vs).foldl (fun acc p => if p.1 = c then p.2 else acc) z) (t.foldl (fun acc p => if p.1 = c then p.2 else acc) zs) := by
  intro t
  induction t with
  | nil => intro vs z zs hl hz _; simpa using hz
  | cons p t ih =>
    intro vs z zs hl hz hI
    cases vs with
    | nil => simp at hl
    | cons v vs =>
      simp only [List.map_cons, List.zip_cons_cons, List.foldl_cons]
      refine ih vs _ _ (by simpa using hl) ?_ (fun i v' p' h1 h2 => hI (i + 1) v' p' (by simpa using h1) (by simpa using h2))
      by_cases hp : p.1 = c
      · rw [if_pos hp, if_pos hp]; exact hI 0 v p rfl rfl
      · rw [if_neg hp, if_neg hp]; exact hz

theorem SlMap.lookup {w0 w : World} {b : Nat} {t : List (Int × List Int)} {ty e : TypeId} (h : SlMap w0 w b t) (ht : Tryz.prog.underlying ty = some (.map 3 e)) (hz : (zeroValue e).run Tryz.prog w = .ok (.slice none 0 0) w) (c : Int) (hc : (Lit.int .i64 c).wf = true) :
    ∃ v, (Instr.lookup ty (.map (some b)) (.int .i64 c) false).run Tryz.prog w = .ok v w ∧ IntsAt w v (lookT t c) := by
  obtain ⟨vs, hvl, hV, hI⟩ := h
  refine ⟨_, hV.2.2.lookup ht _ hz c hc, ?_⟩
  exact lookup_zip w c t vs (.slice none 0 0) [] hvl ⟨none, 0, rfl, by intro k z hk; simp at hk⟩ hI

/-- At the look-up. -/
theorem wpList_lookup_sl {w0 w : World} {ops : Array Oper} {rest : List Oper} {o : Oper} {a : Act} {Q : Exit → Act → World → Prop} {b : Nat} {l0 : List (Int × List Int)} (l : List (Int × List Int)) (h : SlMap w0 w b l0) (hl : l0 = l)
    (hg : o.guard = none) (m x : Operand) (t : TypeId) (hop : o.op = Op.lookup t m x false) (e : TypeId) (ht : Tryz.prog.underlying t = some (.map 3 e)) (hz : (zeroValue e).run Tryz.prog w = .ok (.slice none 0 0) w)
    (hm : a.eval m = .map (some b)) (c : Int) (hx : a.eval x = .int .i64 c) (hc : (Lit.int .i64 c).wf = true)
    (hK : ∀ ao cap, IntsIn ao (lookT l c) w → wpList Tryz.prog ops Q rest (a.put o.dst (.slice ao (lookT l c).length cap)) w) : wpList Tryz.prog ops Q (o :: rest) a w := by
  refine wpList_plain hg fun K' hK' => ?_
  subst hl
  obtain ⟨v, hrun, ao, cap, rfl, hI⟩ := h.lookup ht hz c hc
  unfold Oper.wp
  simp [execOp, hop, hm, hx, hrun, Result.andThen]
  exact hK' _ _ (hK ao cap hI)

theorem lookV_ints (c : Int) : ∀ (t : List (Int × Int)) (z : Int), lookV (t.map fun p => (p.1, Value.int .i64 p.2)) (.int .i64 z) c = .int .i64 (t.foldl (fun acc p => if p.1 = c then p.2 else acc) z) := by
  intro t
  induction t with
  | nil => intro z; rfl
  | cons p t ih =>
    intro z
    unfold lookV at ih ⊢
    simp only [List.map_cons, List.foldl_cons]
    rw [← ih]
    by_cases hp : p.1 = c
    · rw [if_pos hp, if_pos hp]
    · rw [if_neg hp, if_neg hp]

theorem wpList_lookup_i {w0 w : World} {ops : Array Oper} {rest : List Oper} {o : Oper} {a : Act} {Q : Exit → Act → World → Prop} {b : Nat} {l : List (Int × Value)} (t0 : List (Int × Int)) (h : VMap w0 w b l) (hl : l = t0.map fun p => (p.1, Value.int .i64 p.2))
    (hg : o.guard = none) (m x : Operand) (t : TypeId) (hop : o.op = Op.lookup t m x false) (e : TypeId) (ht : Tryz.prog.underlying t = some (.map 3 e)) (hz : (zeroValue e).run Tryz.prog w = .ok (.int .i64 0) w)
    (hm : a.eval m = .map (some b)) (c : Int) (hx : a.eval x = .int .i64 c) (hc : (Lit.int .i64 c).wf = true)
    (hK : wpList Tryz.prog ops Q rest (a.put o.dst (.int .i64 (lookI t0 c))) w) : wpList Tryz.prog ops Q (o :: rest) a w := by
  subst hl
  refine wpList_plain hg fun K' hK' => ?_
  have hrun := h.2.2.lookup ht (.int .i64 0) hz c hc
  rw [lookV_ints] at hrun
  unfold Oper.wp
  simp [execOp, hop, hm, hx, hrun, Result.andThen]
  exact hK' _ _ hK
end Go.Proofs.YtcbcdgifakcooaaGreatDoor
