/-
  A region that draws its order, and whose last operations wait for all ahead of them: what those last ones store may be what the first ones load. No conditions.
-/
import Derived.OrdersHeld
import Derived.RegionTactic
import Derived.Lib.Hide
import Derived.Deep.RegionHeld
namespace Go.Proofs.YtongafghllkomaaGreatDoor
open Go Go.RowKit
set_option linter.unusedVariables false

section
variable {P : Program} {ops : Array Oper} {Q : Exit → Act → World → Prop} {md : Region.Mode} {S : World → Prop} {n : Nat}

/-- Whatever order is picked: behind every operation ahead of number n the world meets S. -/
def HeadH (P : Program) (md : Region.Mode) (ops : Array Oper) (Q : Exit → Act → World → Prop) (S : World → Prop) (n : Nat) : Nat → Array Bool → Act → World → Prop
  | 0, listed, a, w => Region.ready md ops listed = [] ∧ Q .normal a w
  | fuel + 1, listed, a, w =>
    (Region.ready md ops listed = [] → Q .normal a w) ∧
    ∀ i ∈ Region.ready md ops listed, wpOp P ops Q i (fun a' w' => (i < n → S w') ∧ HeadH P md ops Q S n fuel (listed.setIfInBounds i true) a' w') a w

theorem HeadH.any : ∀ (fuel : Nat) (listed : Array Bool) (a : Act) (w : World), HeadH P md ops Q S n fuel listed a w → wpAny P md ops Q fuel listed a w := by
  intro fuel
  induction fuel with
  | zero => intro listed a w h; exact h
  | succ fuel ih => intro listed a w h; exact ⟨h.1, fun i hi => wpOp_mono (fun a' w' h2 => ih _ _ _ h2.2) (h.2 i hi)⟩

/-- Every operation from n on waits for number i. -/
def tailWaits (md : Region.Mode) (ops : Array Oper) (n i : Nat) : Bool :=
  (List.range ops.size).all fun j => decide (j < n) || (match ops[j]? with | some o => o.after.any (fun e => Region.binds md e && e.on == i) | none => false)

theorem tailWaits_spec {i j : Nat} (h : tailWaits md ops n i = true) {listed : Array Bool} (hi : i ∈ Region.ready md ops listed) (hj : j ∈ Region.ready md ops listed) : j < n := by
  obtain ⟨_, o, ho, hall⟩ := mem_ready.1 hj
  have hlt : j < ops.size := (Array.getElem?_eq_some_iff.1 ho).1
  have h1 := (List.all_eq_true.1 h) j (List.mem_range.2 hlt)
  rw [ho] at h1
  simp only [Bool.or_eq_true, decide_eq_true_eq] at h1
  rcases h1 with h1 | h1
  · exact h1
  · obtain ⟨e, he, h2⟩ := Array.any_eq_true'.1 h1
    simp only [Bool.and_eq_true, beq_iff_eq] at h2
    have h3 := hall e he h2.1
    have h4 := (mem_ready.1 hi).1
    rw [h2.2] at h3
    rcases Nat.lt_or_ge i listed.size with h' | h'
    · simp [h'] at h3 h4; rw [h3] at h4; cases h4
    · simp [Array.getElem?_eq_none h'] at h3

theorem HeadH.take {i : Nat} {oi : Oper} {v : Value} (hi : ops[i]? = some oi) (hs : Region.noSelect ops = true) (hf : tailWaits md ops n i = true)
    (hQ : ∀ c a w, Q (.panic c) (a.put oi.dst v) w → Q (.panic c) a w) :
    ∀ (fuel : Nat) (listed : Array Bool) (a : Act) (w : World),
      (∀ j oj, ops[j]? = some oj → j ≠ i → listed.getD j true = false → (∀ e ∈ oj.after, Region.binds md e = true → e.on ≠ i) → oi.apart ops oj = true) →
      i ∈ Region.ready md ops listed → YieldsIf P ops S oi v a → S w →
      HeadH P md ops Q S n fuel (listed.setIfInBounds i true) (a.put oi.dst v) w → HeadH P md ops Q S n (fuel + 1) listed a w := by
  have hsel := Region.noSelect_spec hs
  intro fuel
  induction fuel with
  | zero =>
    intro listed a w _ hr hy hS H
    refine ⟨fun h => (by rw [h] at hr; cases hr), fun j hj => ?_⟩
    by_cases hji : j = i
    · subst hji; exact hy.wpOp hi hS ⟨fun _ => hS, H⟩
    · have h0 := ready_mono hj hji
      rw [H.1] at h0
      cases h0
  | succ fuel ih =>
    intro listed a w hfree hr hy hS H
    refine ⟨fun h => (by rw [h] at hr; cases hr), fun j hj => ?_⟩
    by_cases hji : j = i
    · subst hji; exact hy.wpOp hi hS ⟨fun _ => hS, H⟩
    · have hjn := tailWaits_spec hf hr hj
      have h1 := H.2 j (ready_mono hj hji)
      obtain ⟨hjun, oj, hoj, hall⟩ := mem_ready.1 hj
      have hnot : ∀ e ∈ oj.after, Region.binds md e = true → e.on ≠ i := by
        intro e he hb heq
        have h3 := hall e he hb
        have h4 := (mem_ready.1 hr).1
        rw [heq] at h3
        rcases Nat.lt_or_ge i listed.size with h' | h'
        · simp [h'] at h3 h4; rw [h3] at h4; cases h4
        · simp [Array.getElem?_eq_none h'] at h3
      have h2 := wpOp_putIf hoj (hfree j oj hoj hji hjun hnot) (fun cs b => hsel i oi cs b hi) (fun cs b => hsel j oj cs b hoj) hQ hy h1
      refine wpOp_mono (fun a' w' h3 => ⟨h3.2.1, ih (listed.setIfInBounds j true) a' w' ?_ (ready_mono hr (Ne.symm hji)) h3.1 (h3.2.1 hjn) ?_⟩) h2
      · intro k ok hk hki hun hno
        refine hfree k ok hk hki ?_ hno
        by_cases hjk : j = k
        · subst hjk; exact hjun
        · rw [getD_set_ne true hjk] at hun; exact hun
      · rw [Array.setIfInBounds_comm _ _ hji]
        exact h3.2.2

/-- Number i, that may come up, is taken first. -/
theorem headTake {i : Nat} {oi : Oper} {v : Value} {fuel : Nat} {listed : Array Bool} {a : Act} {w : World} (hi : ops[i]? = some oi)
    (hs : Region.noSelect ops = true) (hw : tailWaits md ops n i = true) (hf : Region.free md ops listed i = true) (hr : (Region.ready md ops listed).contains i = true)
    (hQ : ∀ c a w, Q (.panic c) (a.put oi.dst v) w → Q (.panic c) a w) (hy : YieldsIf P ops S oi v a) (hS : S w)
    (h : HeadH P md ops Q S n fuel (listed.setIfInBounds i true) (a.put oi.dst v) w) : HeadH P md ops Q S n (fuel + 1) listed a w :=
  HeadH.take hi hs hw hQ fuel listed a w (Region.free_spec hi hf) (by simpa using hr) hy hS h

/-- Number i is the only one that may come up: it is carried out. -/
theorem headStep {i : Nat} {o : Oper} {fuel : Nat} {listed : Array Bool} {a : Act} {w : World} (ho : ops[i]? = some o) (hr : Region.ready md ops listed = [i])
    (h : ∀ K' : Act → World → Prop, Hid (∀ a w, ((i < n → S w) ∧ ((i < n → S w) → HeadH P md ops Q S n fuel (listed.setIfInBounds i true) a w)) → K' a w) → if Region.wanted o (yielded ops a.tmps) = true then Oper.wp P o a w K' Q else K' (a.put o.dst undef) w) :
    HeadH P md ops Q S n (fuel + 1) listed a w := by
  refine ⟨fun h0 => (by rw [hr] at h0; cases h0), fun j hj => ?_⟩
  rw [hr] at hj
  obtain rfl : j = i := by simpa using hj
  exact wpOp_step ho (fun K' hK => h K' (Lib.hid (fun a w h2 => hK a w ⟨h2.1, h2.2 h2.1⟩)))

theorem headDone {listed : Array Bool} {a : Act} {w : World} (hr : Region.ready md ops listed = []) (h : Q .normal a w) :
    ∀ fuel, HeadH P md ops Q S n fuel listed a w
  | 0 => ⟨hr, h⟩
  | _ + 1 => ⟨fun _ => h, by rw [hr]; simp⟩

theorem headBegin {id : Nat} {a : Act} {w : World} (n : Nat) (hm : P.follows .mixedOrders = true) (hS : S w.drew)
    (h : S w.drew → HeadH P .any ops Q S n ops.size (Array.replicate ops.size false) a w.drew) : (Code.region id ops true).wp P Q a w :=
  wp_region_any hm (HeadH.any _ _ _ _ (h hS))
end
end Go.Proofs.YtongafghllkomaaGreatDoor
