/-
  unnode takes every tree that fits and is of the kinds that walked trees have: it lays the package's node of it. No conditions.
-/
import Derived.Test.YtongafghllkomaaGreatDoorUnA
import Derived.Test.YtongafghllkomaaGreatDoorUnB
import Derived.Test.YtongafghllkomaaGreatDoorUnC
import Derived.Test.YtongafghllkomaaGreatDoorUnD
import Derived.Test.YtongafghllkomaaGreatDoorUnE
import Derived.Test.YtongafghllkomaaGreatDoorUnF
import Derived.Test.YtongafghllkomaaGreatDoorUnG
import Derived.Test.YtongafghllkomaaGreatDoorUnH
import Derived.Test.YtongafghllkomaaGreatDoorUnI
import Derived.Test.YtongafghllkomaaGreatDoorUnK
import Derived.Test.YtongafghllkomaaGreatDoorDur
import Derived.Test.YtongafghllkomaaGreatDoorDict
namespace Go.Proofs.YtongafghllkomaaGreatDoor
open Go.RowKit
set_option linter.unusedVariables false

/-- Where some kid must stand, there are two levels. -/
theorem PreD.deep {e : Nat} {n : Nd} (h : PreD (e + 1) n) (h0 : n.kind ≠ 0) (h1 : n.kind ≠ 1) (hf : 0 < (fixedL n.kind).length) : ∃ f, e = f + 1 := by
  have h2 := (h.fit h0).2.2.2.1 h1
  obtain ⟨x, hx⟩ : ∃ x, n.kids[0]? = some x := ⟨n.kids[0]'(by omega), List.getElem?_eq_getElem _⟩
  exact (h.kid h0 hx).1.pos

theorem un_all : ∀ d, UnC d := by
  intro d
  induction d using Nat.strongRecOn with
  | _ d ih =>
    intro n D w hL hG
    obtain ⟨e, rfl⟩ := hG.pre.pos
    have hU : UnC e := ih e (by omega)
    have hP := hG.pre
    have hk := hG.2.2.2
    unfold walkL at hk
    simp only [List.mem_cons, List.not_mem_nil, or_false] at hk
    rcases hk with h | h | h | h | h | h | h | h | h | h | h | h | h | h | h | h | h | h | h | h | h | h | h | h | h | h | h | h | h | h | h | h | h | h | h | h | h | h | h | h
    · exact un_2 e hU n D w hL hP h
    · obtain ⟨f, rfl⟩ := hP.deep (by omega) (by omega) (by rw [h]; decide)
      by_cases hm : (n.kid 0).kind = 0
      · exact un_3_none f hU (ih f (by omega)) n D w hL hP h hm
      · exact un_3 f hU (ih f (by omega)) n D w hL hP h hm
    · exact un_4 e hU n D w hL hP h
    · by_cases hm : (n.kid 0).kind = 0
      · exact un_5_none e hU n D w hL hP h hm
      · exact un_5 e hU n D w hL hP h hm
    · exact un_6 e hU n D w hL hP h
    · exact un_7 e hU n D w hL hP h
    · exact un_8 e hU n D w hL hP h
    · exact un_9 e hU n D w hL hP h
    · exact un_10 e hU n D w hL hP h
    · exact un_11 e hU n D w hL hP h
    · exact un_12 e hU n D w hL hP h
    · exact un_14 e hU n D w hL hP h
    · by_cases hm : (n.kid 1).kind = 0
      · exact un_15_none e hU n D w hL hP h hm
      · exact un_15 e hU n D w hL hP h hm
    · by_cases hc : n.cap = 1
      · exact un_16_one e hU n D w hL hP h hc
      · exact un_16 e hU n D w hL hP h hc
    · exact un_17 e hU n D w hL hP h
    · exact un_18 e hU n D w hL hP h
    · exact un_19 e hU n D w hL hP h
    · obtain ⟨f, rfl⟩ := hP.deep (by omega) (by omega) (by rw [h]; decide)
      exact un_20 f hU (ih f (by omega)) n D w hL hP h
    · exact un_21 e hU n D w hL hP h
    · exact un_22 e hU n D w hL hP h
    · rcases (hP.fit (by omega)).2.2.1.2.2.2.2.2.2.2.1 h with ht | ht
      · exact un_23_and e hU n D w hL hP h ht
      · exact un_23_or e hU n D w hL hP h ht
    · exact un_24 e hU n D w hL hP h
    · exact un_25 e hU n D w hL hP h
    · exact un_26 e hU n D w hL hP h
    · exact un_27 e hU n D w hL hP h
    · by_cases hc : n.cap = 1
      · by_cases hm : (n.kid 0).kind = 0
        · exact un_28_one_none e hU n D w hL hP h hc hm
        · exact un_28_one e hU n D w hL hP h hc hm
      · by_cases hm : (n.kid 0).kind = 0
        · exact un_28_none e hU n D w hL hP h hc hm
        · exact un_28 e hU n D w hL hP h hc hm
    · by_cases hm : (n.kid 1).kind = 0
      · exact un_29_none e hU n D w hL hP h hm
      · exact un_29 e hU n D w hL hP h hm
    · exact un_30 e hU n D w hL hP h
    · exact un_31 e hU n D w hL hP h
    · exact un_32 e hU n D w hL hP h
    · exact un_33 e hU n D w hL hP h
    · exact un_34 e hU n D w hL hP h
    · exact un_35 e hU n D w hL hP h
    · exact un_36 e hU n D w hL hP h
    · exact un_37 e hU n D w hL hP h
    · exact un_38 e hU n D w hL hP h
    · exact un_39 e hU n D w hL hP h
    · exact un_41 e hU n D w hL hP h
    · exact un_42 e hU n D w hL hP h
    · exact un_43 e hU n D w hL hP h
end Go.Proofs.YtongafghllkomaaGreatDoor
