/-
  node hands back every tree that lies there and fits and is of the kinds that walked trees have. No conditions.
-/
import Derived.Test.YtongafghllkomaaGreatDoorNdA
import Derived.Test.YtongafghllkomaaGreatDoorNdB
import Derived.Test.YtongafghllkomaaGreatDoorNdC
import Derived.Test.YtongafghllkomaaGreatDoorNdD
import Derived.Test.YtongafghllkomaaGreatDoorNdF
import Derived.Test.YtongafghllkomaaGreatDoorNdG
import Derived.Test.YtongafghllkomaaGreatDoorNdI
import Derived.Test.YtongafghllkomaaGreatDoorNdK
import Derived.Test.YtongafghllkomaaGreatDoorNdL
import Derived.Test.YtongafghllkomaaGreatDoorLit
namespace Go.Proofs.YtongafghllkomaaGreatDoor
open Go.RowKit
set_option linter.unusedVariables false

theorem node_all : ∀ d, NodeC d := by
  intro d
  induction d with
  | zero => exact nodeC_zero
  | succ d hN =>
    intro e A n b w hG hR
    obtain ⟨hGd, hW⟩ := hG
    obtain ⟨e, rfl⟩ := hGd.pre.pos
    have hP := hGd.pre
    have hk := hGd.2.2.2
    have hlen : n.kind ≠ 0 → n.kind ≠ 1 → (fixedL n.kind).length ≤ n.kids.length := fun h0 h1 => ((hP.fit h0).2.2.2.1 h1).1
    unfold walkL at hk
    simp only [List.mem_cons, List.not_mem_nil, or_false] at hk
    rcases hk with h | h | h | h | h | h | h | h | h | h | h | h | h | h | h | h | h | h | h | h | h | h | h | h | h | h | h | h | h | h | h | h | h | h | h | h | h | h | h | h
    · exact nd_2 d hN e A n b w hP hW hR h
    · by_cases hm : (n.kid 0).kind = 0
      · exact nd_3_none d hN e A n b w hP hW hR h hm
      · exact nd_3 d hN e A n b w hP hW hR h hm
    · exact nd_4 d hN e A n b w hP hW hR h
    · by_cases hm : (n.kid 0).kind = 0
      · exact nd_5_none d hN e A n b w hP hW hR h hm
      · exact nd_5 d hN e A n b w hP hW hR h hm
    · exact nd_6 d hN e A n b w hP hW hR h
    · exact nd_7 d hN e A n b w hP hW hR h
    · exact nd_8 d hN e A n b w hP hW hR h
    · exact nd_9 d hN e A n b w hP hW hR h
    · exact nd_10 d hN e A n b w hP hW hR h
    · exact nd_11 d hN e A n b w hP hW hR h
    · exact nd_12 d hN e A n b w hP hW hR h
    · exact nd_14 d hN e A n b w hP hW hR h
    · by_cases hm : (n.kid 1).kind = 0
      · exact nd_15_none d hN e A n b w hP hW hR h hm
      · exact nd_15 d hN e A n b w hP hW hR h hm
    · have hl := hlen (by omega) (by omega)
      rw [h, show (fixedL 16).length = 1 from by decide] at hl
      by_cases hr : n.kids.length = 1
      · exact nd_16_one d hN e A n b w hP hW hR h hr
      · exact nd_16 d hN e A n b w hP hW hR h (by omega)
    · exact nd_17 d hN e A n b w hP hW hR h
    · exact nd_18 d hN e A n b w hP hW hR h
    · exact nd_19 d hN e A n b w hP hW hR h
    · exact nd_20 d hN e A n b w hP hW hR h
    · exact nd_21 d hN e A n b w hP hW hR h
    · exact nd_22 d hN e A n b w hP hW hR h
    · rcases (hP.fit (by omega)).2.2.1.2.2.2.2.2.2.2.1 h with ht | ht
      · exact nd_23_and d hN e A n b w hP hW hR h ht
      · exact nd_23_or d hN e A n b w hP hW hR h ht
    · exact nd_24 d hN e A n b w hP hW hR h
    · exact nd_25 d hN e A n b w hP hW hR h
    · exact nd_26 d hN e A n b w hP hW hR h
    · exact nd_27 d hN e A n b w hP hW hR h
    · have hl := hlen (by omega) (by omega)
      rw [h, show (fixedL 28).length = 1 from by decide] at hl
      by_cases hr : n.kids.length = 1
      · by_cases hm : (n.kid 0).kind = 0
        · exact nd_28_one_none d hN e A n b w hP hW hR h hr hm
        · exact nd_28_one d hN e A n b w hP hW hR h hr hm
      · by_cases hm : (n.kid 0).kind = 0
        · exact nd_28_none d hN e A n b w hP hW hR h (by omega) hm
        · exact nd_28 d hN e A n b w hP hW hR h (by omega) hm
    · by_cases hm : (n.kid 1).kind = 0
      · exact nd_29_none d hN e A n b w hP hW hR h hm
      · exact nd_29 d hN e A n b w hP hW hR h hm
    · exact nd_30 d hN e A n b w hP hW hR h
    · exact nd_31 d hN e A n b w hP hW hR h
    · exact nd_32 d hN e A n b w hP hW hR h
    · exact nd_33 d hN e A n b w hP hW hR h
    · exact nd_34 d hN e A n b w hP hW hR h
    · exact nd_35 d hN e A n b w hP hW hR h
    · exact nd_36 d hN e A n b w hP hW hR h
    · exact nd_37 d hN e A n b w hP hW hR h
    · exact nd_38 d hN e A n b w hP hW hR h
    · exact nd_39 d hN e A n b w hP hW hR h
    · exact nd_41 d hN e A n b w hP hW hR h
    · exact nd_42 d hN e A n b w hP hW hR h
    · exact nd_43 d hN e A n b w hP hW hR h
end Go.Proofs.YtongafghllkomaaGreatDoor
