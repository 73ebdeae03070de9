/-
  What the rows' lists give at this seat: the tables of the library's decoder of UTF-8.
-/
import Derived.Test.YtcbcdgifakcooaaGreatDoorCards
import Derived.Test.YtcbcdgifakcooaaGreatDoorTie
import Derived.ProofKit
import Derived.OpenShut
import Derived.LaidMore
import Derived.Lay
import Derived.SevenTiedAt
import Derived.Stop.Joined
import Derived.Lib.LaidU8
namespace Go.Proofs.YtcbcdgifakcooaaGreatDoor
open Go.ChangeShapes Go.WideShapes Go.ChangeAt Go.RowKit Go.Lib

theorem own : ownKnob Tryz.prog.godebug = none := by kernel_rfl
theorem laidOut : laidOutB Tryz.prog = true := by kernel_rfl
theorem first_eq : Go.Pinned.utf8First = firstData := by kernel_rfl
theorem accept_eq : (Rows.laid_unicode_utf8_acceptRanges : DataW Unit) = acceptData := by kernel_rfl

theorem tabs_of {L : List (String × DataW Unit)} {W : World} (h : laidMet Tryz.prog L W) (m3 : ("unicode/utf8.first", Go.Pinned.utf8First) ∈ L) (m4 : ("unicode/utf8.acceptRanges", (Rows.laid_unicode_utf8_acceptRanges : DataW Unit)) ∈ L) : Lib.Utf8Tabs 1 2 W := by
  have c5 : Tryz.prog.cellsOf 5 = 1 := by kernel_rfl
  have c58 : Tryz.prog.cellsOf 390 = 256 := by kernel_rfl
  have c60 : Tryz.prog.cellsOf 392 = 2 := by kernel_rfl
  refine ⟨fun c hc => ?_, fun i hi => ?_⟩
  · obtain ⟨g, t, cs, fuel, p, hg, hty, hvar, hd⟩ := laidMet.reads h m3
    rw [first_eq] at hd
    obtain rfl := Option.some.inj ((show Tryz.prog.globalNamed "unicode/utf8.first" = some 1 by kernel_rfl).symm.trans hg)
    obtain rfl := Option.some.inj ((show (Tryz.prog.globals[1]?).map (·.type) = some 390 by kernel_rfl).symm.trans hty)
    have hcs := cells_of_tab Tryz.underlying390 Tryz.underlying5 c5 c58 hd
    have := World.var?_cell hg hvar c
    rw [this, ← Array.getElem?_toList, hcs]
    simp [firstTab, hc]
  · obtain ⟨g, t, cs, fuel, p, hg, hty, hvar, hd⟩ := laidMet.reads h m4
    rw [accept_eq] at hd
    obtain rfl := Option.some.inj ((show Tryz.prog.globalNamed "unicode/utf8.acceptRanges" = some 2 by kernel_rfl).symm.trans hg)
    obtain rfl := Option.some.inj ((show (Tryz.prog.globals[2]?).map (·.type) = some 393 by kernel_rfl).symm.trans hty)
    obtain ⟨fuel', d, q, hdi, he⟩ := array_elem Tryz.underlying393 hd i hi
    simp only [List.getElem?_map, List.getElem?_range hi, Option.map_some, Option.some.injEq] at hdi
    subst hdi
    rw [c60] at he
    have hcs := ints_of_struct Tryz.underlying392 (fun j f hj => by
      match j, hj with
      | 0, hj => simp at hj; subst hj; exact ⟨Tryz.underlying5, rfl, c5⟩
      | 1, hj => simp at hj; subst hj; exact ⟨Tryz.underlying5, rfl, c5⟩
      | j + 2, hj => simp at hj) (by rw [c60]; rfl) he
    have e0 := congrArg (·[0]?) hcs
    have e1 := congrArg (·[1]?) hcs
    simp only [List.getElem?_take, List.getElem?_drop] at e0 e1
    constructor
    · rw [World.var?_cell hg hvar (2 * i), ← Array.getElem?_toList]
      simpa [Nat.mul_comm] using e0
    · rw [World.var?_cell hg hvar (2 * i + 1), ← Array.getElem?_toList]
      simpa [Nat.mul_comm] using e1
end Go.Proofs.YtcbcdgifakcooaaGreatDoor
