/-
  Closed facts of this seat's program, which each law's row asks. No conditions.
-/
import Derived.Test.YtcbcdgifakcooaaGreatDoorLaid
import Derived.WalkKit
import Derived.ProofKit
import Derived.OpenShut
namespace Go.Proofs.YtcbcdgifakcooaaGreatDoor
open Go.ChangeShapes Go.WideShapes Go.ChangeAt Go.RowKit

theorem pf1 : laidOutB Tryz.prog = true := by kernel_rfl
theorem pf2 : mapsRowed Tryz.prog = true := by kernel_rfl
theorem pf3 : Tryz.prog.stopsHeard = true := by kernel_rfl
theorem pf4 : Tryz.prog.mayEnter = true := by kernel_rfl
theorem pf5 : (Tryz.prog.stops == []) = true := by kernel_rfl
theorem pf6 : (Tryz.prog.stopKnobs == []) = true := by kernel_rfl

end Go.Proofs.YtcbcdgifakcooaaGreatDoor
