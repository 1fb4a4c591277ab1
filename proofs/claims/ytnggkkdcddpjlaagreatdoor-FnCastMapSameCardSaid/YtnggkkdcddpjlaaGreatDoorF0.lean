/- Closed facts of the program that each row's form asks: the kernel reckons each alone. -/
import Derived.Test.YtnggkkdcddpjlaaGreatDoorR0
import Derived.JoinedOf
namespace Go.Proofs.YtnggkkdcddpjlaaGreatDoor.Facts
open Go
set_option maxRecDepth 100000
theorem laidOut : laidOutB Tryz.prog = true := by kernel_rfl
theorem mapsRowed : mapsRowed Tryz.prog = true := by kernel_rfl
theorem stops : (Tryz.prog.stops == []) = true := by kernel_rfl
theorem stopKnobs : (Tryz.prog.stopKnobs == []) = true := by kernel_rfl
theorem stopsHeard : Tryz.prog.stopsHeard = true := by kernel_rfl
theorem mayEnter : Tryz.prog.mayEnter = true := by kernel_rfl
end Go.Proofs.YtnggkkdcddpjlaaGreatDoor.Facts
