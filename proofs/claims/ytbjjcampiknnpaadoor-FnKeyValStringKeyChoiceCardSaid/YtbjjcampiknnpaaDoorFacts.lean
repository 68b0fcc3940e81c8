/- Closed facts of the program that every row of the seat asks: each once, by the kernel. -/
import Derived.Test.YtbjjcampiknnpaaDoorOpen
import Derived.Test.YtbjjcampiknnpaaDoorCards
import Derived.Test.YtbjjcampiknnpaaDoorTie
import Derived.SevenTiedAt
namespace Go.Proofs.YtbjjcampiknnpaaDoor.Facts
open Go
theorem f1 : mapsRowed Tryd.prog = true := by kernel_rfl
theorem f2 : (Tryd.prog.stops == []) = true := by kernel_rfl
theorem f3 : (Tryd.prog.stopKnobs == []) = true := by kernel_rfl
theorem f4 : Tryd.prog.plainKeys = true := by kernel_rfl
theorem f5 : Tryd.prog.stopsHeard = true := by kernel_rfl
theorem f6 : Tryd.prog.mayEnter = true := by kernel_rfl
theorem f7 : Tryd.prog.looks [] = false := by kernel_rfl
end Go.Proofs.YtbjjcampiknnpaaDoor.Facts
