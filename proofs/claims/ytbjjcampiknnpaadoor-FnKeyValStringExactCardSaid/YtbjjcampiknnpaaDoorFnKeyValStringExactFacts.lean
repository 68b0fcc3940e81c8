/- The closed facts that the row of FnKeyValStringExact asks, each by the kernel. -/
import Derived.Test.YtbjjcampiknnpaaDoorFacts
namespace Go.Proofs.YtbjjcampiknnpaaDoor.fnKeyValStringExact
open Go.ChangeShapes Go.WideShapes Go.ChangeAt Go.RowKit
theorem fnm : Tryd.prog.funcNamed "github.com/itchyny/gojq/n001_65.FnKeyValStringExact" = some 4 := by kernel_rfl
theorem i1 : (Rows.fnKeyValStringExactRow.inPlace == Tryd.prog.inPlace 4) = true := by kernel_rfl
theorem i2 : (Rows.fnKeyValStringExactRow.unfollowed == Tryd.prog.unfollowed 4) = true := by kernel_rfl
theorem i3 : (Rows.fnKeyValStringExactRow.recurses == Tryd.prog.recurses 4) = true := by kernel_rfl
theorem i4 : (Rows.fnKeyValStringExactRow.named == Tryd.prog.varsNamed 4) = true := by kernel_rfl
theorem i5 : (Rows.fnKeyValStringExactRow.wf (OpenSpec.ofChange Rows.fnKeyValStringExactSpec) && Tryd.f4.params.all (Tryd.prog.readableRec ·) && namedTie Tryd.prog Rows.fnKeyValStringExactRow.named Rows.fnKeyValStringExactSpec.vars && (Rows.fnKeyValStringExactRow.stops == []) && (Rows.fnKeyValStringExactRow.knobs == [])) = true := by kernel_rfl
theorem i6 : ((Rows.fnKeyValStringExactRow.maps == (Tryd.f4.params.toList ++ Rows.fnKeyValStringExactSpec.plain.varTypes Tryd.prog).any (Tryd.prog.mapsRec ·)) && (Rows.fnKeyValStringExactRow.ifaces == (Tryd.f4.params.toList ++ Rows.fnKeyValStringExactSpec.plain.varTypes Tryd.prog).any (Tryd.prog.ifacesRec ·)) && (Rows.fnKeyValStringExactRow.mapsOut == Tryd.prog.mapsAmong Tryd.f4.resultTypes.toList) && (Rows.fnKeyValStringExactRow.loops == (Tryd.f4.params.toList ++ Rows.fnKeyValStringExactSpec.plain.varTypes Tryd.prog).any (Tryd.prog.loopsFrom ·)) && (Rows.fnKeyValStringExactRow.wideKeys == (Tryd.f4.params.toList ++ Rows.fnKeyValStringExactSpec.plain.varTypes Tryd.prog ++ Tryd.f4.resultTypes.toList).any (Tryd.prog.wideKeysFrom ·))) = true := by kernel_rfl
theorem i7 : (Rows.fnKeyValStringExactSpec.vars.all (Tryd.prog.varReadable ·) && Tryd.f4.resultTypes.all (fun t => Tryd.prog.readableRec t && decide (t < Tryd.prog.types.size)) && (Rows.fnKeyValStringExactRow.ifacesOut == Tryd.f4.resultTypes.toList.any (Tryd.prog.ifacesRec ·)) && (Rows.fnKeyValStringExactRow.loopsOut == Tryd.f4.resultTypes.toList.any (Tryd.prog.loopsFrom ·))) = true := by kernel_rfl
theorem i8 : ((Rows.fnKeyValStringExactRow.lifted == Tryd.prog.liftsFinal) && (Tryd.prog.make == some Rows.fnKeyValStringExactRow.make) && (Rows.fnKeyValStringExactRow.pinned == Rows.fnKeyValStringExactRow.pinnedBy) && (Rows.fnKeyValStringExactRow.veiled == (Tryd.f4.params.toList ++ Rows.fnKeyValStringExactSpec.plain.varTypes Tryd.prog ++ Tryd.f4.resultTypes.toList).any (Tryd.prog.veiledRec ·)) && Rows.fnKeyValStringExactRow.veiledFits Tryd.prog Tryd.f4.params.toList (Tryd.f4.params.toList ++ Rows.fnKeyValStringExactSpec.plain.varTypes Tryd.prog ++ Tryd.f4.resultTypes.toList)) = true := by kernel_rfl
theorem c1 : Rows.fnKeyValStringExactRow.wfByText (OpenSpec.ofChange Rows.fnKeyValStringExactSpec) = true := by kernel_rfl
theorem c2 : Tryd.pinned.checked.prog.mainIs = some (true, "c500e1172cdccd60f7879a2509a876b3613eaa2b03e65483fe0e872b12937a24".toList) := by kernel_rfl
theorem c3 : false = Rows.fnKeyValStringExactRow.goesBy Tryd.pinned.checked.prog := by kernel_rfl
theorem c4 : ([9, 9, 26].all fun u => !Tryd.prog.wantsStandIn u) = true := by kernel_rfl
end Go.Proofs.YtbjjcampiknnpaaDoor.fnKeyValStringExact
