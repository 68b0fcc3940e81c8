/- The closed facts that the row of FnObjectStringModel asks, each by the kernel. -/
import Derived.Test.YtooalmhelfaodaaDoorFacts
namespace Go.Proofs.YtooalmhelfaodaaDoor.fnObjectStringModel
open Go.ChangeShapes Go.WideShapes Go.ChangeAt Go.RowKit
theorem fnm : Tryd.prog.funcNamed "github.com/itchyny/gojq/n001_7.FnObjectStringModel" = some 6 := by kernel_rfl
theorem i1 : (Rows.fnObjectStringModelRow.inPlace == Tryd.prog.inPlace 6) = true := by kernel_rfl
theorem i2 : (Rows.fnObjectStringModelRow.unfollowed == Tryd.prog.unfollowed 6) = true := by kernel_rfl
theorem i3 : (Rows.fnObjectStringModelRow.recurses == Tryd.prog.recurses 6) = true := by kernel_rfl
theorem i4 : (Rows.fnObjectStringModelRow.named == Tryd.prog.varsNamed 6) = true := by kernel_rfl
theorem i5 : (Rows.fnObjectStringModelRow.wf (OpenSpec.ofChange Rows.fnObjectStringModelSpec) && Tryd.f6.params.all (Tryd.prog.readableRec ·) && namedTie Tryd.prog Rows.fnObjectStringModelRow.named Rows.fnObjectStringModelSpec.vars && (Rows.fnObjectStringModelRow.stops == []) && (Rows.fnObjectStringModelRow.knobs == [])) = true := by kernel_rfl
theorem i6 : ((Rows.fnObjectStringModelRow.maps == (Tryd.f6.params.toList ++ Rows.fnObjectStringModelSpec.plain.varTypes Tryd.prog).any (Tryd.prog.mapsRec ·)) && (Rows.fnObjectStringModelRow.ifaces == (Tryd.f6.params.toList ++ Rows.fnObjectStringModelSpec.plain.varTypes Tryd.prog).any (Tryd.prog.ifacesRec ·)) && (Rows.fnObjectStringModelRow.mapsOut == Tryd.prog.mapsAmong Tryd.f6.resultTypes.toList) && (Rows.fnObjectStringModelRow.loops == (Tryd.f6.params.toList ++ Rows.fnObjectStringModelSpec.plain.varTypes Tryd.prog).any (Tryd.prog.loopsFrom ·)) && (Rows.fnObjectStringModelRow.wideKeys == (Tryd.f6.params.toList ++ Rows.fnObjectStringModelSpec.plain.varTypes Tryd.prog ++ Tryd.f6.resultTypes.toList).any (Tryd.prog.wideKeysFrom ·))) = true := by kernel_rfl
theorem i7 : (Rows.fnObjectStringModelSpec.vars.all (Tryd.prog.varReadable ·) && Tryd.f6.resultTypes.all (fun t => Tryd.prog.readableRec t && decide (t < Tryd.prog.types.size)) && (Rows.fnObjectStringModelRow.ifacesOut == Tryd.f6.resultTypes.toList.any (Tryd.prog.ifacesRec ·)) && (Rows.fnObjectStringModelRow.loopsOut == Tryd.f6.resultTypes.toList.any (Tryd.prog.loopsFrom ·))) = true := by kernel_rfl
theorem i8 : ((Rows.fnObjectStringModelRow.lifted == Tryd.prog.liftsFinal) && (Tryd.prog.make == some Rows.fnObjectStringModelRow.make) && (Rows.fnObjectStringModelRow.pinned == Rows.fnObjectStringModelRow.pinnedBy) && (Rows.fnObjectStringModelRow.veiled == (Tryd.f6.params.toList ++ Rows.fnObjectStringModelSpec.plain.varTypes Tryd.prog ++ Tryd.f6.resultTypes.toList).any (Tryd.prog.veiledRec ·)) && Rows.fnObjectStringModelRow.veiledFits Tryd.prog Tryd.f6.params.toList (Tryd.f6.params.toList ++ Rows.fnObjectStringModelSpec.plain.varTypes Tryd.prog ++ Tryd.f6.resultTypes.toList)) = true := by kernel_rfl
theorem c1 : Rows.fnObjectStringModelRow.wfByText (OpenSpec.ofChange Rows.fnObjectStringModelSpec) = true := by kernel_rfl
theorem c2 : Tryd.pinned.checked.prog.mainIs = some (true, "4c935907ca096f70a1351f6b71854476e8c0ef60b8d06abfca06693d9201eed1".toList) := by kernel_rfl
theorem c3 : false = Rows.fnObjectStringModelRow.goesBy Tryd.pinned.checked.prog := by kernel_rfl
theorem c4 : ([36].all fun u => !Tryd.prog.wantsStandIn u) = true := by kernel_rfl
end Go.Proofs.YtooalmhelfaodaaDoor.fnObjectStringModel
