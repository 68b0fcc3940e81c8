/- The closed facts that the row of FnIfElseGoesBeforeEnd asks, each by the kernel. -/
import Derived.Test.YtooalmhelfaodaaDoorFacts
namespace Go.Proofs.YtooalmhelfaodaaDoor.fnIfElseGoesBeforeEnd
open Go.ChangeShapes Go.WideShapes Go.ChangeAt Go.RowKit
theorem fnm : Tryd.prog.funcNamed "github.com/itchyny/gojq/n001_56.FnIfElseGoesBeforeEnd" = some 10 := by kernel_rfl
theorem i1 : (Rows.fnIfElseGoesBeforeEndRow.inPlace == Tryd.prog.inPlace 10) = true := by kernel_rfl
theorem i2 : (Rows.fnIfElseGoesBeforeEndRow.unfollowed == Tryd.prog.unfollowed 10) = true := by kernel_rfl
theorem i3 : (Rows.fnIfElseGoesBeforeEndRow.recurses == Tryd.prog.recurses 10) = true := by kernel_rfl
theorem i4 : (Rows.fnIfElseGoesBeforeEndRow.named == Tryd.prog.varsNamed 10) = true := by kernel_rfl
theorem i5 : (Rows.fnIfElseGoesBeforeEndRow.wf (OpenSpec.ofChange Rows.fnIfElseGoesBeforeEndSpec) && Tryd.f10.params.all (Tryd.prog.readableRec ·) && namedTie Tryd.prog Rows.fnIfElseGoesBeforeEndRow.named Rows.fnIfElseGoesBeforeEndSpec.vars && (Rows.fnIfElseGoesBeforeEndRow.stops == []) && (Rows.fnIfElseGoesBeforeEndRow.knobs == [])) = true := by kernel_rfl
theorem i6 : ((Rows.fnIfElseGoesBeforeEndRow.maps == (Tryd.f10.params.toList ++ Rows.fnIfElseGoesBeforeEndSpec.plain.varTypes Tryd.prog).any (Tryd.prog.mapsRec ·)) && (Rows.fnIfElseGoesBeforeEndRow.ifaces == (Tryd.f10.params.toList ++ Rows.fnIfElseGoesBeforeEndSpec.plain.varTypes Tryd.prog).any (Tryd.prog.ifacesRec ·)) && (Rows.fnIfElseGoesBeforeEndRow.mapsOut == Tryd.prog.mapsAmong Tryd.f10.resultTypes.toList) && (Rows.fnIfElseGoesBeforeEndRow.loops == (Tryd.f10.params.toList ++ Rows.fnIfElseGoesBeforeEndSpec.plain.varTypes Tryd.prog).any (Tryd.prog.loopsFrom ·)) && (Rows.fnIfElseGoesBeforeEndRow.wideKeys == (Tryd.f10.params.toList ++ Rows.fnIfElseGoesBeforeEndSpec.plain.varTypes Tryd.prog ++ Tryd.f10.resultTypes.toList).any (Tryd.prog.wideKeysFrom ·))) = true := by kernel_rfl
theorem i7 : (Rows.fnIfElseGoesBeforeEndSpec.vars.all (Tryd.prog.varReadable ·) && Tryd.f10.resultTypes.all (fun t => Tryd.prog.readableRec t && decide (t < Tryd.prog.types.size)) && (Rows.fnIfElseGoesBeforeEndRow.ifacesOut == Tryd.f10.resultTypes.toList.any (Tryd.prog.ifacesRec ·)) && (Rows.fnIfElseGoesBeforeEndRow.loopsOut == Tryd.f10.resultTypes.toList.any (Tryd.prog.loopsFrom ·))) = true := by kernel_rfl
theorem i8 : ((Rows.fnIfElseGoesBeforeEndRow.lifted == Tryd.prog.liftsFinal) && (Tryd.prog.make == some Rows.fnIfElseGoesBeforeEndRow.make) && (Rows.fnIfElseGoesBeforeEndRow.pinned == Rows.fnIfElseGoesBeforeEndRow.pinnedBy) && (Rows.fnIfElseGoesBeforeEndRow.veiled == (Tryd.f10.params.toList ++ Rows.fnIfElseGoesBeforeEndSpec.plain.varTypes Tryd.prog ++ Tryd.f10.resultTypes.toList).any (Tryd.prog.veiledRec ·)) && Rows.fnIfElseGoesBeforeEndRow.veiledFits Tryd.prog Tryd.f10.params.toList (Tryd.f10.params.toList ++ Rows.fnIfElseGoesBeforeEndSpec.plain.varTypes Tryd.prog ++ Tryd.f10.resultTypes.toList)) = true := by kernel_rfl
theorem c1 : Rows.fnIfElseGoesBeforeEndRow.wfByText (OpenSpec.ofChange Rows.fnIfElseGoesBeforeEndSpec) = true := by kernel_rfl
theorem c2 : Tryd.pinned.checked.prog.mainIs = some (true, "4c935907ca096f70a1351f6b71854476e8c0ef60b8d06abfca06693d9201eed1".toList) := by kernel_rfl
theorem c3 : false = Rows.fnIfElseGoesBeforeEndRow.goesBy Tryd.pinned.checked.prog := by kernel_rfl
theorem c4 : ([48].all fun u => !Tryd.prog.wantsStandIn u) = true := by kernel_rfl
end Go.Proofs.YtooalmhelfaodaaDoor.fnIfElseGoesBeforeEnd
