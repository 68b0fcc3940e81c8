/- The closed facts that the row of FnQueryWriteToFlatModel asks, each by the kernel. -/
import Derived.Test.YtooalmhelfaodaaDoorFacts
namespace Go.Proofs.YtooalmhelfaodaaDoor.fnQueryWriteToFlatModel
open Go.ChangeShapes Go.WideShapes Go.ChangeAt Go.RowKit
theorem fnm : Tryd.prog.funcNamed "github.com/itchyny/gojq/n001_63.FnQueryWriteToFlatModel" = some 9 := by kernel_rfl
theorem i1 : (Rows.fnQueryWriteToFlatModelRow.inPlace == Tryd.prog.inPlace 9) = true := by kernel_rfl
theorem i2 : (Rows.fnQueryWriteToFlatModelRow.unfollowed == Tryd.prog.unfollowed 9) = true := by kernel_rfl
theorem i3 : (Rows.fnQueryWriteToFlatModelRow.recurses == Tryd.prog.recurses 9) = true := by kernel_rfl
theorem i4 : (Rows.fnQueryWriteToFlatModelRow.named == Tryd.prog.varsNamed 9) = true := by kernel_rfl
theorem i5 : (Rows.fnQueryWriteToFlatModelRow.wf (OpenSpec.ofChange Rows.fnQueryWriteToFlatModelSpec) && Tryd.f9.params.all (Tryd.prog.readableRec ·) && namedTie Tryd.prog Rows.fnQueryWriteToFlatModelRow.named Rows.fnQueryWriteToFlatModelSpec.vars && (Rows.fnQueryWriteToFlatModelRow.stops == []) && (Rows.fnQueryWriteToFlatModelRow.knobs == [])) = true := by kernel_rfl
theorem i6 : ((Rows.fnQueryWriteToFlatModelRow.maps == (Tryd.f9.params.toList ++ Rows.fnQueryWriteToFlatModelSpec.plain.varTypes Tryd.prog).any (Tryd.prog.mapsRec ·)) && (Rows.fnQueryWriteToFlatModelRow.ifaces == (Tryd.f9.params.toList ++ Rows.fnQueryWriteToFlatModelSpec.plain.varTypes Tryd.prog).any (Tryd.prog.ifacesRec ·)) && (Rows.fnQueryWriteToFlatModelRow.mapsOut == Tryd.prog.mapsAmong Tryd.f9.resultTypes.toList) && (Rows.fnQueryWriteToFlatModelRow.loops == (Tryd.f9.params.toList ++ Rows.fnQueryWriteToFlatModelSpec.plain.varTypes Tryd.prog).any (Tryd.prog.loopsFrom ·)) && (Rows.fnQueryWriteToFlatModelRow.wideKeys == (Tryd.f9.params.toList ++ Rows.fnQueryWriteToFlatModelSpec.plain.varTypes Tryd.prog ++ Tryd.f9.resultTypes.toList).any (Tryd.prog.wideKeysFrom ·))) = true := by kernel_rfl
theorem i7 : (Rows.fnQueryWriteToFlatModelSpec.vars.all (Tryd.prog.varReadable ·) && Tryd.f9.resultTypes.all (fun t => Tryd.prog.readableRec t && decide (t < Tryd.prog.types.size)) && (Rows.fnQueryWriteToFlatModelRow.ifacesOut == Tryd.f9.resultTypes.toList.any (Tryd.prog.ifacesRec ·)) && (Rows.fnQueryWriteToFlatModelRow.loopsOut == Tryd.f9.resultTypes.toList.any (Tryd.prog.loopsFrom ·))) = true := by kernel_rfl
theorem i8 : ((Rows.fnQueryWriteToFlatModelRow.lifted == Tryd.prog.liftsFinal) && (Tryd.prog.make == some Rows.fnQueryWriteToFlatModelRow.make) && (Rows.fnQueryWriteToFlatModelRow.pinned == Rows.fnQueryWriteToFlatModelRow.pinnedBy) && (Rows.fnQueryWriteToFlatModelRow.veiled == (Tryd.f9.params.toList ++ Rows.fnQueryWriteToFlatModelSpec.plain.varTypes Tryd.prog ++ Tryd.f9.resultTypes.toList).any (Tryd.prog.veiledRec ·)) && Rows.fnQueryWriteToFlatModelRow.veiledFits Tryd.prog Tryd.f9.params.toList (Tryd.f9.params.toList ++ Rows.fnQueryWriteToFlatModelSpec.plain.varTypes Tryd.prog ++ Tryd.f9.resultTypes.toList)) = true := by kernel_rfl
theorem c1 : Rows.fnQueryWriteToFlatModelRow.wfByText (OpenSpec.ofChange Rows.fnQueryWriteToFlatModelSpec) = true := by kernel_rfl
theorem c2 : Tryd.pinned.checked.prog.mainIs = some (true, "4c935907ca096f70a1351f6b71854476e8c0ef60b8d06abfca06693d9201eed1".toList) := by kernel_rfl
theorem c3 : false = Rows.fnQueryWriteToFlatModelRow.goesBy Tryd.pinned.checked.prog := by kernel_rfl
theorem c4 : ([56, 56, 57, 57].all fun u => !Tryd.prog.wantsStandIn u) = true := by kernel_rfl
end Go.Proofs.YtooalmhelfaodaaDoor.fnQueryWriteToFlatModel
