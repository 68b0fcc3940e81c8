/- The closed facts that the row of FnImportStringCaseTable asks, each by the kernel. -/
import Derived.Test.YtooalmhelfaodaaDoorFacts
namespace Go.Proofs.YtooalmhelfaodaaDoor.fnImportStringCaseTable
open Go.ChangeShapes Go.WideShapes Go.ChangeAt Go.RowKit
theorem fnm : Tryd.prog.funcNamed "github.com/itchyny/gojq/n001_63.FnImportStringCaseTable" = some 13 := by kernel_rfl
theorem i1 : (Rows.fnImportStringCaseTableRow.inPlace == Tryd.prog.inPlace 13) = true := by kernel_rfl
theorem i2 : (Rows.fnImportStringCaseTableRow.unfollowed == Tryd.prog.unfollowed 13) = true := by kernel_rfl
theorem i3 : (Rows.fnImportStringCaseTableRow.recurses == Tryd.prog.recurses 13) = true := by kernel_rfl
theorem i4 : (Rows.fnImportStringCaseTableRow.named == Tryd.prog.varsNamed 13) = true := by kernel_rfl
theorem i5 : (Rows.fnImportStringCaseTableRow.wf (OpenSpec.ofChange Rows.fnImportStringCaseTableSpec) && Tryd.f13.params.all (Tryd.prog.readableRec ·) && namedTie Tryd.prog Rows.fnImportStringCaseTableRow.named Rows.fnImportStringCaseTableSpec.vars && (Rows.fnImportStringCaseTableRow.stops == []) && (Rows.fnImportStringCaseTableRow.knobs == [])) = true := by kernel_rfl
theorem i6 : ((Rows.fnImportStringCaseTableRow.maps == (Tryd.f13.params.toList ++ Rows.fnImportStringCaseTableSpec.plain.varTypes Tryd.prog).any (Tryd.prog.mapsRec ·)) && (Rows.fnImportStringCaseTableRow.ifaces == (Tryd.f13.params.toList ++ Rows.fnImportStringCaseTableSpec.plain.varTypes Tryd.prog).any (Tryd.prog.ifacesRec ·)) && (Rows.fnImportStringCaseTableRow.mapsOut == Tryd.prog.mapsAmong Tryd.f13.resultTypes.toList) && (Rows.fnImportStringCaseTableRow.loops == (Tryd.f13.params.toList ++ Rows.fnImportStringCaseTableSpec.plain.varTypes Tryd.prog).any (Tryd.prog.loopsFrom ·)) && (Rows.fnImportStringCaseTableRow.wideKeys == (Tryd.f13.params.toList ++ Rows.fnImportStringCaseTableSpec.plain.varTypes Tryd.prog ++ Tryd.f13.resultTypes.toList).any (Tryd.prog.wideKeysFrom ·))) = true := by kernel_rfl
theorem i7 : (Rows.fnImportStringCaseTableSpec.vars.all (Tryd.prog.varReadable ·) && Tryd.f13.resultTypes.all (fun t => Tryd.prog.readableRec t && decide (t < Tryd.prog.types.size)) && (Rows.fnImportStringCaseTableRow.ifacesOut == Tryd.f13.resultTypes.toList.any (Tryd.prog.ifacesRec ·)) && (Rows.fnImportStringCaseTableRow.loopsOut == Tryd.f13.resultTypes.toList.any (Tryd.prog.loopsFrom ·))) = true := by kernel_rfl
theorem i8 : ((Rows.fnImportStringCaseTableRow.lifted == Tryd.prog.liftsFinal) && (Tryd.prog.make == some Rows.fnImportStringCaseTableRow.make) && (Rows.fnImportStringCaseTableRow.pinned == Rows.fnImportStringCaseTableRow.pinnedBy) && (Rows.fnImportStringCaseTableRow.veiled == (Tryd.f13.params.toList ++ Rows.fnImportStringCaseTableSpec.plain.varTypes Tryd.prog ++ Tryd.f13.resultTypes.toList).any (Tryd.prog.veiledRec ·)) && Rows.fnImportStringCaseTableRow.veiledFits Tryd.prog Tryd.f13.params.toList (Tryd.f13.params.toList ++ Rows.fnImportStringCaseTableSpec.plain.varTypes Tryd.prog ++ Tryd.f13.resultTypes.toList)) = true := by kernel_rfl
theorem c1 : Rows.fnImportStringCaseTableRow.wfByText (OpenSpec.ofChange Rows.fnImportStringCaseTableSpec) = true := by kernel_rfl
theorem c2 : Tryd.pinned.checked.prog.mainIs = some (true, "4c935907ca096f70a1351f6b71854476e8c0ef60b8d06abfca06693d9201eed1".toList) := by kernel_rfl
theorem c3 : false = Rows.fnImportStringCaseTableRow.goesBy Tryd.pinned.checked.prog := by kernel_rfl
theorem c4 : ([9, 9, 9, 4, 9, 9].all fun u => !Tryd.prog.wantsStandIn u) = true := by kernel_rfl
end Go.Proofs.YtooalmhelfaodaaDoor.fnImportStringCaseTable
