/- The closed facts that the row of FnObjectStringConcat asks, each by the kernel. -/
import Derived.Test.YtooalmhelfaodaaDoorFacts
namespace Go.Proofs.YtooalmhelfaodaaDoor.fnObjectStringConcat
open Go.ChangeShapes Go.WideShapes Go.ChangeAt Go.RowKit
theorem fnm : Tryd.prog.funcNamed "github.com/itchyny/gojq/n001_7.FnObjectStringConcat" = some 12 := by kernel_rfl
theorem i1 : (Rows.fnObjectStringConcatRow.inPlace == Tryd.prog.inPlace 12) = true := by kernel_rfl
theorem i2 : (Rows.fnObjectStringConcatRow.unfollowed == Tryd.prog.unfollowed 12) = true := by kernel_rfl
theorem i3 : (Rows.fnObjectStringConcatRow.recurses == Tryd.prog.recurses 12) = true := by kernel_rfl
theorem i4 : (Rows.fnObjectStringConcatRow.named == Tryd.prog.varsNamed 12) = true := by kernel_rfl
theorem i5 : (Rows.fnObjectStringConcatRow.wf (OpenSpec.ofChange Rows.fnObjectStringConcatSpec) && Tryd.f12.params.all (Tryd.prog.readableRec ·) && namedTie Tryd.prog Rows.fnObjectStringConcatRow.named Rows.fnObjectStringConcatSpec.vars && (Rows.fnObjectStringConcatRow.stops == []) && (Rows.fnObjectStringConcatRow.knobs == [])) = true := by kernel_rfl
theorem i6 : ((Rows.fnObjectStringConcatRow.maps == (Tryd.f12.params.toList ++ Rows.fnObjectStringConcatSpec.plain.varTypes Tryd.prog).any (Tryd.prog.mapsRec ·)) && (Rows.fnObjectStringConcatRow.ifaces == (Tryd.f12.params.toList ++ Rows.fnObjectStringConcatSpec.plain.varTypes Tryd.prog).any (Tryd.prog.ifacesRec ·)) && (Rows.fnObjectStringConcatRow.mapsOut == Tryd.prog.mapsAmong Tryd.f12.resultTypes.toList) && (Rows.fnObjectStringConcatRow.loops == (Tryd.f12.params.toList ++ Rows.fnObjectStringConcatSpec.plain.varTypes Tryd.prog).any (Tryd.prog.loopsFrom ·)) && (Rows.fnObjectStringConcatRow.wideKeys == (Tryd.f12.params.toList ++ Rows.fnObjectStringConcatSpec.plain.varTypes Tryd.prog ++ Tryd.f12.resultTypes.toList).any (Tryd.prog.wideKeysFrom ·))) = true := by kernel_rfl
theorem i7 : (Rows.fnObjectStringConcatSpec.vars.all (Tryd.prog.varReadable ·) && Tryd.f12.resultTypes.all (fun t => Tryd.prog.readableRec t && decide (t < Tryd.prog.types.size)) && (Rows.fnObjectStringConcatRow.ifacesOut == Tryd.f12.resultTypes.toList.any (Tryd.prog.ifacesRec ·)) && (Rows.fnObjectStringConcatRow.loopsOut == Tryd.f12.resultTypes.toList.any (Tryd.prog.loopsFrom ·))) = true := by kernel_rfl
theorem i8 : ((Rows.fnObjectStringConcatRow.lifted == Tryd.prog.liftsFinal) && (Tryd.prog.make == some Rows.fnObjectStringConcatRow.make) && (Rows.fnObjectStringConcatRow.pinned == Rows.fnObjectStringConcatRow.pinnedBy) && (Rows.fnObjectStringConcatRow.veiled == (Tryd.f12.params.toList ++ Rows.fnObjectStringConcatSpec.plain.varTypes Tryd.prog ++ Tryd.f12.resultTypes.toList).any (Tryd.prog.veiledRec ·)) && Rows.fnObjectStringConcatRow.veiledFits Tryd.prog Tryd.f12.params.toList (Tryd.f12.params.toList ++ Rows.fnObjectStringConcatSpec.plain.varTypes Tryd.prog ++ Tryd.f12.resultTypes.toList)) = true := by kernel_rfl
theorem c1 : Rows.fnObjectStringConcatRow.wfByText (OpenSpec.ofChange Rows.fnObjectStringConcatSpec) = true := by kernel_rfl
theorem c2 : Tryd.pinned.checked.prog.mainIs = some (true, "4c935907ca096f70a1351f6b71854476e8c0ef60b8d06abfca06693d9201eed1".toList) := by kernel_rfl
theorem c3 : false = Rows.fnObjectStringConcatRow.goesBy Tryd.pinned.checked.prog := by kernel_rfl
theorem c4 : ([36, 36].all fun u => !Tryd.prog.wantsStandIn u) = true := by kernel_rfl
end Go.Proofs.YtooalmhelfaodaaDoor.fnObjectStringConcat
