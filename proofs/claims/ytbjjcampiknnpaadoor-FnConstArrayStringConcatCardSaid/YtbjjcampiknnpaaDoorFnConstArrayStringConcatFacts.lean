/- The closed facts that the row of FnConstArrayStringConcat asks, each by the kernel. -/
import Derived.Test.YtbjjcampiknnpaaDoorFacts
namespace Go.Proofs.YtbjjcampiknnpaaDoor.fnConstArrayStringConcat
open Go.ChangeShapes Go.WideShapes Go.ChangeAt Go.RowKit
theorem fnm : Tryd.prog.funcNamed "github.com/itchyny/gojq/n001_65.FnConstArrayStringConcat" = some 9 := by kernel_rfl
theorem i1 : (Rows.fnConstArrayStringConcatRow.inPlace == Tryd.prog.inPlace 9) = true := by kernel_rfl
theorem i2 : (Rows.fnConstArrayStringConcatRow.unfollowed == Tryd.prog.unfollowed 9) = true := by kernel_rfl
theorem i3 : (Rows.fnConstArrayStringConcatRow.recurses == Tryd.prog.recurses 9) = true := by kernel_rfl
theorem i4 : (Rows.fnConstArrayStringConcatRow.named == Tryd.prog.varsNamed 9) = true := by kernel_rfl
theorem i5 : (Rows.fnConstArrayStringConcatRow.wf (OpenSpec.ofChange Rows.fnConstArrayStringConcatSpec) && Tryd.f9.params.all (Tryd.prog.readableRec ·) && namedTie Tryd.prog Rows.fnConstArrayStringConcatRow.named Rows.fnConstArrayStringConcatSpec.vars && (Rows.fnConstArrayStringConcatRow.stops == []) && (Rows.fnConstArrayStringConcatRow.knobs == [])) = true := by kernel_rfl
theorem i6 : ((Rows.fnConstArrayStringConcatRow.maps == (Tryd.f9.params.toList ++ Rows.fnConstArrayStringConcatSpec.plain.varTypes Tryd.prog).any (Tryd.prog.mapsRec ·)) && (Rows.fnConstArrayStringConcatRow.ifaces == (Tryd.f9.params.toList ++ Rows.fnConstArrayStringConcatSpec.plain.varTypes Tryd.prog).any (Tryd.prog.ifacesRec ·)) && (Rows.fnConstArrayStringConcatRow.mapsOut == Tryd.prog.mapsAmong Tryd.f9.resultTypes.toList) && (Rows.fnConstArrayStringConcatRow.loops == (Tryd.f9.params.toList ++ Rows.fnConstArrayStringConcatSpec.plain.varTypes Tryd.prog).any (Tryd.prog.loopsFrom ·)) && (Rows.fnConstArrayStringConcatRow.wideKeys == (Tryd.f9.params.toList ++ Rows.fnConstArrayStringConcatSpec.plain.varTypes Tryd.prog ++ Tryd.f9.resultTypes.toList).any (Tryd.prog.wideKeysFrom ·))) = true := by kernel_rfl
theorem i7 : (Rows.fnConstArrayStringConcatSpec.vars.all (Tryd.prog.varReadable ·) && Tryd.f9.resultTypes.all (fun t => Tryd.prog.readableRec t && decide (t < Tryd.prog.types.size)) && (Rows.fnConstArrayStringConcatRow.ifacesOut == Tryd.f9.resultTypes.toList.any (Tryd.prog.ifacesRec ·)) && (Rows.fnConstArrayStringConcatRow.loopsOut == Tryd.f9.resultTypes.toList.any (Tryd.prog.loopsFrom ·))) = true := by kernel_rfl
theorem i8 : ((Rows.fnConstArrayStringConcatRow.lifted == Tryd.prog.liftsFinal) && (Tryd.prog.make == some Rows.fnConstArrayStringConcatRow.make) && (Rows.fnConstArrayStringConcatRow.pinned == Rows.fnConstArrayStringConcatRow.pinnedBy) && (Rows.fnConstArrayStringConcatRow.veiled == (Tryd.f9.params.toList ++ Rows.fnConstArrayStringConcatSpec.plain.varTypes Tryd.prog ++ Tryd.f9.resultTypes.toList).any (Tryd.prog.veiledRec ·)) && Rows.fnConstArrayStringConcatRow.veiledFits Tryd.prog Tryd.f9.params.toList (Tryd.f9.params.toList ++ Rows.fnConstArrayStringConcatSpec.plain.varTypes Tryd.prog ++ Tryd.f9.resultTypes.toList)) = true := by kernel_rfl
theorem c1 : Rows.fnConstArrayStringConcatRow.wfByText (OpenSpec.ofChange Rows.fnConstArrayStringConcatSpec) = true := by kernel_rfl
theorem c2 : Tryd.pinned.checked.prog.mainIs = some (true, "c500e1172cdccd60f7879a2509a876b3613eaa2b03e65483fe0e872b12937a24".toList) := by kernel_rfl
theorem c3 : false = Rows.fnConstArrayStringConcatRow.goesBy Tryd.pinned.checked.prog := by kernel_rfl
theorem c4 : ([40, 40].all fun u => !Tryd.prog.wantsStandIn u) = true := by kernel_rfl
end Go.Proofs.YtbjjcampiknnpaaDoor.fnConstArrayStringConcat
