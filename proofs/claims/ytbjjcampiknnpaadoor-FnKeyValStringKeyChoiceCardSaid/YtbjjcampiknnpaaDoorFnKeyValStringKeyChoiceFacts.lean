/- The closed facts that the row of FnKeyValStringKeyChoice asks, each by the kernel. -/
import Derived.Test.YtbjjcampiknnpaaDoorFacts
namespace Go.Proofs.YtbjjcampiknnpaaDoor.fnKeyValStringKeyChoice
open Go.ChangeShapes Go.WideShapes Go.ChangeAt Go.RowKit
theorem fnm : Tryd.prog.funcNamed "github.com/itchyny/gojq/n001_65.FnKeyValStringKeyChoice" = some 7 := by kernel_rfl
theorem i1 : (Rows.fnKeyValStringKeyChoiceRow.inPlace == Tryd.prog.inPlace 7) = true := by kernel_rfl
theorem i2 : (Rows.fnKeyValStringKeyChoiceRow.unfollowed == Tryd.prog.unfollowed 7) = true := by kernel_rfl
theorem i3 : (Rows.fnKeyValStringKeyChoiceRow.recurses == Tryd.prog.recurses 7) = true := by kernel_rfl
theorem i4 : (Rows.fnKeyValStringKeyChoiceRow.named == Tryd.prog.varsNamed 7) = true := by kernel_rfl
theorem i5 : (Rows.fnKeyValStringKeyChoiceRow.wf (OpenSpec.ofChange Rows.fnKeyValStringKeyChoiceSpec) && Tryd.f7.params.all (Tryd.prog.readableRec ·) && namedTie Tryd.prog Rows.fnKeyValStringKeyChoiceRow.named Rows.fnKeyValStringKeyChoiceSpec.vars && (Rows.fnKeyValStringKeyChoiceRow.stops == []) && (Rows.fnKeyValStringKeyChoiceRow.knobs == [])) = true := by kernel_rfl
theorem i6 : ((Rows.fnKeyValStringKeyChoiceRow.maps == (Tryd.f7.params.toList ++ Rows.fnKeyValStringKeyChoiceSpec.plain.varTypes Tryd.prog).any (Tryd.prog.mapsRec ·)) && (Rows.fnKeyValStringKeyChoiceRow.ifaces == (Tryd.f7.params.toList ++ Rows.fnKeyValStringKeyChoiceSpec.plain.varTypes Tryd.prog).any (Tryd.prog.ifacesRec ·)) && (Rows.fnKeyValStringKeyChoiceRow.mapsOut == Tryd.prog.mapsAmong Tryd.f7.resultTypes.toList) && (Rows.fnKeyValStringKeyChoiceRow.loops == (Tryd.f7.params.toList ++ Rows.fnKeyValStringKeyChoiceSpec.plain.varTypes Tryd.prog).any (Tryd.prog.loopsFrom ·)) && (Rows.fnKeyValStringKeyChoiceRow.wideKeys == (Tryd.f7.params.toList ++ Rows.fnKeyValStringKeyChoiceSpec.plain.varTypes Tryd.prog ++ Tryd.f7.resultTypes.toList).any (Tryd.prog.wideKeysFrom ·))) = true := by kernel_rfl
theorem i7 : (Rows.fnKeyValStringKeyChoiceSpec.vars.all (Tryd.prog.varReadable ·) && Tryd.f7.resultTypes.all (fun t => Tryd.prog.readableRec t && decide (t < Tryd.prog.types.size)) && (Rows.fnKeyValStringKeyChoiceRow.ifacesOut == Tryd.f7.resultTypes.toList.any (Tryd.prog.ifacesRec ·)) && (Rows.fnKeyValStringKeyChoiceRow.loopsOut == Tryd.f7.resultTypes.toList.any (Tryd.prog.loopsFrom ·))) = true := by kernel_rfl
theorem i8 : ((Rows.fnKeyValStringKeyChoiceRow.lifted == Tryd.prog.liftsFinal) && (Tryd.prog.make == some Rows.fnKeyValStringKeyChoiceRow.make) && (Rows.fnKeyValStringKeyChoiceRow.pinned == Rows.fnKeyValStringKeyChoiceRow.pinnedBy) && (Rows.fnKeyValStringKeyChoiceRow.veiled == (Tryd.f7.params.toList ++ Rows.fnKeyValStringKeyChoiceSpec.plain.varTypes Tryd.prog ++ Tryd.f7.resultTypes.toList).any (Tryd.prog.veiledRec ·)) && Rows.fnKeyValStringKeyChoiceRow.veiledFits Tryd.prog Tryd.f7.params.toList (Tryd.f7.params.toList ++ Rows.fnKeyValStringKeyChoiceSpec.plain.varTypes Tryd.prog ++ Tryd.f7.resultTypes.toList)) = true := by kernel_rfl
theorem c1 : Rows.fnKeyValStringKeyChoiceRow.wfByText (OpenSpec.ofChange Rows.fnKeyValStringKeyChoiceSpec) = true := by kernel_rfl
theorem c2 : Tryd.pinned.checked.prog.mainIs = some (true, "c500e1172cdccd60f7879a2509a876b3613eaa2b03e65483fe0e872b12937a24".toList) := by kernel_rfl
theorem c3 : false = Rows.fnKeyValStringKeyChoiceRow.goesBy Tryd.pinned.checked.prog := by kernel_rfl
theorem c4 : ([9, 9, 9, 26].all fun u => !Tryd.prog.wantsStandIn u) = true := by kernel_rfl
end Go.Proofs.YtbjjcampiknnpaaDoor.fnKeyValStringKeyChoice
