/- The closed facts that the row of FnEncodeStringSpec asks, each by the kernel. -/
import Derived.Test.YtbjjcampiknnpaaDoorFacts
namespace Go.Proofs.YtbjjcampiknnpaaDoor.fnEncodeStringSpec
open Go.ChangeShapes Go.WideShapes Go.ChangeAt Go.RowKit
theorem fnm : Tryd.prog.funcNamed "github.com/itchyny/gojq/n001_64.FnEncodeStringSpec" = some 3 := by kernel_rfl
theorem i1 : (Rows.fnEncodeStringSpecRow.inPlace == Tryd.prog.inPlace 3) = true := by kernel_rfl
theorem i2 : (Rows.fnEncodeStringSpecRow.unfollowed == Tryd.prog.unfollowed 3) = true := by kernel_rfl
theorem i3 : (Rows.fnEncodeStringSpecRow.recurses == Tryd.prog.recurses 3) = true := by kernel_rfl
theorem i4 : (Rows.fnEncodeStringSpecRow.named == Tryd.prog.varsNamed 3) = true := by kernel_rfl
theorem i5 : (Rows.fnEncodeStringSpecRow.wf (OpenSpec.ofChange Rows.fnEncodeStringSpecSpec) && Tryd.f3.params.all (Tryd.prog.readableRec ·) && namedTie Tryd.prog Rows.fnEncodeStringSpecRow.named Rows.fnEncodeStringSpecSpec.vars && (Rows.fnEncodeStringSpecRow.stops == []) && (Rows.fnEncodeStringSpecRow.knobs == [])) = true := by kernel_rfl
theorem i6 : ((Rows.fnEncodeStringSpecRow.maps == (Tryd.f3.params.toList ++ Rows.fnEncodeStringSpecSpec.plain.varTypes Tryd.prog).any (Tryd.prog.mapsRec ·)) && (Rows.fnEncodeStringSpecRow.ifaces == (Tryd.f3.params.toList ++ Rows.fnEncodeStringSpecSpec.plain.varTypes Tryd.prog).any (Tryd.prog.ifacesRec ·)) && (Rows.fnEncodeStringSpecRow.mapsOut == Tryd.prog.mapsAmong Tryd.f3.resultTypes.toList) && (Rows.fnEncodeStringSpecRow.loops == (Tryd.f3.params.toList ++ Rows.fnEncodeStringSpecSpec.plain.varTypes Tryd.prog).any (Tryd.prog.loopsFrom ·)) && (Rows.fnEncodeStringSpecRow.wideKeys == (Tryd.f3.params.toList ++ Rows.fnEncodeStringSpecSpec.plain.varTypes Tryd.prog ++ Tryd.f3.resultTypes.toList).any (Tryd.prog.wideKeysFrom ·))) = true := by kernel_rfl
theorem i7 : (Rows.fnEncodeStringSpecSpec.vars.all (Tryd.prog.varReadable ·) && Tryd.f3.resultTypes.all (fun t => Tryd.prog.readableRec t && decide (t < Tryd.prog.types.size)) && (Rows.fnEncodeStringSpecRow.ifacesOut == Tryd.f3.resultTypes.toList.any (Tryd.prog.ifacesRec ·)) && (Rows.fnEncodeStringSpecRow.loopsOut == Tryd.f3.resultTypes.toList.any (Tryd.prog.loopsFrom ·))) = true := by kernel_rfl
theorem i8 : ((Rows.fnEncodeStringSpecRow.lifted == Tryd.prog.liftsFinal) && (Tryd.prog.make == some Rows.fnEncodeStringSpecRow.make) && (Rows.fnEncodeStringSpecRow.pinned == Rows.fnEncodeStringSpecRow.pinnedBy) && (Rows.fnEncodeStringSpecRow.veiled == (Tryd.f3.params.toList ++ Rows.fnEncodeStringSpecSpec.plain.varTypes Tryd.prog ++ Tryd.f3.resultTypes.toList).any (Tryd.prog.veiledRec ·)) && Rows.fnEncodeStringSpecRow.veiledFits Tryd.prog Tryd.f3.params.toList (Tryd.f3.params.toList ++ Rows.fnEncodeStringSpecSpec.plain.varTypes Tryd.prog ++ Tryd.f3.resultTypes.toList)) = true := by kernel_rfl
theorem c1 : Rows.fnEncodeStringSpecRow.wfByText (OpenSpec.ofChange Rows.fnEncodeStringSpecSpec) = true := by kernel_rfl
theorem c2 : Tryd.pinned.checked.prog.mainIs = some (true, "c500e1172cdccd60f7879a2509a876b3613eaa2b03e65483fe0e872b12937a24".toList) := by kernel_rfl
theorem c3 : false = Rows.fnEncodeStringSpecRow.goesBy Tryd.pinned.checked.prog := by kernel_rfl
theorem c4 : ([9].all fun u => !Tryd.prog.wantsStandIn u) = true := by kernel_rfl
end Go.Proofs.YtbjjcampiknnpaaDoor.fnEncodeStringSpec
