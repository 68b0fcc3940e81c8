/- The closed facts that the row of FnObjectWriteToAppends asks, each by the kernel. -/
import Derived.Test.YtooalmhelfaodaaDoorFacts
namespace Go.Proofs.YtooalmhelfaodaaDoor.fnObjectWriteToAppends
open Go.ChangeShapes Go.WideShapes Go.ChangeAt Go.RowKit
theorem fnm : Tryd.prog.funcNamed "github.com/itchyny/gojq/n001_7.FnObjectWriteToAppends" = some 7 := by kernel_rfl
theorem i1 : (Rows.fnObjectWriteToAppendsRow.inPlace == Tryd.prog.inPlace 7) = true := by kernel_rfl
theorem i2 : (Rows.fnObjectWriteToAppendsRow.unfollowed == Tryd.prog.unfollowed 7) = true := by kernel_rfl
theorem i3 : (Rows.fnObjectWriteToAppendsRow.recurses == Tryd.prog.recurses 7) = true := by kernel_rfl
theorem i4 : (Rows.fnObjectWriteToAppendsRow.named == Tryd.prog.varsNamed 7) = true := by kernel_rfl
theorem i5 : (Rows.fnObjectWriteToAppendsRow.wf (OpenSpec.ofChange Rows.fnObjectWriteToAppendsSpec) && Tryd.f7.params.all (Tryd.prog.readableRec ·) && namedTie Tryd.prog Rows.fnObjectWriteToAppendsRow.named Rows.fnObjectWriteToAppendsSpec.vars && (Rows.fnObjectWriteToAppendsRow.stops == []) && (Rows.fnObjectWriteToAppendsRow.knobs == [])) = true := by kernel_rfl
theorem i6 : ((Rows.fnObjectWriteToAppendsRow.maps == (Tryd.f7.params.toList ++ Rows.fnObjectWriteToAppendsSpec.plain.varTypes Tryd.prog).any (Tryd.prog.mapsRec ·)) && (Rows.fnObjectWriteToAppendsRow.ifaces == (Tryd.f7.params.toList ++ Rows.fnObjectWriteToAppendsSpec.plain.varTypes Tryd.prog).any (Tryd.prog.ifacesRec ·)) && (Rows.fnObjectWriteToAppendsRow.mapsOut == Tryd.prog.mapsAmong Tryd.f7.resultTypes.toList) && (Rows.fnObjectWriteToAppendsRow.loops == (Tryd.f7.params.toList ++ Rows.fnObjectWriteToAppendsSpec.plain.varTypes Tryd.prog).any (Tryd.prog.loopsFrom ·)) && (Rows.fnObjectWriteToAppendsRow.wideKeys == (Tryd.f7.params.toList ++ Rows.fnObjectWriteToAppendsSpec.plain.varTypes Tryd.prog ++ Tryd.f7.resultTypes.toList).any (Tryd.prog.wideKeysFrom ·))) = true := by kernel_rfl
theorem i7 : (Rows.fnObjectWriteToAppendsSpec.vars.all (Tryd.prog.varReadable ·) && Tryd.f7.resultTypes.all (fun t => Tryd.prog.readableRec t && decide (t < Tryd.prog.types.size)) && (Rows.fnObjectWriteToAppendsRow.ifacesOut == Tryd.f7.resultTypes.toList.any (Tryd.prog.ifacesRec ·)) && (Rows.fnObjectWriteToAppendsRow.loopsOut == Tryd.f7.resultTypes.toList.any (Tryd.prog.loopsFrom ·))) = true := by kernel_rfl
theorem i8 : ((Rows.fnObjectWriteToAppendsRow.lifted == Tryd.prog.liftsFinal) && (Tryd.prog.make == some Rows.fnObjectWriteToAppendsRow.make) && (Rows.fnObjectWriteToAppendsRow.pinned == Rows.fnObjectWriteToAppendsRow.pinnedBy) && (Rows.fnObjectWriteToAppendsRow.veiled == (Tryd.f7.params.toList ++ Rows.fnObjectWriteToAppendsSpec.plain.varTypes Tryd.prog ++ Tryd.f7.resultTypes.toList).any (Tryd.prog.veiledRec ·)) && Rows.fnObjectWriteToAppendsRow.veiledFits Tryd.prog Tryd.f7.params.toList (Tryd.f7.params.toList ++ Rows.fnObjectWriteToAppendsSpec.plain.varTypes Tryd.prog ++ Tryd.f7.resultTypes.toList)) = true := by kernel_rfl
theorem c1 : Rows.fnObjectWriteToAppendsRow.wfByText (OpenSpec.ofChange Rows.fnObjectWriteToAppendsSpec) = true := by kernel_rfl
theorem c2 : Tryd.pinned.checked.prog.mainIs = some (true, "4c935907ca096f70a1351f6b71854476e8c0ef60b8d06abfca06693d9201eed1".toList) := by kernel_rfl
theorem c3 : false = Rows.fnObjectWriteToAppendsRow.goesBy Tryd.pinned.checked.prog := by kernel_rfl
theorem c4 : ([36, 9].all fun u => !Tryd.prog.wantsStandIn u) = true := by kernel_rfl
end Go.Proofs.YtooalmhelfaodaaDoor.fnObjectWriteToAppends
