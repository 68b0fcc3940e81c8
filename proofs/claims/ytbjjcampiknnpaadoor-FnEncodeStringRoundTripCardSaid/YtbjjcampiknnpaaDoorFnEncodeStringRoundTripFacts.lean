/- The closed facts that the row of FnEncodeStringRoundTrip asks, each by the kernel. -/
import Derived.Test.YtbjjcampiknnpaaDoorFacts
namespace Go.Proofs.YtbjjcampiknnpaaDoor.fnEncodeStringRoundTrip
open Go.ChangeShapes Go.WideShapes Go.ChangeAt Go.RowKit
theorem fnm : Tryd.prog.funcNamed "github.com/itchyny/gojq/n001_64.FnEncodeStringRoundTrip" = some 8 := by kernel_rfl
theorem i1 : (Rows.fnEncodeStringRoundTripRow.inPlace == Tryd.prog.inPlace 8) = true := by kernel_rfl
theorem i2 : (Rows.fnEncodeStringRoundTripRow.unfollowed == Tryd.prog.unfollowed 8) = true := by kernel_rfl
theorem i3 : (Rows.fnEncodeStringRoundTripRow.recurses == Tryd.prog.recurses 8) = true := by kernel_rfl
theorem i4 : (Rows.fnEncodeStringRoundTripRow.named == Tryd.prog.varsNamed 8) = true := by kernel_rfl
theorem i5 : (Rows.fnEncodeStringRoundTripRow.wf (OpenSpec.ofChange Rows.fnEncodeStringRoundTripSpec) && Tryd.f8.params.all (Tryd.prog.readableRec ·) && namedTie Tryd.prog Rows.fnEncodeStringRoundTripRow.named Rows.fnEncodeStringRoundTripSpec.vars && (Rows.fnEncodeStringRoundTripRow.stops == []) && (Rows.fnEncodeStringRoundTripRow.knobs == [])) = true := by kernel_rfl
theorem i6 : ((Rows.fnEncodeStringRoundTripRow.maps == (Tryd.f8.params.toList ++ Rows.fnEncodeStringRoundTripSpec.plain.varTypes Tryd.prog).any (Tryd.prog.mapsRec ·)) && (Rows.fnEncodeStringRoundTripRow.ifaces == (Tryd.f8.params.toList ++ Rows.fnEncodeStringRoundTripSpec.plain.varTypes Tryd.prog).any (Tryd.prog.ifacesRec ·)) && (Rows.fnEncodeStringRoundTripRow.mapsOut == Tryd.prog.mapsAmong Tryd.f8.resultTypes.toList) && (Rows.fnEncodeStringRoundTripRow.loops == (Tryd.f8.params.toList ++ Rows.fnEncodeStringRoundTripSpec.plain.varTypes Tryd.prog).any (Tryd.prog.loopsFrom ·)) && (Rows.fnEncodeStringRoundTripRow.wideKeys == (Tryd.f8.params.toList ++ Rows.fnEncodeStringRoundTripSpec.plain.varTypes Tryd.prog ++ Tryd.f8.resultTypes.toList).any (Tryd.prog.wideKeysFrom ·))) = true := by kernel_rfl
theorem i7 : (Rows.fnEncodeStringRoundTripSpec.vars.all (Tryd.prog.varReadable ·) && Tryd.f8.resultTypes.all (fun t => Tryd.prog.readableRec t && decide (t < Tryd.prog.types.size)) && (Rows.fnEncodeStringRoundTripRow.ifacesOut == Tryd.f8.resultTypes.toList.any (Tryd.prog.ifacesRec ·)) && (Rows.fnEncodeStringRoundTripRow.loopsOut == Tryd.f8.resultTypes.toList.any (Tryd.prog.loopsFrom ·))) = true := by kernel_rfl
theorem i8 : ((Rows.fnEncodeStringRoundTripRow.lifted == Tryd.prog.liftsFinal) && (Tryd.prog.make == some Rows.fnEncodeStringRoundTripRow.make) && (Rows.fnEncodeStringRoundTripRow.pinned == Rows.fnEncodeStringRoundTripRow.pinnedBy) && (Rows.fnEncodeStringRoundTripRow.veiled == (Tryd.f8.params.toList ++ Rows.fnEncodeStringRoundTripSpec.plain.varTypes Tryd.prog ++ Tryd.f8.resultTypes.toList).any (Tryd.prog.veiledRec ·)) && Rows.fnEncodeStringRoundTripRow.veiledFits Tryd.prog Tryd.f8.params.toList (Tryd.f8.params.toList ++ Rows.fnEncodeStringRoundTripSpec.plain.varTypes Tryd.prog ++ Tryd.f8.resultTypes.toList)) = true := by kernel_rfl
theorem c1 : Rows.fnEncodeStringRoundTripRow.wfByText (OpenSpec.ofChange Rows.fnEncodeStringRoundTripSpec) = true := by kernel_rfl
theorem c2 : Tryd.pinned.checked.prog.mainIs = some (true, "c500e1172cdccd60f7879a2509a876b3613eaa2b03e65483fe0e872b12937a24".toList) := by kernel_rfl
theorem c3 : false = Rows.fnEncodeStringRoundTripRow.goesBy Tryd.pinned.checked.prog := by kernel_rfl
theorem c4 : ([9].all fun u => !Tryd.prog.wantsStandIn u) = true := by kernel_rfl
end Go.Proofs.YtbjjcampiknnpaaDoor.fnEncodeStringRoundTrip
