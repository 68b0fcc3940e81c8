/-
  DERIVED. GIVEN WITH THE SEED: THE CARDS: each row of YtbjjcampiknnpaaDoorRows.lean that lists a variable, with what it lists TIED to the program's text (the seventh form; the later family's looks); each row that meets fmt, with fmt's text TOLD by the authors' own Lean function (tested against real Go, not proved from fmt's source: count such statements apart). THE CARD IS WHAT COUNTS. Prove the row's statement (the work); the ties are given (YtbjjcampiknnpaaDoorTie.lean); close each card by the builder's one call (the guide's Derived/Test/ToyasCard.lean, 'card_holds'). Laid BY PROGRAM, IN A SANDBOX (cutbox-door.mjs). By AI agents, Wed Nov 11 2026. No macro, syntax, notation, axiom, sorry.
-/
import Derived.Test.YtbjjcampiknnpaaDoorRows
import GoSem.ClaimSeven
namespace Go.Proofs.YtbjjcampiknnpaaDoor
namespace Rows

/-- THE TIED CARD OF 'n001_64.FnEncodeStringSpec'. -/
def fnEncodeStringSpecCard : Claim7 := { stood := { row := fnEncodeStringSpecRow, standIns := [], harness := (true, "c500e1172cdccd60f7879a2509a876b3613eaa2b03e65483fe0e872b12937a24"), looks := false }, kinds := [], alts := [], laidByText := true, laidKinds := [.data, .pinned], laidTests := true, laidLooks := .later }
def FnEncodeStringSpecCardSaid : Prop := Claim7.holds Tryd.pinned (.plain (OpenSpec.ofChange fnEncodeStringSpecSpec)) fnEncodeStringSpecCard

/-- THE TIED CARD OF 'n001_65.FnKeyValStringExact'. -/
def fnKeyValStringExactCard : Claim7 := { stood := { row := fnKeyValStringExactRow, standIns := [], harness := (true, "c500e1172cdccd60f7879a2509a876b3613eaa2b03e65483fe0e872b12937a24"), looks := false }, kinds := [], alts := [], laidByText := true, laidKinds := [.data, .pinned], laidTests := true, laidLooks := .later }
def FnKeyValStringExactCardSaid : Prop := Claim7.holds Tryd.pinned (.plain (OpenSpec.ofChange fnKeyValStringExactSpec)) fnKeyValStringExactCard

/-- THE TIED CARD OF 'n001_65.FnKeyValWriteToAfterAnyPrefix'. -/
def fnKeyValWriteToAfterAnyPrefixCard : Claim7 := { stood := { row := fnKeyValWriteToAfterAnyPrefixRow, standIns := [], harness := (true, "c500e1172cdccd60f7879a2509a876b3613eaa2b03e65483fe0e872b12937a24"), looks := false }, kinds := [], alts := [], laidByText := true, laidKinds := [.data, .pinned], laidTests := true, laidLooks := .later }
def FnKeyValWriteToAfterAnyPrefixCardSaid : Prop := Claim7.holds Tryd.pinned (.plain (OpenSpec.ofChange fnKeyValWriteToAfterAnyPrefixSpec)) fnKeyValWriteToAfterAnyPrefixCard

/-- THE TIED CARD OF 'n001_65.FnKeyValWriteToSequential'. -/
def fnKeyValWriteToSequentialCard : Claim7 := { stood := { row := fnKeyValWriteToSequentialRow, standIns := [], harness := (true, "c500e1172cdccd60f7879a2509a876b3613eaa2b03e65483fe0e872b12937a24"), looks := false }, kinds := [], alts := [], laidByText := true, laidKinds := [.data, .pinned], laidTests := true, laidLooks := .later }
def FnKeyValWriteToSequentialCardSaid : Prop := Claim7.holds Tryd.pinned (.plain (OpenSpec.ofChange fnKeyValWriteToSequentialSpec)) fnKeyValWriteToSequentialCard

/-- THE TIED CARD OF 'n001_65.FnKeyValStringKeyChoice'. -/
def fnKeyValStringKeyChoiceCard : Claim7 := { stood := { row := fnKeyValStringKeyChoiceRow, standIns := [], harness := (true, "c500e1172cdccd60f7879a2509a876b3613eaa2b03e65483fe0e872b12937a24"), looks := false }, kinds := [], alts := [], laidByText := true, laidKinds := [.data, .pinned], laidTests := true, laidLooks := .later }
def FnKeyValStringKeyChoiceCardSaid : Prop := Claim7.holds Tryd.pinned (.plain (OpenSpec.ofChange fnKeyValStringKeyChoiceSpec)) fnKeyValStringKeyChoiceCard

/-- THE TIED CARD OF 'n001_64.FnEncodeStringRoundTrip'. -/
def fnEncodeStringRoundTripCard : Claim7 := { stood := { row := fnEncodeStringRoundTripRow, standIns := [], harness := (true, "c500e1172cdccd60f7879a2509a876b3613eaa2b03e65483fe0e872b12937a24"), looks := false }, kinds := [], alts := [], laidByText := true, laidKinds := [.data, .pinned], laidTests := true, laidLooks := .later }
def FnEncodeStringRoundTripCardSaid : Prop := Claim7.holds Tryd.pinned (.plain (OpenSpec.ofChange fnEncodeStringRoundTripSpec)) fnEncodeStringRoundTripCard

/-- THE TIED CARD OF 'n001_65.FnConstArrayStringConcat'. -/
def fnConstArrayStringConcatCard : Claim7 := { stood := { row := fnConstArrayStringConcatRow, standIns := [], harness := (true, "c500e1172cdccd60f7879a2509a876b3613eaa2b03e65483fe0e872b12937a24"), looks := false }, kinds := [], alts := [], laidByText := true, laidKinds := [.data, .pinned], laidTests := true, laidLooks := .later }
def FnConstArrayStringConcatCardSaid : Prop := Claim7.holds Tryd.pinned (.plain (OpenSpec.ofChange fnConstArrayStringConcatSpec)) fnConstArrayStringConcatCard

/-- THE SECOND FORM's CARD OF 'n001_64.FnEncodeStringSpec'. -/
def fnEncodeStringSpecUptoCard : Claim7 := { stood := { row := fnEncodeStringSpecUptoRow, standIns := [], harness := (true, "c500e1172cdccd60f7879a2509a876b3613eaa2b03e65483fe0e872b12937a24"), looks := false }, kinds := [], alts := [], laidByText := true, laidKinds := [.data, .pinned], laidTests := true, laidLooks := .later }
def FnEncodeStringSpecUptoCardSaid : Prop := Claim7.holds Tryd.pinned (.plain (OpenSpec.upto fnEncodeStringSpecSpec)) fnEncodeStringSpecUptoCard

/-- THE SECOND FORM's CARD OF 'n001_65.FnKeyValStringExact'. -/
def fnKeyValStringExactUptoCard : Claim7 := { stood := { row := fnKeyValStringExactUptoRow, standIns := [], harness := (true, "c500e1172cdccd60f7879a2509a876b3613eaa2b03e65483fe0e872b12937a24"), looks := false }, kinds := [], alts := [], laidByText := true, laidKinds := [.data, .pinned], laidTests := true, laidLooks := .later }
def FnKeyValStringExactUptoCardSaid : Prop := Claim7.holds Tryd.pinned (.plain (OpenSpec.upto fnKeyValStringExactSpec)) fnKeyValStringExactUptoCard

/-- THE SECOND FORM's CARD OF 'n001_65.FnKeyValWriteToAfterAnyPrefix'. -/
def fnKeyValWriteToAfterAnyPrefixUptoCard : Claim7 := { stood := { row := fnKeyValWriteToAfterAnyPrefixUptoRow, standIns := [], harness := (true, "c500e1172cdccd60f7879a2509a876b3613eaa2b03e65483fe0e872b12937a24"), looks := false }, kinds := [], alts := [], laidByText := true, laidKinds := [.data, .pinned], laidTests := true, laidLooks := .later }
def FnKeyValWriteToAfterAnyPrefixUptoCardSaid : Prop := Claim7.holds Tryd.pinned (.plain (OpenSpec.upto fnKeyValWriteToAfterAnyPrefixSpec)) fnKeyValWriteToAfterAnyPrefixUptoCard

/-- THE SECOND FORM's CARD OF 'n001_65.FnKeyValWriteToSequential'. -/
def fnKeyValWriteToSequentialUptoCard : Claim7 := { stood := { row := fnKeyValWriteToSequentialUptoRow, standIns := [], harness := (true, "c500e1172cdccd60f7879a2509a876b3613eaa2b03e65483fe0e872b12937a24"), looks := false }, kinds := [], alts := [], laidByText := true, laidKinds := [.data, .pinned], laidTests := true, laidLooks := .later }
def FnKeyValWriteToSequentialUptoCardSaid : Prop := Claim7.holds Tryd.pinned (.plain (OpenSpec.upto fnKeyValWriteToSequentialSpec)) fnKeyValWriteToSequentialUptoCard

/-- THE SECOND FORM's CARD OF 'n001_65.FnKeyValStringKeyChoice'. -/
def fnKeyValStringKeyChoiceUptoCard : Claim7 := { stood := { row := fnKeyValStringKeyChoiceUptoRow, standIns := [], harness := (true, "c500e1172cdccd60f7879a2509a876b3613eaa2b03e65483fe0e872b12937a24"), looks := false }, kinds := [], alts := [], laidByText := true, laidKinds := [.data, .pinned], laidTests := true, laidLooks := .later }
def FnKeyValStringKeyChoiceUptoCardSaid : Prop := Claim7.holds Tryd.pinned (.plain (OpenSpec.upto fnKeyValStringKeyChoiceSpec)) fnKeyValStringKeyChoiceUptoCard

/-- THE SECOND FORM's CARD OF 'n001_64.FnEncodeStringRoundTrip'. -/
def fnEncodeStringRoundTripUptoCard : Claim7 := { stood := { row := fnEncodeStringRoundTripUptoRow, standIns := [], harness := (true, "c500e1172cdccd60f7879a2509a876b3613eaa2b03e65483fe0e872b12937a24"), looks := false }, kinds := [], alts := [], laidByText := true, laidKinds := [.data, .pinned], laidTests := true, laidLooks := .later }
def FnEncodeStringRoundTripUptoCardSaid : Prop := Claim7.holds Tryd.pinned (.plain (OpenSpec.upto fnEncodeStringRoundTripSpec)) fnEncodeStringRoundTripUptoCard

/-- THE SECOND FORM's CARD OF 'n001_65.FnConstArrayStringConcat'. -/
def fnConstArrayStringConcatUptoCard : Claim7 := { stood := { row := fnConstArrayStringConcatUptoRow, standIns := [], harness := (true, "c500e1172cdccd60f7879a2509a876b3613eaa2b03e65483fe0e872b12937a24"), looks := false }, kinds := [], alts := [], laidByText := true, laidKinds := [.data, .pinned], laidTests := true, laidLooks := .later }
def FnConstArrayStringConcatUptoCardSaid : Prop := Claim7.holds Tryd.pinned (.plain (OpenSpec.upto fnConstArrayStringConcatSpec)) fnConstArrayStringConcatUptoCard
end Rows
end Go.Proofs.YtbjjcampiknnpaaDoor
