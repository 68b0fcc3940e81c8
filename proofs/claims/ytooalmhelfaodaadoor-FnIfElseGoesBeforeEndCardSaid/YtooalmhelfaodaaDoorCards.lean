/-
  DERIVED. GIVEN WITH THE SEED: THE CARDS: each row of YtooalmhelfaodaaDoorRows.lean that lists a variable, with what it lists TIED to the program's text (the seventh form; the later family's looks); each row that meets fmt, with fmt's text TOLD by the authors' own Lean function (tested against real Go, not proved from fmt's source: count such statements apart). THE CARD IS WHAT COUNTS. Prove the row's statement (the work); the ties are given (YtooalmhelfaodaaDoorTie.lean); close each card by the builder's one call (the guide's Derived/Test/ToyasCard.lean, 'card_holds'). Laid BY PROGRAM, IN A SANDBOX (cutbox-door.mjs). By AI agents, Wed Nov 11 2026. No macro, syntax, notation, axiom, sorry.
-/
import Derived.Test.YtooalmhelfaodaaDoorRows
import GoSem.ClaimSeven
namespace Go.Proofs.YtooalmhelfaodaaDoor
namespace Rows

/-- THE TIED CARD OF 'n001_7.FnObjectKeyValStringTable'. -/
def fnObjectKeyValStringTableCard : Claim7 := { stood := { row := fnObjectKeyValStringTableRow, standIns := [], harness := (true, "4c935907ca096f70a1351f6b71854476e8c0ef60b8d06abfca06693d9201eed1"), looks := false }, kinds := [], alts := [], laidByText := true, laidKinds := [.data, .pinned], laidTests := true, laidLooks := .later }
def FnObjectKeyValStringTableCardSaid : Prop := Claim7.holds Tryd.pinned (.plain (OpenSpec.ofChange fnObjectKeyValStringTableSpec)) fnObjectKeyValStringTableCard

/-- THE TIED CARD OF 'n001_7.FnObjectKeyValAgreesWithObject'. -/
def fnObjectKeyValAgreesWithObjectCard : Claim7 := { stood := { row := fnObjectKeyValAgreesWithObjectRow, standIns := [], harness := (true, "4c935907ca096f70a1351f6b71854476e8c0ef60b8d06abfca06693d9201eed1"), looks := false }, kinds := [], alts := [], laidByText := true, laidKinds := [.data, .pinned], laidTests := true, laidLooks := .later }
def FnObjectKeyValAgreesWithObjectCardSaid : Prop := Claim7.holds Tryd.pinned (.plain (OpenSpec.ofChange fnObjectKeyValAgreesWithObjectSpec)) fnObjectKeyValAgreesWithObjectCard

/-- THE TIED CARD OF 'n001_7.FnObjectKeyValWriteToAppends'. -/
def fnObjectKeyValWriteToAppendsCard : Claim7 := { stood := { row := fnObjectKeyValWriteToAppendsRow, standIns := [], harness := (true, "4c935907ca096f70a1351f6b71854476e8c0ef60b8d06abfca06693d9201eed1"), looks := false }, kinds := [], alts := [], laidByText := true, laidKinds := [.data, .pinned], laidTests := true, laidLooks := .later }
def FnObjectKeyValWriteToAppendsCardSaid : Prop := Claim7.holds Tryd.pinned (.plain (OpenSpec.ofChange fnObjectKeyValWriteToAppendsSpec)) fnObjectKeyValWriteToAppendsCard

/-- THE TIED CARD OF 'n001_7.FnObjectStringModel'. -/
def fnObjectStringModelCard : Claim7 := { stood := { row := fnObjectStringModelRow, standIns := [], harness := (true, "4c935907ca096f70a1351f6b71854476e8c0ef60b8d06abfca06693d9201eed1"), looks := false }, kinds := [], alts := [], laidByText := true, laidKinds := [.data, .pinned], laidTests := true, laidLooks := .later }
def FnObjectStringModelCardSaid : Prop := Claim7.holds Tryd.pinned (.plain (OpenSpec.ofChange fnObjectStringModelSpec)) fnObjectStringModelCard

/-- THE TIED CARD OF 'n001_7.FnObjectWriteToAppends'. -/
def fnObjectWriteToAppendsCard : Claim7 := { stood := { row := fnObjectWriteToAppendsRow, standIns := [], harness := (true, "4c935907ca096f70a1351f6b71854476e8c0ef60b8d06abfca06693d9201eed1"), looks := false }, kinds := [], alts := [], laidByText := true, laidKinds := [.data, .pinned], laidTests := true, laidLooks := .later }
def FnObjectWriteToAppendsCardSaid : Prop := Claim7.holds Tryd.pinned (.plain (OpenSpec.ofChange fnObjectWriteToAppendsSpec)) fnObjectWriteToAppendsCard

/-- THE TIED CARD OF 'n001_56.FnIfWriteToTwiceIsStringTwice'. -/
def fnIfWriteToTwiceIsStringTwiceCard : Claim7 := { stood := { row := fnIfWriteToTwiceIsStringTwiceRow, standIns := [], harness := (true, "4c935907ca096f70a1351f6b71854476e8c0ef60b8d06abfca06693d9201eed1"), looks := false }, kinds := [], alts := [], laidByText := true, laidKinds := [.data, .pinned], laidTests := true, laidLooks := .later }
def FnIfWriteToTwiceIsStringTwiceCardSaid : Prop := Claim7.holds Tryd.pinned (.plain (OpenSpec.ofChange fnIfWriteToTwiceIsStringTwiceSpec)) fnIfWriteToTwiceIsStringTwiceCard

/-- THE TIED CARD OF 'n001_63.FnQueryWriteToFlatModel'. -/
def fnQueryWriteToFlatModelCard : Claim7 := { stood := { row := fnQueryWriteToFlatModelRow, standIns := [], harness := (true, "4c935907ca096f70a1351f6b71854476e8c0ef60b8d06abfca06693d9201eed1"), looks := false }, kinds := [], alts := [], laidByText := true, laidKinds := [.data, .pinned], laidTests := true, laidLooks := .later }
def FnQueryWriteToFlatModelCardSaid : Prop := Claim7.holds Tryd.pinned (.plain (OpenSpec.ofChange fnQueryWriteToFlatModelSpec)) fnQueryWriteToFlatModelCard

/-- THE TIED CARD OF 'n001_56.FnIfElseGoesBeforeEnd'. -/
def fnIfElseGoesBeforeEndCard : Claim7 := { stood := { row := fnIfElseGoesBeforeEndRow, standIns := [], harness := (true, "4c935907ca096f70a1351f6b71854476e8c0ef60b8d06abfca06693d9201eed1"), looks := false }, kinds := [], alts := [], laidByText := true, laidKinds := [.data, .pinned], laidTests := true, laidLooks := .later }
def FnIfElseGoesBeforeEndCardSaid : Prop := Claim7.holds Tryd.pinned (.plain (OpenSpec.ofChange fnIfElseGoesBeforeEndSpec)) fnIfElseGoesBeforeEndCard

/-- THE TIED CARD OF 'n001_63.FnQueryWriteToAfterPrefix'. -/
def fnQueryWriteToAfterPrefixCard : Claim7 := { stood := { row := fnQueryWriteToAfterPrefixRow, standIns := [], harness := (true, "4c935907ca096f70a1351f6b71854476e8c0ef60b8d06abfca06693d9201eed1"), looks := false }, kinds := [], alts := [], laidByText := true, laidKinds := [.data, .pinned], laidTests := true, laidLooks := .later }
def FnQueryWriteToAfterPrefixCardSaid : Prop := Claim7.holds Tryd.pinned (.plain (OpenSpec.ofChange fnQueryWriteToAfterPrefixSpec)) fnQueryWriteToAfterPrefixCard

/-- THE TIED CARD OF 'n001_7.FnObjectStringConcat'. -/
def fnObjectStringConcatCard : Claim7 := { stood := { row := fnObjectStringConcatRow, standIns := [], harness := (true, "4c935907ca096f70a1351f6b71854476e8c0ef60b8d06abfca06693d9201eed1"), looks := false }, kinds := [], alts := [], laidByText := true, laidKinds := [.data, .pinned], laidTests := true, laidLooks := .later }
def FnObjectStringConcatCardSaid : Prop := Claim7.holds Tryd.pinned (.plain (OpenSpec.ofChange fnObjectStringConcatSpec)) fnObjectStringConcatCard

/-- THE TIED CARD OF 'n001_63.FnImportStringCaseTable'. -/
def fnImportStringCaseTableCard : Claim7 := { stood := { row := fnImportStringCaseTableRow, standIns := [], harness := (true, "4c935907ca096f70a1351f6b71854476e8c0ef60b8d06abfca06693d9201eed1"), looks := false }, kinds := [], alts := [], laidByText := true, laidKinds := [.data, .pinned], laidTests := true, laidLooks := .later }
def FnImportStringCaseTableCardSaid : Prop := Claim7.holds Tryd.pinned (.plain (OpenSpec.ofChange fnImportStringCaseTableSpec)) fnImportStringCaseTableCard

/-- THE SECOND FORM's CARD OF 'n001_7.FnObjectKeyValStringTable'. -/
def fnObjectKeyValStringTableUptoCard : Claim7 := { stood := { row := fnObjectKeyValStringTableUptoRow, standIns := [], harness := (true, "4c935907ca096f70a1351f6b71854476e8c0ef60b8d06abfca06693d9201eed1"), looks := false }, kinds := [], alts := [], laidByText := true, laidKinds := [.data, .pinned], laidTests := true, laidLooks := .later }
def FnObjectKeyValStringTableUptoCardSaid : Prop := Claim7.holds Tryd.pinned (.plain (OpenSpec.upto fnObjectKeyValStringTableSpec)) fnObjectKeyValStringTableUptoCard

/-- THE SECOND FORM's CARD OF 'n001_7.FnObjectKeyValAgreesWithObject'. -/
def fnObjectKeyValAgreesWithObjectUptoCard : Claim7 := { stood := { row := fnObjectKeyValAgreesWithObjectUptoRow, standIns := [], harness := (true, "4c935907ca096f70a1351f6b71854476e8c0ef60b8d06abfca06693d9201eed1"), looks := false }, kinds := [], alts := [], laidByText := true, laidKinds := [.data, .pinned], laidTests := true, laidLooks := .later }
def FnObjectKeyValAgreesWithObjectUptoCardSaid : Prop := Claim7.holds Tryd.pinned (.plain (OpenSpec.upto fnObjectKeyValAgreesWithObjectSpec)) fnObjectKeyValAgreesWithObjectUptoCard

/-- THE SECOND FORM's CARD OF 'n001_7.FnObjectKeyValWriteToAppends'. -/
def fnObjectKeyValWriteToAppendsUptoCard : Claim7 := { stood := { row := fnObjectKeyValWriteToAppendsUptoRow, standIns := [], harness := (true, "4c935907ca096f70a1351f6b71854476e8c0ef60b8d06abfca06693d9201eed1"), looks := false }, kinds := [], alts := [], laidByText := true, laidKinds := [.data, .pinned], laidTests := true, laidLooks := .later }
def FnObjectKeyValWriteToAppendsUptoCardSaid : Prop := Claim7.holds Tryd.pinned (.plain (OpenSpec.upto fnObjectKeyValWriteToAppendsSpec)) fnObjectKeyValWriteToAppendsUptoCard

/-- THE SECOND FORM's CARD OF 'n001_7.FnObjectStringModel'. -/
def fnObjectStringModelUptoCard : Claim7 := { stood := { row := fnObjectStringModelUptoRow, standIns := [], harness := (true, "4c935907ca096f70a1351f6b71854476e8c0ef60b8d06abfca06693d9201eed1"), looks := false }, kinds := [], alts := [], laidByText := true, laidKinds := [.data, .pinned], laidTests := true, laidLooks := .later }
def FnObjectStringModelUptoCardSaid : Prop := Claim7.holds Tryd.pinned (.plain (OpenSpec.upto fnObjectStringModelSpec)) fnObjectStringModelUptoCard

/-- THE SECOND FORM's CARD OF 'n001_7.FnObjectWriteToAppends'. -/
def fnObjectWriteToAppendsUptoCard : Claim7 := { stood := { row := fnObjectWriteToAppendsUptoRow, standIns := [], harness := (true, "4c935907ca096f70a1351f6b71854476e8c0ef60b8d06abfca06693d9201eed1"), looks := false }, kinds := [], alts := [], laidByText := true, laidKinds := [.data, .pinned], laidTests := true, laidLooks := .later }
def FnObjectWriteToAppendsUptoCardSaid : Prop := Claim7.holds Tryd.pinned (.plain (OpenSpec.upto fnObjectWriteToAppendsSpec)) fnObjectWriteToAppendsUptoCard

/-- THE SECOND FORM's CARD OF 'n001_56.FnIfWriteToTwiceIsStringTwice'. -/
def fnIfWriteToTwiceIsStringTwiceUptoCard : Claim7 := { stood := { row := fnIfWriteToTwiceIsStringTwiceUptoRow, standIns := [], harness := (true, "4c935907ca096f70a1351f6b71854476e8c0ef60b8d06abfca06693d9201eed1"), looks := false }, kinds := [], alts := [], laidByText := true, laidKinds := [.data, .pinned], laidTests := true, laidLooks := .later }
def FnIfWriteToTwiceIsStringTwiceUptoCardSaid : Prop := Claim7.holds Tryd.pinned (.plain (OpenSpec.upto fnIfWriteToTwiceIsStringTwiceSpec)) fnIfWriteToTwiceIsStringTwiceUptoCard

/-- THE SECOND FORM's CARD OF 'n001_63.FnQueryWriteToFlatModel'. -/
def fnQueryWriteToFlatModelUptoCard : Claim7 := { stood := { row := fnQueryWriteToFlatModelUptoRow, standIns := [], harness := (true, "4c935907ca096f70a1351f6b71854476e8c0ef60b8d06abfca06693d9201eed1"), looks := false }, kinds := [], alts := [], laidByText := true, laidKinds := [.data, .pinned], laidTests := true, laidLooks := .later }
def FnQueryWriteToFlatModelUptoCardSaid : Prop := Claim7.holds Tryd.pinned (.plain (OpenSpec.upto fnQueryWriteToFlatModelSpec)) fnQueryWriteToFlatModelUptoCard

/-- THE SECOND FORM's CARD OF 'n001_56.FnIfElseGoesBeforeEnd'. -/
def fnIfElseGoesBeforeEndUptoCard : Claim7 := { stood := { row := fnIfElseGoesBeforeEndUptoRow, standIns := [], harness := (true, "4c935907ca096f70a1351f6b71854476e8c0ef60b8d06abfca06693d9201eed1"), looks := false }, kinds := [], alts := [], laidByText := true, laidKinds := [.data, .pinned], laidTests := true, laidLooks := .later }
def FnIfElseGoesBeforeEndUptoCardSaid : Prop := Claim7.holds Tryd.pinned (.plain (OpenSpec.upto fnIfElseGoesBeforeEndSpec)) fnIfElseGoesBeforeEndUptoCard

/-- THE SECOND FORM's CARD OF 'n001_63.FnQueryWriteToAfterPrefix'. -/
def fnQueryWriteToAfterPrefixUptoCard : Claim7 := { stood := { row := fnQueryWriteToAfterPrefixUptoRow, standIns := [], harness := (true, "4c935907ca096f70a1351f6b71854476e8c0ef60b8d06abfca06693d9201eed1"), looks := false }, kinds := [], alts := [], laidByText := true, laidKinds := [.data, .pinned], laidTests := true, laidLooks := .later }
def FnQueryWriteToAfterPrefixUptoCardSaid : Prop := Claim7.holds Tryd.pinned (.plain (OpenSpec.upto fnQueryWriteToAfterPrefixSpec)) fnQueryWriteToAfterPrefixUptoCard

/-- THE SECOND FORM's CARD OF 'n001_7.FnObjectStringConcat'. -/
def fnObjectStringConcatUptoCard : Claim7 := { stood := { row := fnObjectStringConcatUptoRow, standIns := [], harness := (true, "4c935907ca096f70a1351f6b71854476e8c0ef60b8d06abfca06693d9201eed1"), looks := false }, kinds := [], alts := [], laidByText := true, laidKinds := [.data, .pinned], laidTests := true, laidLooks := .later }
def FnObjectStringConcatUptoCardSaid : Prop := Claim7.holds Tryd.pinned (.plain (OpenSpec.upto fnObjectStringConcatSpec)) fnObjectStringConcatUptoCard

/-- THE SECOND FORM's CARD OF 'n001_63.FnImportStringCaseTable'. -/
def fnImportStringCaseTableUptoCard : Claim7 := { stood := { row := fnImportStringCaseTableUptoRow, standIns := [], harness := (true, "4c935907ca096f70a1351f6b71854476e8c0ef60b8d06abfca06693d9201eed1"), looks := false }, kinds := [], alts := [], laidByText := true, laidKinds := [.data, .pinned], laidTests := true, laidLooks := .later }
def FnImportStringCaseTableUptoCardSaid : Prop := Claim7.holds Tryd.pinned (.plain (OpenSpec.upto fnImportStringCaseTableSpec)) fnImportStringCaseTableUptoCard
end Rows
end Go.Proofs.YtooalmhelfaodaaDoor
