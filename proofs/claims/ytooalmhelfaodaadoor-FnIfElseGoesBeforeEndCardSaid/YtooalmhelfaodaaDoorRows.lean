/-
  NARROWER THAN 'FOR EVERY INPUT', by the rows' own cells (each row's printed sentence says how): FnObjectKeyValStringTable: laid · FnObjectKeyValAgreesWithObject: laid · FnObjectKeyValWriteToAppends: laid · FnObjectStringModel: laid · FnObjectWriteToAppends: laid · FnIfWriteToTwiceIsStringTwice: laid · FnQueryWriteToFlatModel: laid · FnIfElseGoesBeforeEnd: laid · FnQueryWriteToAfterPrefix: laid · FnObjectStringConcat: laid · FnImportStringCaseTable: laid.
  DERIVED. THE GIVEN ROWS OF THIS SEAT. 11 by the template 'for every input the law returns true; each argument reads behind the call as it read before'; 0 by the template 'total and deterministic' (their statements: YtooalmhelfaodaaDoorTotals.lean).
  GIVEN WITH THE SEED: the statements are not yours to turn. If you find one false, say at which input.
  Laid BY PROGRAM, IN A SANDBOX (cutbox-rows.mjs): the forced cells as the released guide's own fill.sh prints them over the translation 9b11d51d2246c1ec… (all of the seat's roots in one cut). By AI agents, Wed Nov 11 2026. No macro, syntax, notation, axiom, sorry.
-/
import Derived.Test.YtooalmhelfaodaaDoorChecked
import GoSem.PinnedTables
import GoSem.Claim
import GoSem.ClaimJoined
import GoSem.ClaimMapViews
import Derived.JoinedTies
import Derived.KernelRfl
namespace Go.Proofs.YtooalmhelfaodaaDoor
/- THE CELL 'sum', in the pinned program and in every row, IS THE sha256 OF THE DUMP (.gsa) THAT YtooalmhelfaodaaDoorProg.lean LOADS. Nothing in Lean hashes anything: it is a label: what it is worth is what the hold of that sum in a sandbox is worth. -/
noncomputable def Tryd.pinned : Pinned := { name := "ytooalmhelfaodaadoor", sum := "9b11d51d2246c1ec8675aeedbd34529ed8964287d48392bd0147cc1272a4117c", checked := Tryd.checked }
namespace Rows
def none {H : Type} : Left H := { results := [], args := [] }

/- WHAT THE LISTED PACKAGE-LEVEL VARIABLES READ AS WHEN THE CALL BEGINS. Each datum BY PROGRAM (the guide's laid-datum.mjs) off the statement by which the dump's own 'gosem.cut.vars' lays the variable. In a bare row this is a premise. The card (YtooalmhelfaodaaDoorCards.lean) ties it to the program's text. -/
def laid_unicode_utf8_acceptRanges {H : Type} : DataW H := .agg [.agg [.lit (.int .u8 128), .lit (.int .u8 191)], .agg [.lit (.int .u8 160), .lit (.int .u8 191)], .agg [.lit (.int .u8 128), .lit (.int .u8 159)], .agg [.lit (.int .u8 144), .lit (.int .u8 191)], .agg [.lit (.int .u8 128), .lit (.int .u8 143)], .agg [.lit (.int .u8 0), .lit (.int .u8 0)], .agg [.lit (.int .u8 0), .lit (.int .u8 0)], .agg [.lit (.int .u8 0), .lit (.int .u8 0)], .agg [.lit (.int .u8 0), .lit (.int .u8 0)], .agg [.lit (.int .u8 0), .lit (.int .u8 0)], .agg [.lit (.int .u8 0), .lit (.int .u8 0)], .agg [.lit (.int .u8 0), .lit (.int .u8 0)], .agg [.lit (.int .u8 0), .lit (.int .u8 0)], .agg [.lit (.int .u8 0), .lit (.int .u8 0)], .agg [.lit (.int .u8 0), .lit (.int .u8 0)], .agg [.lit (.int .u8 0), .lit (.int .u8 0)]]
/-- One of Go's own tables, pinned by name: the form's constant. -/
def laid_unicode_utf8_first : DataW Unit := Go.Pinned.utf8First

/-- 'n001_7.FnObjectKeyValStringTable': WHATEVER THE INPUT: true; the input reads as it did. -/
def fnObjectKeyValStringTableSpec : ChangeSpec := { name := "fnObjectKeyValStringTable", fn := fun _ => fun
  | [d] => { results := [.lit (.bool true)], args := [d] }
  | _ => none }
def fnObjectKeyValStringTableRow : OpenClaim := { program := "ytooalmhelfaodaadoor", sum := "9b11d51d2246c1ec8675aeedbd34529ed8964287d48392bd0147cc1272a4117c", func := "github.com/itchyny/gojq/n001_7.FnObjectKeyValStringTable", spec := "fnObjectKeyValStringTable", inPlace := ["internal/abi.NoEscape"], unfollowed := true, recurses := true, named := ["unicode/utf8.first", "unicode/utf8.acceptRanges"], apart := false, laid := [("unicode/utf8.acceptRanges", laid_unicode_utf8_acceptRanges), ("unicode/utf8.first", laid_unicode_utf8_first)] }
def FnObjectKeyValStringTableSaid : Prop := fnObjectKeyValStringTableRow.holds Tryd.pinned (OpenSpec.ofChange fnObjectKeyValStringTableSpec)

/-- ITS FALSE NEIGHBOUR: 'it returns false'. Refute it at one input. -/
def fnObjectKeyValStringTableWrong : ChangeSpec := { name := "fnObjectKeyValStringTable", fn := fun _ => fun
  | [d] => { results := [.lit (.bool false)], args := [d] }
  | _ => none }
def FnObjectKeyValStringTableWrongFalsely : Prop := fnObjectKeyValStringTableRow.holds Tryd.pinned (OpenSpec.ofChange fnObjectKeyValStringTableWrong)

/-- 'n001_7.FnObjectKeyValAgreesWithObject': WHATEVER THE INPUT: true; the input reads as it did. -/
def fnObjectKeyValAgreesWithObjectSpec : ChangeSpec := { name := "fnObjectKeyValAgreesWithObject", fn := fun _ => fun
  | [d] => { results := [.lit (.bool true)], args := [d] }
  | _ => none }
def fnObjectKeyValAgreesWithObjectRow : OpenClaim := { program := "ytooalmhelfaodaadoor", sum := "9b11d51d2246c1ec8675aeedbd34529ed8964287d48392bd0147cc1272a4117c", func := "github.com/itchyny/gojq/n001_7.FnObjectKeyValAgreesWithObject", spec := "fnObjectKeyValAgreesWithObject", inPlace := ["internal/abi.NoEscape"], unfollowed := true, recurses := true, named := ["unicode/utf8.first", "unicode/utf8.acceptRanges"], apart := false, laid := [("unicode/utf8.acceptRanges", laid_unicode_utf8_acceptRanges), ("unicode/utf8.first", laid_unicode_utf8_first)] }
def FnObjectKeyValAgreesWithObjectSaid : Prop := fnObjectKeyValAgreesWithObjectRow.holds Tryd.pinned (OpenSpec.ofChange fnObjectKeyValAgreesWithObjectSpec)

/-- ITS FALSE NEIGHBOUR: 'it returns false'. Refute it at one input. -/
def fnObjectKeyValAgreesWithObjectWrong : ChangeSpec := { name := "fnObjectKeyValAgreesWithObject", fn := fun _ => fun
  | [d] => { results := [.lit (.bool false)], args := [d] }
  | _ => none }
def FnObjectKeyValAgreesWithObjectWrongFalsely : Prop := fnObjectKeyValAgreesWithObjectRow.holds Tryd.pinned (OpenSpec.ofChange fnObjectKeyValAgreesWithObjectWrong)

/-- 'n001_7.FnObjectKeyValWriteToAppends': WHATEVER THE INPUT: true; the input reads as it did. -/
def fnObjectKeyValWriteToAppendsSpec : ChangeSpec := { name := "fnObjectKeyValWriteToAppends", fn := fun _ => fun
  | [d1, d2] => { results := [.lit (.bool true)], args := [d1, d2] }
  | _ => none }
def fnObjectKeyValWriteToAppendsRow : OpenClaim := { program := "ytooalmhelfaodaadoor", sum := "9b11d51d2246c1ec8675aeedbd34529ed8964287d48392bd0147cc1272a4117c", func := "github.com/itchyny/gojq/n001_7.FnObjectKeyValWriteToAppends", spec := "fnObjectKeyValWriteToAppends", inPlace := ["internal/abi.NoEscape"], unfollowed := true, recurses := true, named := ["unicode/utf8.first", "unicode/utf8.acceptRanges"], apart := false, laid := [("unicode/utf8.acceptRanges", laid_unicode_utf8_acceptRanges), ("unicode/utf8.first", laid_unicode_utf8_first)] }
def FnObjectKeyValWriteToAppendsSaid : Prop := fnObjectKeyValWriteToAppendsRow.holds Tryd.pinned (OpenSpec.ofChange fnObjectKeyValWriteToAppendsSpec)

/-- ITS FALSE NEIGHBOUR: 'it returns false'. Refute it at one input. -/
def fnObjectKeyValWriteToAppendsWrong : ChangeSpec := { name := "fnObjectKeyValWriteToAppends", fn := fun _ => fun
  | [d1, d2] => { results := [.lit (.bool false)], args := [d1, d2] }
  | _ => none }
def FnObjectKeyValWriteToAppendsWrongFalsely : Prop := fnObjectKeyValWriteToAppendsRow.holds Tryd.pinned (OpenSpec.ofChange fnObjectKeyValWriteToAppendsWrong)

/-- 'n001_7.FnObjectStringModel': WHATEVER THE INPUT: true; the input reads as it did. -/
def fnObjectStringModelSpec : ChangeSpec := { name := "fnObjectStringModel", fn := fun _ => fun
  | [d] => { results := [.lit (.bool true)], args := [d] }
  | _ => none }
def fnObjectStringModelRow : OpenClaim := { program := "ytooalmhelfaodaadoor", sum := "9b11d51d2246c1ec8675aeedbd34529ed8964287d48392bd0147cc1272a4117c", func := "github.com/itchyny/gojq/n001_7.FnObjectStringModel", spec := "fnObjectStringModel", inPlace := ["internal/abi.NoEscape"], unfollowed := true, recurses := true, named := ["unicode/utf8.first", "unicode/utf8.acceptRanges"], apart := false, laid := [("unicode/utf8.acceptRanges", laid_unicode_utf8_acceptRanges), ("unicode/utf8.first", laid_unicode_utf8_first)] }
def FnObjectStringModelSaid : Prop := fnObjectStringModelRow.holds Tryd.pinned (OpenSpec.ofChange fnObjectStringModelSpec)

/-- ITS FALSE NEIGHBOUR: 'it returns false'. Refute it at one input. -/
def fnObjectStringModelWrong : ChangeSpec := { name := "fnObjectStringModel", fn := fun _ => fun
  | [d] => { results := [.lit (.bool false)], args := [d] }
  | _ => none }
def FnObjectStringModelWrongFalsely : Prop := fnObjectStringModelRow.holds Tryd.pinned (OpenSpec.ofChange fnObjectStringModelWrong)

/-- 'n001_7.FnObjectWriteToAppends': WHATEVER THE INPUT: true; the input reads as it did. -/
def fnObjectWriteToAppendsSpec : ChangeSpec := { name := "fnObjectWriteToAppends", fn := fun _ => fun
  | [d1, d2] => { results := [.lit (.bool true)], args := [d1, d2] }
  | _ => none }
def fnObjectWriteToAppendsRow : OpenClaim := { program := "ytooalmhelfaodaadoor", sum := "9b11d51d2246c1ec8675aeedbd34529ed8964287d48392bd0147cc1272a4117c", func := "github.com/itchyny/gojq/n001_7.FnObjectWriteToAppends", spec := "fnObjectWriteToAppends", inPlace := ["internal/abi.NoEscape"], unfollowed := true, recurses := true, named := ["unicode/utf8.first", "unicode/utf8.acceptRanges"], apart := false, laid := [("unicode/utf8.acceptRanges", laid_unicode_utf8_acceptRanges), ("unicode/utf8.first", laid_unicode_utf8_first)] }
def FnObjectWriteToAppendsSaid : Prop := fnObjectWriteToAppendsRow.holds Tryd.pinned (OpenSpec.ofChange fnObjectWriteToAppendsSpec)

/-- ITS FALSE NEIGHBOUR: 'it returns false'. Refute it at one input. -/
def fnObjectWriteToAppendsWrong : ChangeSpec := { name := "fnObjectWriteToAppends", fn := fun _ => fun
  | [d1, d2] => { results := [.lit (.bool false)], args := [d1, d2] }
  | _ => none }
def FnObjectWriteToAppendsWrongFalsely : Prop := fnObjectWriteToAppendsRow.holds Tryd.pinned (OpenSpec.ofChange fnObjectWriteToAppendsWrong)

/-- 'n001_56.FnIfWriteToTwiceIsStringTwice': WHATEVER THE INPUT: true; the input reads as it did. -/
def fnIfWriteToTwiceIsStringTwiceSpec : ChangeSpec := { name := "fnIfWriteToTwiceIsStringTwice", fn := fun _ => fun
  | [d1, d2] => { results := [.lit (.bool true)], args := [d1, d2] }
  | _ => none }
def fnIfWriteToTwiceIsStringTwiceRow : OpenClaim := { program := "ytooalmhelfaodaadoor", sum := "9b11d51d2246c1ec8675aeedbd34529ed8964287d48392bd0147cc1272a4117c", func := "github.com/itchyny/gojq/n001_56.FnIfWriteToTwiceIsStringTwice", spec := "fnIfWriteToTwiceIsStringTwice", inPlace := ["internal/abi.NoEscape"], unfollowed := true, recurses := true, named := ["unicode/utf8.first", "unicode/utf8.acceptRanges"], apart := false, laid := [("unicode/utf8.acceptRanges", laid_unicode_utf8_acceptRanges), ("unicode/utf8.first", laid_unicode_utf8_first)] }
def FnIfWriteToTwiceIsStringTwiceSaid : Prop := fnIfWriteToTwiceIsStringTwiceRow.holds Tryd.pinned (OpenSpec.ofChange fnIfWriteToTwiceIsStringTwiceSpec)

/-- ITS FALSE NEIGHBOUR: 'it returns false'. Refute it at one input. -/
def fnIfWriteToTwiceIsStringTwiceWrong : ChangeSpec := { name := "fnIfWriteToTwiceIsStringTwice", fn := fun _ => fun
  | [d1, d2] => { results := [.lit (.bool false)], args := [d1, d2] }
  | _ => none }
def FnIfWriteToTwiceIsStringTwiceWrongFalsely : Prop := fnIfWriteToTwiceIsStringTwiceRow.holds Tryd.pinned (OpenSpec.ofChange fnIfWriteToTwiceIsStringTwiceWrong)

/-- 'n001_63.FnQueryWriteToFlatModel': WHATEVER THE INPUT: true; the input reads as it did. -/
def fnQueryWriteToFlatModelSpec : ChangeSpec := { name := "fnQueryWriteToFlatModel", fn := fun _ => fun
  | [d1, d2, d3, d4] => { results := [.lit (.bool true)], args := [d1, d2, d3, d4] }
  | _ => none }
def fnQueryWriteToFlatModelRow : OpenClaim := { program := "ytooalmhelfaodaadoor", sum := "9b11d51d2246c1ec8675aeedbd34529ed8964287d48392bd0147cc1272a4117c", func := "github.com/itchyny/gojq/n001_63.FnQueryWriteToFlatModel", spec := "fnQueryWriteToFlatModel", inPlace := ["internal/abi.NoEscape"], unfollowed := true, recurses := true, named := ["unicode/utf8.first", "unicode/utf8.acceptRanges"], apart := false, laid := [("unicode/utf8.acceptRanges", laid_unicode_utf8_acceptRanges), ("unicode/utf8.first", laid_unicode_utf8_first)] }
def FnQueryWriteToFlatModelSaid : Prop := fnQueryWriteToFlatModelRow.holds Tryd.pinned (OpenSpec.ofChange fnQueryWriteToFlatModelSpec)

/-- ITS FALSE NEIGHBOUR: 'it returns false'. Refute it at one input. -/
def fnQueryWriteToFlatModelWrong : ChangeSpec := { name := "fnQueryWriteToFlatModel", fn := fun _ => fun
  | [d1, d2, d3, d4] => { results := [.lit (.bool false)], args := [d1, d2, d3, d4] }
  | _ => none }
def FnQueryWriteToFlatModelWrongFalsely : Prop := fnQueryWriteToFlatModelRow.holds Tryd.pinned (OpenSpec.ofChange fnQueryWriteToFlatModelWrong)

/-- 'n001_56.FnIfElseGoesBeforeEnd': WHATEVER THE INPUT: true; the input reads as it did. -/
def fnIfElseGoesBeforeEndSpec : ChangeSpec := { name := "fnIfElseGoesBeforeEnd", fn := fun _ => fun
  | [d] => { results := [.lit (.bool true)], args := [d] }
  | _ => none }
def fnIfElseGoesBeforeEndRow : OpenClaim := { program := "ytooalmhelfaodaadoor", sum := "9b11d51d2246c1ec8675aeedbd34529ed8964287d48392bd0147cc1272a4117c", func := "github.com/itchyny/gojq/n001_56.FnIfElseGoesBeforeEnd", spec := "fnIfElseGoesBeforeEnd", inPlace := ["internal/abi.NoEscape"], unfollowed := true, recurses := true, named := ["unicode/utf8.first", "unicode/utf8.acceptRanges"], apart := false, laid := [("unicode/utf8.acceptRanges", laid_unicode_utf8_acceptRanges), ("unicode/utf8.first", laid_unicode_utf8_first)] }
def FnIfElseGoesBeforeEndSaid : Prop := fnIfElseGoesBeforeEndRow.holds Tryd.pinned (OpenSpec.ofChange fnIfElseGoesBeforeEndSpec)

/-- ITS FALSE NEIGHBOUR: 'it returns false'. Refute it at one input. -/
def fnIfElseGoesBeforeEndWrong : ChangeSpec := { name := "fnIfElseGoesBeforeEnd", fn := fun _ => fun
  | [d] => { results := [.lit (.bool false)], args := [d] }
  | _ => none }
def FnIfElseGoesBeforeEndWrongFalsely : Prop := fnIfElseGoesBeforeEndRow.holds Tryd.pinned (OpenSpec.ofChange fnIfElseGoesBeforeEndWrong)

/-- 'n001_63.FnQueryWriteToAfterPrefix': WHATEVER THE INPUT: true; the input reads as it did. -/
def fnQueryWriteToAfterPrefixSpec : ChangeSpec := { name := "fnQueryWriteToAfterPrefix", fn := fun _ => fun
  | [d1, d2, d3, d4, d5] => { results := [.lit (.bool true)], args := [d1, d2, d3, d4, d5] }
  | _ => none }
def fnQueryWriteToAfterPrefixRow : OpenClaim := { program := "ytooalmhelfaodaadoor", sum := "9b11d51d2246c1ec8675aeedbd34529ed8964287d48392bd0147cc1272a4117c", func := "github.com/itchyny/gojq/n001_63.FnQueryWriteToAfterPrefix", spec := "fnQueryWriteToAfterPrefix", inPlace := ["internal/abi.NoEscape"], unfollowed := true, recurses := true, named := ["unicode/utf8.first", "unicode/utf8.acceptRanges"], apart := false, laid := [("unicode/utf8.acceptRanges", laid_unicode_utf8_acceptRanges), ("unicode/utf8.first", laid_unicode_utf8_first)] }
def FnQueryWriteToAfterPrefixSaid : Prop := fnQueryWriteToAfterPrefixRow.holds Tryd.pinned (OpenSpec.ofChange fnQueryWriteToAfterPrefixSpec)

/-- ITS FALSE NEIGHBOUR: 'it returns false'. Refute it at one input. -/
def fnQueryWriteToAfterPrefixWrong : ChangeSpec := { name := "fnQueryWriteToAfterPrefix", fn := fun _ => fun
  | [d1, d2, d3, d4, d5] => { results := [.lit (.bool false)], args := [d1, d2, d3, d4, d5] }
  | _ => none }
def FnQueryWriteToAfterPrefixWrongFalsely : Prop := fnQueryWriteToAfterPrefixRow.holds Tryd.pinned (OpenSpec.ofChange fnQueryWriteToAfterPrefixWrong)

/-- 'n001_7.FnObjectStringConcat': WHATEVER THE INPUT: true; the input reads as it did. -/
def fnObjectStringConcatSpec : ChangeSpec := { name := "fnObjectStringConcat", fn := fun _ => fun
  | [d1, d2] => { results := [.lit (.bool true)], args := [d1, d2] }
  | _ => none }
def fnObjectStringConcatRow : OpenClaim := { program := "ytooalmhelfaodaadoor", sum := "9b11d51d2246c1ec8675aeedbd34529ed8964287d48392bd0147cc1272a4117c", func := "github.com/itchyny/gojq/n001_7.FnObjectStringConcat", spec := "fnObjectStringConcat", inPlace := ["internal/abi.NoEscape"], unfollowed := true, recurses := true, named := ["unicode/utf8.first", "unicode/utf8.acceptRanges"], apart := false, laid := [("unicode/utf8.acceptRanges", laid_unicode_utf8_acceptRanges), ("unicode/utf8.first", laid_unicode_utf8_first)] }
def FnObjectStringConcatSaid : Prop := fnObjectStringConcatRow.holds Tryd.pinned (OpenSpec.ofChange fnObjectStringConcatSpec)

/-- ITS FALSE NEIGHBOUR: 'it returns false'. Refute it at one input. -/
def fnObjectStringConcatWrong : ChangeSpec := { name := "fnObjectStringConcat", fn := fun _ => fun
  | [d1, d2] => { results := [.lit (.bool false)], args := [d1, d2] }
  | _ => none }
def FnObjectStringConcatWrongFalsely : Prop := fnObjectStringConcatRow.holds Tryd.pinned (OpenSpec.ofChange fnObjectStringConcatWrong)

/-- 'n001_63.FnImportStringCaseTable': WHATEVER THE INPUT: true; the input reads as it did. -/
def fnImportStringCaseTableSpec : ChangeSpec := { name := "fnImportStringCaseTable", fn := fun _ => fun
  | [d1, d2, d3, d4, d5, d6] => { results := [.lit (.bool true)], args := [d1, d2, d3, d4, d5, d6] }
  | _ => none }
def fnImportStringCaseTableRow : OpenClaim := { program := "ytooalmhelfaodaadoor", sum := "9b11d51d2246c1ec8675aeedbd34529ed8964287d48392bd0147cc1272a4117c", func := "github.com/itchyny/gojq/n001_63.FnImportStringCaseTable", spec := "fnImportStringCaseTable", inPlace := ["internal/abi.NoEscape"], unfollowed := true, recurses := true, named := ["unicode/utf8.first", "unicode/utf8.acceptRanges"], apart := false, laid := [("unicode/utf8.acceptRanges", laid_unicode_utf8_acceptRanges), ("unicode/utf8.first", laid_unicode_utf8_first)] }
def FnImportStringCaseTableSaid : Prop := fnImportStringCaseTableRow.holds Tryd.pinned (OpenSpec.ofChange fnImportStringCaseTableSpec)

/-- ITS FALSE NEIGHBOUR: 'it returns false'. Refute it at one input. -/
def fnImportStringCaseTableWrong : ChangeSpec := { name := "fnImportStringCaseTable", fn := fun _ => fun
  | [d1, d2, d3, d4, d5, d6] => { results := [.lit (.bool false)], args := [d1, d2, d3, d4, d5, d6] }
  | _ => none }
def FnImportStringCaseTableWrongFalsely : Prop := fnImportStringCaseTableRow.holds Tryd.pinned (OpenSpec.ofChange fnImportStringCaseTableWrong)

/- THE SECOND FORM. 'bulk': how many values and letters a reading holds, each counted each time it is reached (what is shared counts as often as it is met; a slice's spare places count too). A statement '..UptoSaid' is the law's where the arguments, and the package variables that the reading takes, are together of bulk at most 1048576: NARROWER than '..Said'. Prove '..Said' where nothing that the law and all that it calls make is longer than what came in: it says more and counts as full. Else prove '..UptoSaid'. A law counts once. -/
mutual
def uptoBulk {H : Type} : DataW H → Nat
  | .lit (.string bytes) => bytes.length + 1
  | .lit _ => 1
  | .nil => 1
  | .ptr d => uptoBulk d + 1
  | .slice elems spare => uptoBulkAll elems + uptoBulkAll spare + 1
  | .agg parts => uptoBulkAll parts + 1
  | .iface _ d => uptoBulk d + 1
  | .map entries => uptoBulkEntries entries + 1
  | .held _ => 1
def uptoBulkAll {H : Type} : List (DataW H) → Nat
  | [] => 0
  | d :: r => uptoBulk d + uptoBulkAll r
def uptoBulkEntries {H : Type} : List (Lit × DataW H) → Nat
  | [] => 0
  | x :: r => uptoBulkEntry x + uptoBulkEntries r
def uptoBulkEntry {H : Type} : Lit × DataW H → Nat
  | (.string bytes, d) => bytes.length + uptoBulk d + 1
  | (_, d) => uptoBulk d + 1
 end
def uptoSmall : (H : Type) → List (DataW H) → Bool := fun _ ds => decide (uptoBulkAll ds ≤ 1048576)
def OpenSpec.upto (s : _root_.Go.ChangeSpec) : _root_.Go.OpenSpec := { _root_.Go.OpenSpec.ofChange s with cond := some uptoSmall }

/-- 'n001_7.FnObjectKeyValStringTable', WHERE WHAT IT READS IS OF BULK AT MOST 1048576: true; the input reads as it did. -/
def fnObjectKeyValStringTableUptoRow : OpenClaim := { program := "ytooalmhelfaodaadoor", sum := "9b11d51d2246c1ec8675aeedbd34529ed8964287d48392bd0147cc1272a4117c", func := "github.com/itchyny/gojq/n001_7.FnObjectKeyValStringTable", spec := "fnObjectKeyValStringTable", inPlace := ["internal/abi.NoEscape"], unfollowed := true, recurses := true, named := ["unicode/utf8.first", "unicode/utf8.acceptRanges"], apart := false, laid := [("unicode/utf8.acceptRanges", laid_unicode_utf8_acceptRanges), ("unicode/utf8.first", laid_unicode_utf8_first)], narrowed := true }
def FnObjectKeyValStringTableUptoSaid : Prop := fnObjectKeyValStringTableUptoRow.holds Tryd.pinned (OpenSpec.upto fnObjectKeyValStringTableSpec)

/-- 'n001_7.FnObjectKeyValAgreesWithObject', WHERE WHAT IT READS IS OF BULK AT MOST 1048576: true; the input reads as it did. -/
def fnObjectKeyValAgreesWithObjectUptoRow : OpenClaim := { program := "ytooalmhelfaodaadoor", sum := "9b11d51d2246c1ec8675aeedbd34529ed8964287d48392bd0147cc1272a4117c", func := "github.com/itchyny/gojq/n001_7.FnObjectKeyValAgreesWithObject", spec := "fnObjectKeyValAgreesWithObject", inPlace := ["internal/abi.NoEscape"], unfollowed := true, recurses := true, named := ["unicode/utf8.first", "unicode/utf8.acceptRanges"], apart := false, laid := [("unicode/utf8.acceptRanges", laid_unicode_utf8_acceptRanges), ("unicode/utf8.first", laid_unicode_utf8_first)], narrowed := true }
def FnObjectKeyValAgreesWithObjectUptoSaid : Prop := fnObjectKeyValAgreesWithObjectUptoRow.holds Tryd.pinned (OpenSpec.upto fnObjectKeyValAgreesWithObjectSpec)

/-- 'n001_7.FnObjectKeyValWriteToAppends', WHERE WHAT IT READS IS OF BULK AT MOST 1048576: true; the input reads as it did. -/
def fnObjectKeyValWriteToAppendsUptoRow : OpenClaim := { program := "ytooalmhelfaodaadoor", sum := "9b11d51d2246c1ec8675aeedbd34529ed8964287d48392bd0147cc1272a4117c", func := "github.com/itchyny/gojq/n001_7.FnObjectKeyValWriteToAppends", spec := "fnObjectKeyValWriteToAppends", inPlace := ["internal/abi.NoEscape"], unfollowed := true, recurses := true, named := ["unicode/utf8.first", "unicode/utf8.acceptRanges"], apart := false, laid := [("unicode/utf8.acceptRanges", laid_unicode_utf8_acceptRanges), ("unicode/utf8.first", laid_unicode_utf8_first)], narrowed := true }
def FnObjectKeyValWriteToAppendsUptoSaid : Prop := fnObjectKeyValWriteToAppendsUptoRow.holds Tryd.pinned (OpenSpec.upto fnObjectKeyValWriteToAppendsSpec)

/-- 'n001_7.FnObjectStringModel', WHERE WHAT IT READS IS OF BULK AT MOST 1048576: true; the input reads as it did. -/
def fnObjectStringModelUptoRow : OpenClaim := { program := "ytooalmhelfaodaadoor", sum := "9b11d51d2246c1ec8675aeedbd34529ed8964287d48392bd0147cc1272a4117c", func := "github.com/itchyny/gojq/n001_7.FnObjectStringModel", spec := "fnObjectStringModel", inPlace := ["internal/abi.NoEscape"], unfollowed := true, recurses := true, named := ["unicode/utf8.first", "unicode/utf8.acceptRanges"], apart := false, laid := [("unicode/utf8.acceptRanges", laid_unicode_utf8_acceptRanges), ("unicode/utf8.first", laid_unicode_utf8_first)], narrowed := true }
def FnObjectStringModelUptoSaid : Prop := fnObjectStringModelUptoRow.holds Tryd.pinned (OpenSpec.upto fnObjectStringModelSpec)

/-- 'n001_7.FnObjectWriteToAppends', WHERE WHAT IT READS IS OF BULK AT MOST 1048576: true; the input reads as it did. -/
def fnObjectWriteToAppendsUptoRow : OpenClaim := { program := "ytooalmhelfaodaadoor", sum := "9b11d51d2246c1ec8675aeedbd34529ed8964287d48392bd0147cc1272a4117c", func := "github.com/itchyny/gojq/n001_7.FnObjectWriteToAppends", spec := "fnObjectWriteToAppends", inPlace := ["internal/abi.NoEscape"], unfollowed := true, recurses := true, named := ["unicode/utf8.first", "unicode/utf8.acceptRanges"], apart := false, laid := [("unicode/utf8.acceptRanges", laid_unicode_utf8_acceptRanges), ("unicode/utf8.first", laid_unicode_utf8_first)], narrowed := true }
def FnObjectWriteToAppendsUptoSaid : Prop := fnObjectWriteToAppendsUptoRow.holds Tryd.pinned (OpenSpec.upto fnObjectWriteToAppendsSpec)

/-- 'n001_56.FnIfWriteToTwiceIsStringTwice', WHERE WHAT IT READS IS OF BULK AT MOST 1048576: true; the input reads as it did. -/
def fnIfWriteToTwiceIsStringTwiceUptoRow : OpenClaim := { program := "ytooalmhelfaodaadoor", sum := "9b11d51d2246c1ec8675aeedbd34529ed8964287d48392bd0147cc1272a4117c", func := "github.com/itchyny/gojq/n001_56.FnIfWriteToTwiceIsStringTwice", spec := "fnIfWriteToTwiceIsStringTwice", inPlace := ["internal/abi.NoEscape"], unfollowed := true, recurses := true, named := ["unicode/utf8.first", "unicode/utf8.acceptRanges"], apart := false, laid := [("unicode/utf8.acceptRanges", laid_unicode_utf8_acceptRanges), ("unicode/utf8.first", laid_unicode_utf8_first)], narrowed := true }
def FnIfWriteToTwiceIsStringTwiceUptoSaid : Prop := fnIfWriteToTwiceIsStringTwiceUptoRow.holds Tryd.pinned (OpenSpec.upto fnIfWriteToTwiceIsStringTwiceSpec)

/-- 'n001_63.FnQueryWriteToFlatModel', WHERE WHAT IT READS IS OF BULK AT MOST 1048576: true; the input reads as it did. -/
def fnQueryWriteToFlatModelUptoRow : OpenClaim := { program := "ytooalmhelfaodaadoor", sum := "9b11d51d2246c1ec8675aeedbd34529ed8964287d48392bd0147cc1272a4117c", func := "github.com/itchyny/gojq/n001_63.FnQueryWriteToFlatModel", spec := "fnQueryWriteToFlatModel", inPlace := ["internal/abi.NoEscape"], unfollowed := true, recurses := true, named := ["unicode/utf8.first", "unicode/utf8.acceptRanges"], apart := false, laid := [("unicode/utf8.acceptRanges", laid_unicode_utf8_acceptRanges), ("unicode/utf8.first", laid_unicode_utf8_first)], narrowed := true }
def FnQueryWriteToFlatModelUptoSaid : Prop := fnQueryWriteToFlatModelUptoRow.holds Tryd.pinned (OpenSpec.upto fnQueryWriteToFlatModelSpec)

/-- 'n001_56.FnIfElseGoesBeforeEnd', WHERE WHAT IT READS IS OF BULK AT MOST 1048576: true; the input reads as it did. -/
def fnIfElseGoesBeforeEndUptoRow : OpenClaim := { program := "ytooalmhelfaodaadoor", sum := "9b11d51d2246c1ec8675aeedbd34529ed8964287d48392bd0147cc1272a4117c", func := "github.com/itchyny/gojq/n001_56.FnIfElseGoesBeforeEnd", spec := "fnIfElseGoesBeforeEnd", inPlace := ["internal/abi.NoEscape"], unfollowed := true, recurses := true, named := ["unicode/utf8.first", "unicode/utf8.acceptRanges"], apart := false, laid := [("unicode/utf8.acceptRanges", laid_unicode_utf8_acceptRanges), ("unicode/utf8.first", laid_unicode_utf8_first)], narrowed := true }
def FnIfElseGoesBeforeEndUptoSaid : Prop := fnIfElseGoesBeforeEndUptoRow.holds Tryd.pinned (OpenSpec.upto fnIfElseGoesBeforeEndSpec)

/-- 'n001_63.FnQueryWriteToAfterPrefix', WHERE WHAT IT READS IS OF BULK AT MOST 1048576: true; the input reads as it did. -/
def fnQueryWriteToAfterPrefixUptoRow : OpenClaim := { program := "ytooalmhelfaodaadoor", sum := "9b11d51d2246c1ec8675aeedbd34529ed8964287d48392bd0147cc1272a4117c", func := "github.com/itchyny/gojq/n001_63.FnQueryWriteToAfterPrefix", spec := "fnQueryWriteToAfterPrefix", inPlace := ["internal/abi.NoEscape"], unfollowed := true, recurses := true, named := ["unicode/utf8.first", "unicode/utf8.acceptRanges"], apart := false, laid := [("unicode/utf8.acceptRanges", laid_unicode_utf8_acceptRanges), ("unicode/utf8.first", laid_unicode_utf8_first)], narrowed := true }
def FnQueryWriteToAfterPrefixUptoSaid : Prop := fnQueryWriteToAfterPrefixUptoRow.holds Tryd.pinned (OpenSpec.upto fnQueryWriteToAfterPrefixSpec)

/-- 'n001_7.FnObjectStringConcat', WHERE WHAT IT READS IS OF BULK AT MOST 1048576: true; the input reads as it did. -/
def fnObjectStringConcatUptoRow : OpenClaim := { program := "ytooalmhelfaodaadoor", sum := "9b11d51d2246c1ec8675aeedbd34529ed8964287d48392bd0147cc1272a4117c", func := "github.com/itchyny/gojq/n001_7.FnObjectStringConcat", spec := "fnObjectStringConcat", inPlace := ["internal/abi.NoEscape"], unfollowed := true, recurses := true, named := ["unicode/utf8.first", "unicode/utf8.acceptRanges"], apart := false, laid := [("unicode/utf8.acceptRanges", laid_unicode_utf8_acceptRanges), ("unicode/utf8.first", laid_unicode_utf8_first)], narrowed := true }
def FnObjectStringConcatUptoSaid : Prop := fnObjectStringConcatUptoRow.holds Tryd.pinned (OpenSpec.upto fnObjectStringConcatSpec)

/-- 'n001_63.FnImportStringCaseTable', WHERE WHAT IT READS IS OF BULK AT MOST 1048576: true; the input reads as it did. -/
def fnImportStringCaseTableUptoRow : OpenClaim := { program := "ytooalmhelfaodaadoor", sum := "9b11d51d2246c1ec8675aeedbd34529ed8964287d48392bd0147cc1272a4117c", func := "github.com/itchyny/gojq/n001_63.FnImportStringCaseTable", spec := "fnImportStringCaseTable", inPlace := ["internal/abi.NoEscape"], unfollowed := true, recurses := true, named := ["unicode/utf8.first", "unicode/utf8.acceptRanges"], apart := false, laid := [("unicode/utf8.acceptRanges", laid_unicode_utf8_acceptRanges), ("unicode/utf8.first", laid_unicode_utf8_first)], narrowed := true }
def FnImportStringCaseTableUptoSaid : Prop := fnImportStringCaseTableUptoRow.holds Tryd.pinned (OpenSpec.upto fnImportStringCaseTableSpec)

end Rows
end Go.Proofs.YtooalmhelfaodaaDoor
