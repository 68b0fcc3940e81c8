/-
  NARROWER THAN 'FOR EVERY INPUT', by the rows' own cells (each row's printed sentence says how): FnEncodeStringSpec: laid · FnKeyValStringExact: loops, laid · FnKeyValWriteToAfterAnyPrefix: loops, laid · FnKeyValWriteToSequential: loops, laid · FnKeyValStringKeyChoice: loops, laid · FnEncodeStringRoundTrip: laid · FnConstArrayStringConcat: laid.
  DERIVED. THE GIVEN ROWS OF THIS SEAT. 7 by the template 'for every input the law returns true; each argument reads behind the call as it read before'; 0 by the template 'total and deterministic' (their statements: YtbjjcampiknnpaaDoorTotals.lean).
  GIVEN WITH THE SEED: the statements are not yours to turn. If you find one false, say at which input.
  Laid BY PROGRAM, IN A SANDBOX (cutbox-rows.mjs): the forced cells as the released guide's own fill.sh prints them over the translation 092d3ec9c2711894… (all of the seat's roots in one cut). By AI agents, Wed Nov 11 2026. No macro, syntax, notation, axiom, sorry.
-/
import Derived.Test.YtbjjcampiknnpaaDoorChecked
import GoSem.PinnedTables
import GoSem.Claim
import GoSem.ClaimJoined
import GoSem.ClaimMapViews
import Derived.JoinedTies
import Derived.KernelRfl
namespace Go.Proofs.YtbjjcampiknnpaaDoor
/- THE CELL 'sum', in the pinned program and in every row, IS THE sha256 OF THE DUMP (.gsa) THAT YtbjjcampiknnpaaDoorProg.lean LOADS. Nothing in Lean hashes anything: it is a label: what it is worth is what the hold of that sum in a sandbox is worth. -/
noncomputable def Tryd.pinned : Pinned := { name := "ytbjjcampiknnpaadoor", sum := "092d3ec9c2711894640ca4f83994638071860035df03794e8df3c0ac96c343b1", checked := Tryd.checked }
namespace Rows
def none {H : Type} : Left H := { results := [], args := [] }

/- WHAT THE LISTED PACKAGE-LEVEL VARIABLES READ AS WHEN THE CALL BEGINS. Each datum BY PROGRAM (the guide's laid-datum.mjs) off the statement by which the dump's own 'gosem.cut.vars' lays the variable. In a bare row this is a premise. The card (YtbjjcampiknnpaaDoorCards.lean) ties it to the program's text. -/
def laid_unicode_utf8_acceptRanges {H : Type} : DataW H := .agg [.agg [.lit (.int .u8 128), .lit (.int .u8 191)], .agg [.lit (.int .u8 160), .lit (.int .u8 191)], .agg [.lit (.int .u8 128), .lit (.int .u8 159)], .agg [.lit (.int .u8 144), .lit (.int .u8 191)], .agg [.lit (.int .u8 128), .lit (.int .u8 143)], .agg [.lit (.int .u8 0), .lit (.int .u8 0)], .agg [.lit (.int .u8 0), .lit (.int .u8 0)], .agg [.lit (.int .u8 0), .lit (.int .u8 0)], .agg [.lit (.int .u8 0), .lit (.int .u8 0)], .agg [.lit (.int .u8 0), .lit (.int .u8 0)], .agg [.lit (.int .u8 0), .lit (.int .u8 0)], .agg [.lit (.int .u8 0), .lit (.int .u8 0)], .agg [.lit (.int .u8 0), .lit (.int .u8 0)], .agg [.lit (.int .u8 0), .lit (.int .u8 0)], .agg [.lit (.int .u8 0), .lit (.int .u8 0)], .agg [.lit (.int .u8 0), .lit (.int .u8 0)]]
/-- One of Go's own tables, pinned by name: the form's constant. -/
def laid_unicode_utf8_first : DataW Unit := Go.Pinned.utf8First

/-- 'n001_64.FnEncodeStringSpec': WHATEVER THE INPUT: true; the input reads as it did. -/
def fnEncodeStringSpecSpec : ChangeSpec := { name := "fnEncodeStringSpec", fn := fun _ => fun
  | [d] => { results := [.lit (.bool true)], args := [d] }
  | _ => none }
def fnEncodeStringSpecRow : OpenClaim := { program := "ytbjjcampiknnpaadoor", sum := "092d3ec9c2711894640ca4f83994638071860035df03794e8df3c0ac96c343b1", func := "github.com/itchyny/gojq/n001_64.FnEncodeStringSpec", spec := "fnEncodeStringSpec", unfollowed := true, recurses := true, named := ["unicode/utf8.first", "unicode/utf8.acceptRanges"], apart := false, laid := [("unicode/utf8.acceptRanges", laid_unicode_utf8_acceptRanges), ("unicode/utf8.first", laid_unicode_utf8_first)] }
def FnEncodeStringSpecSaid : Prop := fnEncodeStringSpecRow.holds Tryd.pinned (OpenSpec.ofChange fnEncodeStringSpecSpec)

/-- ITS FALSE NEIGHBOUR: 'it returns false'. Refute it at one input. -/
def fnEncodeStringSpecWrong : ChangeSpec := { name := "fnEncodeStringSpec", fn := fun _ => fun
  | [d] => { results := [.lit (.bool false)], args := [d] }
  | _ => none }
def FnEncodeStringSpecWrongFalsely : Prop := fnEncodeStringSpecRow.holds Tryd.pinned (OpenSpec.ofChange fnEncodeStringSpecWrong)

/-- 'n001_65.FnKeyValStringExact': WHATEVER THE INPUT: true; the input reads as it did. -/
def fnKeyValStringExactSpec : ChangeSpec := { name := "fnKeyValStringExact", fn := fun _ => fun
  | [d1, d2, d3] => { results := [.lit (.bool true)], args := [d1, d2, d3] }
  | _ => none }
def fnKeyValStringExactRow : OpenClaim := { program := "ytbjjcampiknnpaadoor", sum := "092d3ec9c2711894640ca4f83994638071860035df03794e8df3c0ac96c343b1", func := "github.com/itchyny/gojq/n001_65.FnKeyValStringExact", spec := "fnKeyValStringExact", inPlace := ["internal/abi.NoEscape"], unfollowed := true, recurses := true, named := ["unicode/utf8.first", "unicode/utf8.acceptRanges"], loops := true, apart := false, laid := [("unicode/utf8.acceptRanges", laid_unicode_utf8_acceptRanges), ("unicode/utf8.first", laid_unicode_utf8_first)] }
def FnKeyValStringExactSaid : Prop := fnKeyValStringExactRow.holds Tryd.pinned (OpenSpec.ofChange fnKeyValStringExactSpec)

/-- ITS FALSE NEIGHBOUR: 'it returns false'. Refute it at one input. -/
def fnKeyValStringExactWrong : ChangeSpec := { name := "fnKeyValStringExact", fn := fun _ => fun
  | [d1, d2, d3] => { results := [.lit (.bool false)], args := [d1, d2, d3] }
  | _ => none }
def FnKeyValStringExactWrongFalsely : Prop := fnKeyValStringExactRow.holds Tryd.pinned (OpenSpec.ofChange fnKeyValStringExactWrong)

/-- 'n001_65.FnKeyValWriteToAfterAnyPrefix': WHATEVER THE INPUT: true; the input reads as it did. -/
def fnKeyValWriteToAfterAnyPrefixSpec : ChangeSpec := { name := "fnKeyValWriteToAfterAnyPrefix", fn := fun _ => fun
  | [d1, d2, d3, d4] => { results := [.lit (.bool true)], args := [d1, d2, d3, d4] }
  | _ => none }
def fnKeyValWriteToAfterAnyPrefixRow : OpenClaim := { program := "ytbjjcampiknnpaadoor", sum := "092d3ec9c2711894640ca4f83994638071860035df03794e8df3c0ac96c343b1", func := "github.com/itchyny/gojq/n001_65.FnKeyValWriteToAfterAnyPrefix", spec := "fnKeyValWriteToAfterAnyPrefix", inPlace := ["internal/abi.NoEscape"], unfollowed := true, recurses := true, named := ["unicode/utf8.first", "unicode/utf8.acceptRanges"], loops := true, apart := false, laid := [("unicode/utf8.acceptRanges", laid_unicode_utf8_acceptRanges), ("unicode/utf8.first", laid_unicode_utf8_first)] }
def FnKeyValWriteToAfterAnyPrefixSaid : Prop := fnKeyValWriteToAfterAnyPrefixRow.holds Tryd.pinned (OpenSpec.ofChange fnKeyValWriteToAfterAnyPrefixSpec)

/-- ITS FALSE NEIGHBOUR: 'it returns false'. Refute it at one input. -/
def fnKeyValWriteToAfterAnyPrefixWrong : ChangeSpec := { name := "fnKeyValWriteToAfterAnyPrefix", fn := fun _ => fun
  | [d1, d2, d3, d4] => { results := [.lit (.bool false)], args := [d1, d2, d3, d4] }
  | _ => none }
def FnKeyValWriteToAfterAnyPrefixWrongFalsely : Prop := fnKeyValWriteToAfterAnyPrefixRow.holds Tryd.pinned (OpenSpec.ofChange fnKeyValWriteToAfterAnyPrefixWrong)

/-- 'n001_65.FnKeyValWriteToSequential': WHATEVER THE INPUT: true; the input reads as it did. -/
def fnKeyValWriteToSequentialSpec : ChangeSpec := { name := "fnKeyValWriteToSequential", fn := fun _ => fun
  | [d1, d2, d3, d4, d5, d6, d7] => { results := [.lit (.bool true)], args := [d1, d2, d3, d4, d5, d6, d7] }
  | _ => none }
def fnKeyValWriteToSequentialRow : OpenClaim := { program := "ytbjjcampiknnpaadoor", sum := "092d3ec9c2711894640ca4f83994638071860035df03794e8df3c0ac96c343b1", func := "github.com/itchyny/gojq/n001_65.FnKeyValWriteToSequential", spec := "fnKeyValWriteToSequential", inPlace := ["internal/abi.NoEscape"], unfollowed := true, recurses := true, named := ["unicode/utf8.first", "unicode/utf8.acceptRanges"], loops := true, apart := false, laid := [("unicode/utf8.acceptRanges", laid_unicode_utf8_acceptRanges), ("unicode/utf8.first", laid_unicode_utf8_first)] }
def FnKeyValWriteToSequentialSaid : Prop := fnKeyValWriteToSequentialRow.holds Tryd.pinned (OpenSpec.ofChange fnKeyValWriteToSequentialSpec)

/-- ITS FALSE NEIGHBOUR: 'it returns false'. Refute it at one input. -/
def fnKeyValWriteToSequentialWrong : ChangeSpec := { name := "fnKeyValWriteToSequential", fn := fun _ => fun
  | [d1, d2, d3, d4, d5, d6, d7] => { results := [.lit (.bool false)], args := [d1, d2, d3, d4, d5, d6, d7] }
  | _ => none }
def FnKeyValWriteToSequentialWrongFalsely : Prop := fnKeyValWriteToSequentialRow.holds Tryd.pinned (OpenSpec.ofChange fnKeyValWriteToSequentialWrong)

/-- 'n001_65.FnKeyValStringKeyChoice': WHATEVER THE INPUT: true; the input reads as it did. -/
def fnKeyValStringKeyChoiceSpec : ChangeSpec := { name := "fnKeyValStringKeyChoice", fn := fun _ => fun
  | [d1, d2, d3, d4] => { results := [.lit (.bool true)], args := [d1, d2, d3, d4] }
  | _ => none }
def fnKeyValStringKeyChoiceRow : OpenClaim := { program := "ytbjjcampiknnpaadoor", sum := "092d3ec9c2711894640ca4f83994638071860035df03794e8df3c0ac96c343b1", func := "github.com/itchyny/gojq/n001_65.FnKeyValStringKeyChoice", spec := "fnKeyValStringKeyChoice", inPlace := ["internal/abi.NoEscape"], unfollowed := true, recurses := true, named := ["unicode/utf8.first", "unicode/utf8.acceptRanges"], loops := true, apart := false, laid := [("unicode/utf8.acceptRanges", laid_unicode_utf8_acceptRanges), ("unicode/utf8.first", laid_unicode_utf8_first)] }
def FnKeyValStringKeyChoiceSaid : Prop := fnKeyValStringKeyChoiceRow.holds Tryd.pinned (OpenSpec.ofChange fnKeyValStringKeyChoiceSpec)

/-- ITS FALSE NEIGHBOUR: 'it returns false'. Refute it at one input. -/
def fnKeyValStringKeyChoiceWrong : ChangeSpec := { name := "fnKeyValStringKeyChoice", fn := fun _ => fun
  | [d1, d2, d3, d4] => { results := [.lit (.bool false)], args := [d1, d2, d3, d4] }
  | _ => none }
def FnKeyValStringKeyChoiceWrongFalsely : Prop := fnKeyValStringKeyChoiceRow.holds Tryd.pinned (OpenSpec.ofChange fnKeyValStringKeyChoiceWrong)

/-- 'n001_64.FnEncodeStringRoundTrip': WHATEVER THE INPUT: true; the input reads as it did. -/
def fnEncodeStringRoundTripSpec : ChangeSpec := { name := "fnEncodeStringRoundTrip", fn := fun _ => fun
  | [d] => { results := [.lit (.bool true)], args := [d] }
  | _ => none }
def fnEncodeStringRoundTripRow : OpenClaim := { program := "ytbjjcampiknnpaadoor", sum := "092d3ec9c2711894640ca4f83994638071860035df03794e8df3c0ac96c343b1", func := "github.com/itchyny/gojq/n001_64.FnEncodeStringRoundTrip", spec := "fnEncodeStringRoundTrip", unfollowed := true, recurses := true, named := ["unicode/utf8.first", "unicode/utf8.acceptRanges"], apart := false, laid := [("unicode/utf8.acceptRanges", laid_unicode_utf8_acceptRanges), ("unicode/utf8.first", laid_unicode_utf8_first)] }
def FnEncodeStringRoundTripSaid : Prop := fnEncodeStringRoundTripRow.holds Tryd.pinned (OpenSpec.ofChange fnEncodeStringRoundTripSpec)

/-- ITS FALSE NEIGHBOUR: 'it returns false'. Refute it at one input. -/
def fnEncodeStringRoundTripWrong : ChangeSpec := { name := "fnEncodeStringRoundTrip", fn := fun _ => fun
  | [d] => { results := [.lit (.bool false)], args := [d] }
  | _ => none }
def FnEncodeStringRoundTripWrongFalsely : Prop := fnEncodeStringRoundTripRow.holds Tryd.pinned (OpenSpec.ofChange fnEncodeStringRoundTripWrong)

/-- 'n001_65.FnConstArrayStringConcat': WHATEVER THE INPUT: true; the input reads as it did. -/
def fnConstArrayStringConcatSpec : ChangeSpec := { name := "fnConstArrayStringConcat", fn := fun _ => fun
  | [d1, d2] => { results := [.lit (.bool true)], args := [d1, d2] }
  | _ => none }
def fnConstArrayStringConcatRow : OpenClaim := { program := "ytbjjcampiknnpaadoor", sum := "092d3ec9c2711894640ca4f83994638071860035df03794e8df3c0ac96c343b1", func := "github.com/itchyny/gojq/n001_65.FnConstArrayStringConcat", spec := "fnConstArrayStringConcat", inPlace := ["internal/abi.NoEscape"], unfollowed := true, recurses := true, named := ["unicode/utf8.first", "unicode/utf8.acceptRanges"], apart := false, laid := [("unicode/utf8.acceptRanges", laid_unicode_utf8_acceptRanges), ("unicode/utf8.first", laid_unicode_utf8_first)] }
def FnConstArrayStringConcatSaid : Prop := fnConstArrayStringConcatRow.holds Tryd.pinned (OpenSpec.ofChange fnConstArrayStringConcatSpec)

/-- ITS FALSE NEIGHBOUR: 'it returns false'. Refute it at one input. -/
def fnConstArrayStringConcatWrong : ChangeSpec := { name := "fnConstArrayStringConcat", fn := fun _ => fun
  | [d1, d2] => { results := [.lit (.bool false)], args := [d1, d2] }
  | _ => none }
def FnConstArrayStringConcatWrongFalsely : Prop := fnConstArrayStringConcatRow.holds Tryd.pinned (OpenSpec.ofChange fnConstArrayStringConcatWrong)

/- THE SECOND FORM. 'bulk': how many values and letters a reading holds, each counted each time it is reached (what is shared counts as often as it is met; a slice's spare places count too). A statement '..UptoSaid' is the law's where the arguments, and the package variables that the reading takes, are together of bulk at most 1048576: NARROWER than '..Said'. Prove '..Said' where nothing that the law and all that it calls make is longer than what came in: it says more and counts as full. Else prove '..UptoSaid'. A law counts once. -/
mutual
def uptoBulk {H : Type} : DataW H → Nat
  | .lit (.string bytes) => bytes.length + 1
  | .lit _ => 1
  | .nil => 1
  | .ptr d => uptoBulk d + 1
  | .slice elems spare => uptoBulkAll elems + uptoBulkAll spare + 1
  | .agg parts => uptoBulkAll parts + 1
  | .iface _ d => uptoBulk d + 1
  | .map entries => uptoBulkEntries entries + 1
  | .held _ => 1
def uptoBulkAll {H : Type} : List (DataW H) → Nat
  | [] => 0
  | d :: r => uptoBulk d + uptoBulkAll r
def uptoBulkEntries {H : Type} : List (Lit × DataW H) → Nat
  | [] => 0
  | x :: r => uptoBulkEntry x + uptoBulkEntries r
def uptoBulkEntry {H : Type} : Lit × DataW H → Nat
  | (.string bytes, d) => bytes.length + uptoBulk d + 1
  | (_, d) => uptoBulk d + 1
 end
def uptoSmall : (H : Type) → List (DataW H) → Bool := fun _ ds => decide (uptoBulkAll ds ≤ 1048576)
def OpenSpec.upto (s : _root_.Go.ChangeSpec) : _root_.Go.OpenSpec := { _root_.Go.OpenSpec.ofChange s with cond := some uptoSmall }

/-- 'n001_64.FnEncodeStringSpec', WHERE WHAT IT READS IS OF BULK AT MOST 1048576: true; the input reads as it did. -/
def fnEncodeStringSpecUptoRow : OpenClaim := { program := "ytbjjcampiknnpaadoor", sum := "092d3ec9c2711894640ca4f83994638071860035df03794e8df3c0ac96c343b1", func := "github.com/itchyny/gojq/n001_64.FnEncodeStringSpec", spec := "fnEncodeStringSpec", unfollowed := true, recurses := true, named := ["unicode/utf8.first", "unicode/utf8.acceptRanges"], apart := false, laid := [("unicode/utf8.acceptRanges", laid_unicode_utf8_acceptRanges), ("unicode/utf8.first", laid_unicode_utf8_first)], narrowed := true }
def FnEncodeStringSpecUptoSaid : Prop := fnEncodeStringSpecUptoRow.holds Tryd.pinned (OpenSpec.upto fnEncodeStringSpecSpec)

/-- 'n001_65.FnKeyValStringExact', WHERE WHAT IT READS IS OF BULK AT MOST 1048576: true; the input reads as it did. -/
def fnKeyValStringExactUptoRow : OpenClaim := { program := "ytbjjcampiknnpaadoor", sum := "092d3ec9c2711894640ca4f83994638071860035df03794e8df3c0ac96c343b1", func := "github.com/itchyny/gojq/n001_65.FnKeyValStringExact", spec := "fnKeyValStringExact", inPlace := ["internal/abi.NoEscape"], unfollowed := true, recurses := true, named := ["unicode/utf8.first", "unicode/utf8.acceptRanges"], loops := true, apart := false, laid := [("unicode/utf8.acceptRanges", laid_unicode_utf8_acceptRanges), ("unicode/utf8.first", laid_unicode_utf8_first)], narrowed := true }
def FnKeyValStringExactUptoSaid : Prop := fnKeyValStringExactUptoRow.holds Tryd.pinned (OpenSpec.upto fnKeyValStringExactSpec)

/-- 'n001_65.FnKeyValWriteToAfterAnyPrefix', WHERE WHAT IT READS IS OF BULK AT MOST 1048576: true; the input reads as it did. -/
def fnKeyValWriteToAfterAnyPrefixUptoRow : OpenClaim := { program := "ytbjjcampiknnpaadoor", sum := "092d3ec9c2711894640ca4f83994638071860035df03794e8df3c0ac96c343b1", func := "github.com/itchyny/gojq/n001_65.FnKeyValWriteToAfterAnyPrefix", spec := "fnKeyValWriteToAfterAnyPrefix", inPlace := ["internal/abi.NoEscape"], unfollowed := true, recurses := true, named := ["unicode/utf8.first", "unicode/utf8.acceptRanges"], loops := true, apart := false, laid := [("unicode/utf8.acceptRanges", laid_unicode_utf8_acceptRanges), ("unicode/utf8.first", laid_unicode_utf8_first)], narrowed := true }
def FnKeyValWriteToAfterAnyPrefixUptoSaid : Prop := fnKeyValWriteToAfterAnyPrefixUptoRow.holds Tryd.pinned (OpenSpec.upto fnKeyValWriteToAfterAnyPrefixSpec)

/-- 'n001_65.FnKeyValWriteToSequential', WHERE WHAT IT READS IS OF BULK AT MOST 1048576: true; the input reads as it did. -/
def fnKeyValWriteToSequentialUptoRow : OpenClaim := { program := "ytbjjcampiknnpaadoor", sum := "092d3ec9c2711894640ca4f83994638071860035df03794e8df3c0ac96c343b1", func := "github.com/itchyny/gojq/n001_65.FnKeyValWriteToSequential", spec := "fnKeyValWriteToSequential", inPlace := ["internal/abi.NoEscape"], unfollowed := true, recurses := true, named := ["unicode/utf8.first", "unicode/utf8.acceptRanges"], loops := true, apart := false, laid := [("unicode/utf8.acceptRanges", laid_unicode_utf8_acceptRanges), ("unicode/utf8.first", laid_unicode_utf8_first)], narrowed := true }
def FnKeyValWriteToSequentialUptoSaid : Prop := fnKeyValWriteToSequentialUptoRow.holds Tryd.pinned (OpenSpec.upto fnKeyValWriteToSequentialSpec)

/-- 'n001_65.FnKeyValStringKeyChoice', WHERE WHAT IT READS IS OF BULK AT MOST 1048576: true; the input reads as it did. -/
def fnKeyValStringKeyChoiceUptoRow : OpenClaim := { program := "ytbjjcampiknnpaadoor", sum := "092d3ec9c2711894640ca4f83994638071860035df03794e8df3c0ac96c343b1", func := "github.com/itchyny/gojq/n001_65.FnKeyValStringKeyChoice", spec := "fnKeyValStringKeyChoice", inPlace := ["internal/abi.NoEscape"], unfollowed := true, recurses := true, named := ["unicode/utf8.first", "unicode/utf8.acceptRanges"], loops := true, apart := false, laid := [("unicode/utf8.acceptRanges", laid_unicode_utf8_acceptRanges), ("unicode/utf8.first", laid_unicode_utf8_first)], narrowed := true }
def FnKeyValStringKeyChoiceUptoSaid : Prop := fnKeyValStringKeyChoiceUptoRow.holds Tryd.pinned (OpenSpec.upto fnKeyValStringKeyChoiceSpec)

/-- 'n001_64.FnEncodeStringRoundTrip', WHERE WHAT IT READS IS OF BULK AT MOST 1048576: true; the input reads as it did. -/
def fnEncodeStringRoundTripUptoRow : OpenClaim := { program := "ytbjjcampiknnpaadoor", sum := "092d3ec9c2711894640ca4f83994638071860035df03794e8df3c0ac96c343b1", func := "github.com/itchyny/gojq/n001_64.FnEncodeStringRoundTrip", spec := "fnEncodeStringRoundTrip", unfollowed := true, recurses := true, named := ["unicode/utf8.first", "unicode/utf8.acceptRanges"], apart := false, laid := [("unicode/utf8.acceptRanges", laid_unicode_utf8_acceptRanges), ("unicode/utf8.first", laid_unicode_utf8_first)], narrowed := true }
def FnEncodeStringRoundTripUptoSaid : Prop := fnEncodeStringRoundTripUptoRow.holds Tryd.pinned (OpenSpec.upto fnEncodeStringRoundTripSpec)

/-- 'n001_65.FnConstArrayStringConcat', WHERE WHAT IT READS IS OF BULK AT MOST 1048576: true; the input reads as it did. -/
def fnConstArrayStringConcatUptoRow : OpenClaim := { program := "ytbjjcampiknnpaadoor", sum := "092d3ec9c2711894640ca4f83994638071860035df03794e8df3c0ac96c343b1", func := "github.com/itchyny/gojq/n001_65.FnConstArrayStringConcat", spec := "fnConstArrayStringConcat", inPlace := ["internal/abi.NoEscape"], unfollowed := true, recurses := true, named := ["unicode/utf8.first", "unicode/utf8.acceptRanges"], apart := false, laid := [("unicode/utf8.acceptRanges", laid_unicode_utf8_acceptRanges), ("unicode/utf8.first", laid_unicode_utf8_first)], narrowed := true }
def FnConstArrayStringConcatUptoSaid : Prop := fnConstArrayStringConcatUptoRow.holds Tryd.pinned (OpenSpec.upto fnConstArrayStringConcatSpec)

end Rows
end Go.Proofs.YtbjjcampiknnpaaDoor
