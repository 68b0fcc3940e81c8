/-
  No cell of these rows narrows 'for every input' (looked for: loops, veiled, ifaces, maps, wideKeys, modest, calm, conditions, laid).
  DERIVED. THE GIVEN ROWS OF THIS SEAT. 4 by the template 'for every input the law returns true; each argument reads behind the call as it read before'; 0 by the template 'total and deterministic' (their statements: YtlnjbfloeliabaaTotals.lean).
  GIVEN WITH THE SEED: the statements are not yours to turn. If you find one false, say at which input.
  Laid BY PROGRAM, IN A SANDBOX (cutbox-rows.mjs): the forced cells as the released guide's own fill.sh prints them over the translation 0709e52ac9a85493… (all of the seat's roots in one cut). By AI agents, Wed Nov 11 2026. No macro, syntax, notation, axiom, sorry.
-/
import Derived.Test.YtlnjbfloeliabaaChecked
import GoSem.Claim
import GoSem.ClaimJoined
import GoSem.ClaimMapViews
import Derived.JoinedTies
import Derived.KernelRfl
namespace Go.Proofs.Ytlnjbfloeliabaa
/- THE CELL 'sum', in the pinned program and in every row, IS THE sha256 OF THE DUMP (.gsa) THAT YtlnjbfloeliabaaProg.lean LOADS. Nothing in Lean hashes anything: it is a label: what it is worth is what the hold of that sum in a sandbox is worth. -/
noncomputable def Try.pinned : Pinned := { name := "ytlnjbfloeliabaa", sum := "0709e52ac9a85493ca9a412ed3d9120df891a0bee851ab4ac5c7a8b9068cf824", checked := Try.checked }
namespace Rows
def none {H : Type} : Left H := { results := [], args := [] }

/-- 'n001_71.FnValidNumberMatchesGrammar': WHATEVER THE INPUT: true; the input reads as it did. -/
def fnValidNumberMatchesGrammarSpec : ChangeSpec := { name := "fnValidNumberMatchesGrammar", fn := fun _ => fun
  | [d] => { results := [.lit (.bool true)], args := [d] }
  | _ => none }
def fnValidNumberMatchesGrammarRow : OpenClaim := { program := "ytlnjbfloeliabaa", sum := "0709e52ac9a85493ca9a412ed3d9120df891a0bee851ab4ac5c7a8b9068cf824", func := "github.com/itchyny/gojq/n001_71.FnValidNumberMatchesGrammar", spec := "fnValidNumberMatchesGrammar", apart := false }
def FnValidNumberMatchesGrammarSaid : Prop := fnValidNumberMatchesGrammarRow.holds Try.pinned (OpenSpec.ofChange fnValidNumberMatchesGrammarSpec)

/-- ITS FALSE NEIGHBOUR: 'it returns false'. Refute it at one input. -/
def fnValidNumberMatchesGrammarWrong : ChangeSpec := { name := "fnValidNumberMatchesGrammar", fn := fun _ => fun
  | [d] => { results := [.lit (.bool false)], args := [d] }
  | _ => none }
def FnValidNumberMatchesGrammarWrongFalsely : Prop := fnValidNumberMatchesGrammarRow.holds Try.pinned (OpenSpec.ofChange fnValidNumberMatchesGrammarWrong)

/-- 'n001_71.FnScanNumberMatchesGrammar': WHATEVER THE INPUT: true; the input reads as it did. -/
def fnScanNumberMatchesGrammarSpec : ChangeSpec := { name := "fnScanNumberMatchesGrammar", fn := fun _ => fun
  | [d1, d2, d3] => { results := [.lit (.bool true)], args := [d1, d2, d3] }
  | _ => none }
def fnScanNumberMatchesGrammarRow : OpenClaim := { program := "ytlnjbfloeliabaa", sum := "0709e52ac9a85493ca9a412ed3d9120df891a0bee851ab4ac5c7a8b9068cf824", func := "github.com/itchyny/gojq/n001_71.FnScanNumberMatchesGrammar", spec := "fnScanNumberMatchesGrammar", apart := false }
def FnScanNumberMatchesGrammarSaid : Prop := fnScanNumberMatchesGrammarRow.holds Try.pinned (OpenSpec.ofChange fnScanNumberMatchesGrammarSpec)

/-- ITS FALSE NEIGHBOUR: 'it returns false'. Refute it at one input. -/
def fnScanNumberMatchesGrammarWrong : ChangeSpec := { name := "fnScanNumberMatchesGrammar", fn := fun _ => fun
  | [d1, d2, d3] => { results := [.lit (.bool false)], args := [d1, d2, d3] }
  | _ => none }
def FnScanNumberMatchesGrammarWrongFalsely : Prop := fnScanNumberMatchesGrammarRow.holds Try.pinned (OpenSpec.ofChange fnScanNumberMatchesGrammarWrong)

/-- 'n001_71.FnValidNumberSignAndDigitAppend': WHATEVER THE INPUT: true; the input reads as it did. -/
def fnValidNumberSignAndDigitAppendSpec : ChangeSpec := { name := "fnValidNumberSignAndDigitAppend", fn := fun _ => fun
  | [d] => { results := [.lit (.bool true)], args := [d] }
  | _ => none }
def fnValidNumberSignAndDigitAppendRow : OpenClaim := { program := "ytlnjbfloeliabaa", sum := "0709e52ac9a85493ca9a412ed3d9120df891a0bee851ab4ac5c7a8b9068cf824", func := "github.com/itchyny/gojq/n001_71.FnValidNumberSignAndDigitAppend", spec := "fnValidNumberSignAndDigitAppend", apart := false }
def FnValidNumberSignAndDigitAppendSaid : Prop := fnValidNumberSignAndDigitAppendRow.holds Try.pinned (OpenSpec.ofChange fnValidNumberSignAndDigitAppendSpec)

/-- ITS FALSE NEIGHBOUR: 'it returns false'. Refute it at one input. -/
def fnValidNumberSignAndDigitAppendWrong : ChangeSpec := { name := "fnValidNumberSignAndDigitAppend", fn := fun _ => fun
  | [d] => { results := [.lit (.bool false)], args := [d] }
  | _ => none }
def FnValidNumberSignAndDigitAppendWrongFalsely : Prop := fnValidNumberSignAndDigitAppendRow.holds Try.pinned (OpenSpec.ofChange fnValidNumberSignAndDigitAppendWrong)

/-- 'n001_71.FnScanNumberPrefixIsValidNumber': WHATEVER THE INPUT: true; the input reads as it did. -/
def fnScanNumberPrefixIsValidNumberSpec : ChangeSpec := { name := "fnScanNumberPrefixIsValidNumber", fn := fun _ => fun
  | [d1, d2] => { results := [.lit (.bool true)], args := [d1, d2] }
  | _ => none }
def fnScanNumberPrefixIsValidNumberRow : OpenClaim := { program := "ytlnjbfloeliabaa", sum := "0709e52ac9a85493ca9a412ed3d9120df891a0bee851ab4ac5c7a8b9068cf824", func := "github.com/itchyny/gojq/n001_71.FnScanNumberPrefixIsValidNumber", spec := "fnScanNumberPrefixIsValidNumber", apart := false }
def FnScanNumberPrefixIsValidNumberSaid : Prop := fnScanNumberPrefixIsValidNumberRow.holds Try.pinned (OpenSpec.ofChange fnScanNumberPrefixIsValidNumberSpec)

/-- ITS FALSE NEIGHBOUR: 'it returns false'. Refute it at one input. -/
def fnScanNumberPrefixIsValidNumberWrong : ChangeSpec := { name := "fnScanNumberPrefixIsValidNumber", fn := fun _ => fun
  | [d1, d2] => { results := [.lit (.bool false)], args := [d1, d2] }
  | _ => none }
def FnScanNumberPrefixIsValidNumberWrongFalsely : Prop := fnScanNumberPrefixIsValidNumberRow.holds Try.pinned (OpenSpec.ofChange fnScanNumberPrefixIsValidNumberWrong)

/- THE SECOND FORM. 'bulk': how many values and letters a reading holds, each counted each time it is reached (what is shared counts as often as it is met; a slice's spare places count too). A statement '..UptoSaid' is the law's where the arguments, and the package variables that the reading takes, are together of bulk at most 1048576: NARROWER than '..Said'. Prove '..Said' where nothing that the law and all that it calls make is longer than what came in: it says more and counts as full. Else prove '..UptoSaid'. A law counts once. -/
mutual
def uptoBulk {H : Type} : DataW H → Nat
  | .lit (.string bytes) => bytes.length + 1
  | .lit _ => 1
  | .nil => 1
  | .ptr d => uptoBulk d + 1
  | .slice elems spare => uptoBulkAll elems + uptoBulkAll spare + 1
  | .agg parts => uptoBulkAll parts + 1
  | .iface _ d => uptoBulk d + 1
  | .map entries => uptoBulkEntries entries + 1
  | .held _ => 1
def uptoBulkAll {H : Type} : List (DataW H) → Nat
  | [] => 0
  | d :: r => uptoBulk d + uptoBulkAll r
def uptoBulkEntries {H : Type} : List (Lit × DataW H) → Nat
  | [] => 0
  | x :: r => uptoBulkEntry x + uptoBulkEntries r
def uptoBulkEntry {H : Type} : Lit × DataW H → Nat
  | (.string bytes, d) => bytes.length + uptoBulk d + 1
  | (_, d) => uptoBulk d + 1
 end
def uptoSmall : (H : Type) → List (DataW H) → Bool := fun _ ds => decide (uptoBulkAll ds ≤ 1048576)
def OpenSpec.upto (s : _root_.Go.ChangeSpec) : _root_.Go.OpenSpec := { _root_.Go.OpenSpec.ofChange s with cond := some uptoSmall }

/-- 'n001_71.FnValidNumberMatchesGrammar', WHERE WHAT IT READS IS OF BULK AT MOST 1048576: true; the input reads as it did. -/
def fnValidNumberMatchesGrammarUptoRow : OpenClaim := { program := "ytlnjbfloeliabaa", sum := "0709e52ac9a85493ca9a412ed3d9120df891a0bee851ab4ac5c7a8b9068cf824", func := "github.com/itchyny/gojq/n001_71.FnValidNumberMatchesGrammar", spec := "fnValidNumberMatchesGrammar", apart := false, narrowed := true }
def FnValidNumberMatchesGrammarUptoSaid : Prop := fnValidNumberMatchesGrammarUptoRow.holds Try.pinned (OpenSpec.upto fnValidNumberMatchesGrammarSpec)

/-- 'n001_71.FnScanNumberMatchesGrammar', WHERE WHAT IT READS IS OF BULK AT MOST 1048576: true; the input reads as it did. -/
def fnScanNumberMatchesGrammarUptoRow : OpenClaim := { program := "ytlnjbfloeliabaa", sum := "0709e52ac9a85493ca9a412ed3d9120df891a0bee851ab4ac5c7a8b9068cf824", func := "github.com/itchyny/gojq/n001_71.FnScanNumberMatchesGrammar", spec := "fnScanNumberMatchesGrammar", apart := false, narrowed := true }
def FnScanNumberMatchesGrammarUptoSaid : Prop := fnScanNumberMatchesGrammarUptoRow.holds Try.pinned (OpenSpec.upto fnScanNumberMatchesGrammarSpec)

/-- 'n001_71.FnValidNumberSignAndDigitAppend', WHERE WHAT IT READS IS OF BULK AT MOST 1048576: true; the input reads as it did. -/
def fnValidNumberSignAndDigitAppendUptoRow : OpenClaim := { program := "ytlnjbfloeliabaa", sum := "0709e52ac9a85493ca9a412ed3d9120df891a0bee851ab4ac5c7a8b9068cf824", func := "github.com/itchyny/gojq/n001_71.FnValidNumberSignAndDigitAppend", spec := "fnValidNumberSignAndDigitAppend", apart := false, narrowed := true }
def FnValidNumberSignAndDigitAppendUptoSaid : Prop := fnValidNumberSignAndDigitAppendUptoRow.holds Try.pinned (OpenSpec.upto fnValidNumberSignAndDigitAppendSpec)

/-- 'n001_71.FnScanNumberPrefixIsValidNumber', WHERE WHAT IT READS IS OF BULK AT MOST 1048576: true; the input reads as it did. -/
def fnScanNumberPrefixIsValidNumberUptoRow : OpenClaim := { program := "ytlnjbfloeliabaa", sum := "0709e52ac9a85493ca9a412ed3d9120df891a0bee851ab4ac5c7a8b9068cf824", func := "github.com/itchyny/gojq/n001_71.FnScanNumberPrefixIsValidNumber", spec := "fnScanNumberPrefixIsValidNumber", apart := false, narrowed := true }
def FnScanNumberPrefixIsValidNumberUptoSaid : Prop := fnScanNumberPrefixIsValidNumberUptoRow.holds Try.pinned (OpenSpec.upto fnScanNumberPrefixIsValidNumberSpec)

end Rows
end Go.Proofs.Ytlnjbfloeliabaa
