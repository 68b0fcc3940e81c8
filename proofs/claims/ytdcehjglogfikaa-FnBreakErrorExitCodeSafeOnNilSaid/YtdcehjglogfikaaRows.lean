/-
  No cell of these rows narrows 'for every input' (looked for: loops, veiled, ifaces, maps, wideKeys, modest, calm, conditions, laid).
  DERIVED. THE GIVEN ROWS OF THIS SEAT. 7 by the template 'for every input the law returns true; each argument reads behind the call as it read before'; 0 by the template 'total and deterministic' (their statements: YtdcehjglogfikaaTotals.lean).
  GIVEN WITH THE SEED: the statements are not yours to turn. If you find one false, say at which input.
  Laid BY PROGRAM, IN A SANDBOX (cutbox-rows.mjs): the forced cells as the released guide's own fill.sh prints them over the translation 1edebef57f2db504… (all of the seat's roots in one cut). By AI agents, Wed Nov 11 2026. No macro, syntax, notation, axiom, sorry.
-/
import Derived.Test.YtdcehjglogfikaaChecked
import GoSem.Claim
import GoSem.ClaimJoined
import GoSem.ClaimMapViews
import Derived.JoinedTies
import Derived.KernelRfl
namespace Go.Proofs.Ytdcehjglogfikaa
/- THE CELL 'sum', in the pinned program and in every row, IS THE sha256 OF THE DUMP (.gsa) THAT YtdcehjglogfikaaProg.lean LOADS. Nothing in Lean hashes anything: it is a label: what it is worth is what the hold of that sum in a sandbox is worth. -/
noncomputable def Try.pinned : Pinned := { name := "ytdcehjglogfikaa", sum := "1edebef57f2db5044f315d46d27e8832dd7f9e75baf01ceaaf018793bc99bfd7", checked := Try.checked }
namespace Rows
def none {H : Type} : Left H := { results := [], args := [] }

/-- 'n001_74.FnOperatorStringIsInjective': WHATEVER THE INPUT: true; the input reads as it did. -/
def fnOperatorStringIsInjectiveSpec : ChangeSpec := { name := "fnOperatorStringIsInjective", fn := fun _ => fun
  | [d1, d2] => { results := [.lit (.bool true)], args := [d1, d2] }
  | _ => none }
def fnOperatorStringIsInjectiveRow : OpenClaim := { program := "ytdcehjglogfikaa", sum := "1edebef57f2db5044f315d46d27e8832dd7f9e75baf01ceaaf018793bc99bfd7", func := "github.com/itchyny/gojq/n001_74.FnOperatorStringIsInjective", spec := "fnOperatorStringIsInjective", apart := false }
def FnOperatorStringIsInjectiveSaid : Prop := fnOperatorStringIsInjectiveRow.holds Try.pinned (OpenSpec.ofChange fnOperatorStringIsInjectiveSpec)

/-- ITS FALSE NEIGHBOUR: 'it returns false'. Refute it at one input. -/
def fnOperatorStringIsInjectiveWrong : ChangeSpec := { name := "fnOperatorStringIsInjective", fn := fun _ => fun
  | [d1, d2] => { results := [.lit (.bool false)], args := [d1, d2] }
  | _ => none }
def FnOperatorStringIsInjectiveWrongFalsely : Prop := fnOperatorStringIsInjectiveRow.holds Try.pinned (OpenSpec.ofChange fnOperatorStringIsInjectiveWrong)

/-- 'n001_74.FnOperatorStringMatchesSpellingTable': WHATEVER THE INPUT: true; the input reads as it did. -/
def fnOperatorStringMatchesSpellingTableSpec : ChangeSpec := { name := "fnOperatorStringMatchesSpellingTable", fn := fun _ => fun
  | [d] => { results := [.lit (.bool true)], args := [d] }
  | _ => none }
def fnOperatorStringMatchesSpellingTableRow : OpenClaim := { program := "ytdcehjglogfikaa", sum := "1edebef57f2db5044f315d46d27e8832dd7f9e75baf01ceaaf018793bc99bfd7", func := "github.com/itchyny/gojq/n001_74.FnOperatorStringMatchesSpellingTable", spec := "fnOperatorStringMatchesSpellingTable", apart := false }
def FnOperatorStringMatchesSpellingTableSaid : Prop := fnOperatorStringMatchesSpellingTableRow.holds Try.pinned (OpenSpec.ofChange fnOperatorStringMatchesSpellingTableSpec)

/-- ITS FALSE NEIGHBOUR: 'it returns false'. Refute it at one input. -/
def fnOperatorStringMatchesSpellingTableWrong : ChangeSpec := { name := "fnOperatorStringMatchesSpellingTable", fn := fun _ => fun
  | [d] => { results := [.lit (.bool false)], args := [d] }
  | _ => none }
def FnOperatorStringMatchesSpellingTableWrongFalsely : Prop := fnOperatorStringMatchesSpellingTableRow.holds Try.pinned (OpenSpec.ofChange fnOperatorStringMatchesSpellingTableWrong)

/-- 'n001_74.FnOperatorUpdateSpellingIsBasePlusEquals': WHATEVER THE INPUT: true; the input reads as it did. -/
def fnOperatorUpdateSpellingIsBasePlusEqualsSpec : ChangeSpec := { name := "fnOperatorUpdateSpellingIsBasePlusEquals", fn := fun _ => fun
  | [d] => { results := [.lit (.bool true)], args := [d] }
  | _ => none }
def fnOperatorUpdateSpellingIsBasePlusEqualsRow : OpenClaim := { program := "ytdcehjglogfikaa", sum := "1edebef57f2db5044f315d46d27e8832dd7f9e75baf01ceaaf018793bc99bfd7", func := "github.com/itchyny/gojq/n001_74.FnOperatorUpdateSpellingIsBasePlusEquals", spec := "fnOperatorUpdateSpellingIsBasePlusEquals", apart := false }
def FnOperatorUpdateSpellingIsBasePlusEqualsSaid : Prop := fnOperatorUpdateSpellingIsBasePlusEqualsRow.holds Try.pinned (OpenSpec.ofChange fnOperatorUpdateSpellingIsBasePlusEqualsSpec)

/-- ITS FALSE NEIGHBOUR: 'it returns false'. Refute it at one input. -/
def fnOperatorUpdateSpellingIsBasePlusEqualsWrong : ChangeSpec := { name := "fnOperatorUpdateSpellingIsBasePlusEquals", fn := fun _ => fun
  | [d] => { results := [.lit (.bool false)], args := [d] }
  | _ => none }
def FnOperatorUpdateSpellingIsBasePlusEqualsWrongFalsely : Prop := fnOperatorUpdateSpellingIsBasePlusEqualsRow.holds Try.pinned (OpenSpec.ofChange fnOperatorUpdateSpellingIsBasePlusEqualsWrong)

/-- 'n001_69.FnBreakErrorExitCodeSafeOnNil': WHATEVER THE INPUT: true; the input reads as it did. -/
def fnBreakErrorExitCodeSafeOnNilSpec : ChangeSpec := { name := "fnBreakErrorExitCodeSafeOnNil", fn := fun _ => fun
  | [d] => { results := [.lit (.bool true)], args := [d] }
  | _ => none }
def fnBreakErrorExitCodeSafeOnNilRow : OpenClaim := { program := "ytdcehjglogfikaa", sum := "1edebef57f2db5044f315d46d27e8832dd7f9e75baf01ceaaf018793bc99bfd7", func := "github.com/itchyny/gojq/n001_69.FnBreakErrorExitCodeSafeOnNil", spec := "fnBreakErrorExitCodeSafeOnNil", apart := false }
def FnBreakErrorExitCodeSafeOnNilSaid : Prop := fnBreakErrorExitCodeSafeOnNilRow.holds Try.pinned (OpenSpec.ofChange fnBreakErrorExitCodeSafeOnNilSpec)

/-- ITS FALSE NEIGHBOUR: 'it returns false'. Refute it at one input. -/
def fnBreakErrorExitCodeSafeOnNilWrong : ChangeSpec := { name := "fnBreakErrorExitCodeSafeOnNil", fn := fun _ => fun
  | [d] => { results := [.lit (.bool false)], args := [d] }
  | _ => none }
def FnBreakErrorExitCodeSafeOnNilWrongFalsely : Prop := fnBreakErrorExitCodeSafeOnNilRow.holds Try.pinned (OpenSpec.ofChange fnBreakErrorExitCodeSafeOnNilWrong)

/-- 'n001_72.FnExpectedVariableErrorInjective': WHATEVER THE INPUT: true; the input reads as it did. -/
def fnExpectedVariableErrorInjectiveSpec : ChangeSpec := { name := "fnExpectedVariableErrorInjective", fn := fun _ => fun
  | [d1, d2] => { results := [.lit (.bool true)], args := [d1, d2] }
  | _ => none }
def fnExpectedVariableErrorInjectiveRow : OpenClaim := { program := "ytdcehjglogfikaa", sum := "1edebef57f2db5044f315d46d27e8832dd7f9e75baf01ceaaf018793bc99bfd7", func := "github.com/itchyny/gojq/n001_72.FnExpectedVariableErrorInjective", spec := "fnExpectedVariableErrorInjective", apart := false }
def FnExpectedVariableErrorInjectiveSaid : Prop := fnExpectedVariableErrorInjectiveRow.holds Try.pinned (OpenSpec.ofChange fnExpectedVariableErrorInjectiveSpec)

/-- ITS FALSE NEIGHBOUR: 'it returns false'. Refute it at one input. -/
def fnExpectedVariableErrorInjectiveWrong : ChangeSpec := { name := "fnExpectedVariableErrorInjective", fn := fun _ => fun
  | [d1, d2] => { results := [.lit (.bool false)], args := [d1, d2] }
  | _ => none }
def FnExpectedVariableErrorInjectiveWrongFalsely : Prop := fnExpectedVariableErrorInjectiveRow.holds Try.pinned (OpenSpec.ofChange fnExpectedVariableErrorInjectiveWrong)

/-- 'n001_72.FnVariableNotFoundErrorInjective': WHATEVER THE INPUT: true; the input reads as it did. -/
def fnVariableNotFoundErrorInjectiveSpec : ChangeSpec := { name := "fnVariableNotFoundErrorInjective", fn := fun _ => fun
  | [d1, d2] => { results := [.lit (.bool true)], args := [d1, d2] }
  | _ => none }
def fnVariableNotFoundErrorInjectiveRow : OpenClaim := { program := "ytdcehjglogfikaa", sum := "1edebef57f2db5044f315d46d27e8832dd7f9e75baf01ceaaf018793bc99bfd7", func := "github.com/itchyny/gojq/n001_72.FnVariableNotFoundErrorInjective", spec := "fnVariableNotFoundErrorInjective", apart := false }
def FnVariableNotFoundErrorInjectiveSaid : Prop := fnVariableNotFoundErrorInjectiveRow.holds Try.pinned (OpenSpec.ofChange fnVariableNotFoundErrorInjectiveSpec)

/-- ITS FALSE NEIGHBOUR: 'it returns false'. Refute it at one input. -/
def fnVariableNotFoundErrorInjectiveWrong : ChangeSpec := { name := "fnVariableNotFoundErrorInjective", fn := fun _ => fun
  | [d1, d2] => { results := [.lit (.bool false)], args := [d1, d2] }
  | _ => none }
def FnVariableNotFoundErrorInjectiveWrongFalsely : Prop := fnVariableNotFoundErrorInjectiveRow.holds Try.pinned (OpenSpec.ofChange fnVariableNotFoundErrorInjectiveWrong)

/-- 'n001_72.FnVariableErrorsNeverCollide': WHATEVER THE INPUT: true; the input reads as it did. -/
def fnVariableErrorsNeverCollideSpec : ChangeSpec := { name := "fnVariableErrorsNeverCollide", fn := fun _ => fun
  | [d1, d2] => { results := [.lit (.bool true)], args := [d1, d2] }
  | _ => none }
def fnVariableErrorsNeverCollideRow : OpenClaim := { program := "ytdcehjglogfikaa", sum := "1edebef57f2db5044f315d46d27e8832dd7f9e75baf01ceaaf018793bc99bfd7", func := "github.com/itchyny/gojq/n001_72.FnVariableErrorsNeverCollide", spec := "fnVariableErrorsNeverCollide", apart := false }
def FnVariableErrorsNeverCollideSaid : Prop := fnVariableErrorsNeverCollideRow.holds Try.pinned (OpenSpec.ofChange fnVariableErrorsNeverCollideSpec)

/-- ITS FALSE NEIGHBOUR: 'it returns false'. Refute it at one input. -/
def fnVariableErrorsNeverCollideWrong : ChangeSpec := { name := "fnVariableErrorsNeverCollide", fn := fun _ => fun
  | [d1, d2] => { results := [.lit (.bool false)], args := [d1, d2] }
  | _ => none }
def FnVariableErrorsNeverCollideWrongFalsely : Prop := fnVariableErrorsNeverCollideRow.holds Try.pinned (OpenSpec.ofChange fnVariableErrorsNeverCollideWrong)

/- THE SECOND FORM. 'bulk': how many values and letters a reading holds, each counted each time it is reached (what is shared counts as often as it is met; a slice's spare places count too). A statement '..UptoSaid' is the law's where the arguments, and the package variables that the reading takes, are together of bulk at most 1048576: NARROWER than '..Said'. Prove '..Said' where nothing that the law and all that it calls make is longer than what came in: it says more and counts as full. Else prove '..UptoSaid'. A law counts once. -/
mutual
def uptoBulk {H : Type} : DataW H → Nat
  | .lit (.string bytes) => bytes.length + 1
  | .lit _ => 1
  | .nil => 1
  | .ptr d => uptoBulk d + 1
  | .slice elems spare => uptoBulkAll elems + uptoBulkAll spare + 1
  | .agg parts => uptoBulkAll parts + 1
  | .iface _ d => uptoBulk d + 1
  | .map entries => uptoBulkEntries entries + 1
  | .held _ => 1
def uptoBulkAll {H : Type} : List (DataW H) → Nat
  | [] => 0
  | d :: r => uptoBulk d + uptoBulkAll r
def uptoBulkEntries {H : Type} : List (Lit × DataW H) → Nat
  | [] => 0
  | x :: r => uptoBulkEntry x + uptoBulkEntries r
def uptoBulkEntry {H : Type} : Lit × DataW H → Nat
  | (.string bytes, d) => bytes.length + uptoBulk d + 1
  | (_, d) => uptoBulk d + 1
 end
def uptoSmall : (H : Type) → List (DataW H) → Bool := fun _ ds => decide (uptoBulkAll ds ≤ 1048576)
def OpenSpec.upto (s : _root_.Go.ChangeSpec) : _root_.Go.OpenSpec := { _root_.Go.OpenSpec.ofChange s with cond := some uptoSmall }

/-- 'n001_74.FnOperatorStringIsInjective', WHERE WHAT IT READS IS OF BULK AT MOST 1048576: true; the input reads as it did. -/
def fnOperatorStringIsInjectiveUptoRow : OpenClaim := { program := "ytdcehjglogfikaa", sum := "1edebef57f2db5044f315d46d27e8832dd7f9e75baf01ceaaf018793bc99bfd7", func := "github.com/itchyny/gojq/n001_74.FnOperatorStringIsInjective", spec := "fnOperatorStringIsInjective", apart := false, narrowed := true }
def FnOperatorStringIsInjectiveUptoSaid : Prop := fnOperatorStringIsInjectiveUptoRow.holds Try.pinned (OpenSpec.upto fnOperatorStringIsInjectiveSpec)

/-- 'n001_74.FnOperatorStringMatchesSpellingTable', WHERE WHAT IT READS IS OF BULK AT MOST 1048576: true; the input reads as it did. -/
def fnOperatorStringMatchesSpellingTableUptoRow : OpenClaim := { program := "ytdcehjglogfikaa", sum := "1edebef57f2db5044f315d46d27e8832dd7f9e75baf01ceaaf018793bc99bfd7", func := "github.com/itchyny/gojq/n001_74.FnOperatorStringMatchesSpellingTable", spec := "fnOperatorStringMatchesSpellingTable", apart := false, narrowed := true }
def FnOperatorStringMatchesSpellingTableUptoSaid : Prop := fnOperatorStringMatchesSpellingTableUptoRow.holds Try.pinned (OpenSpec.upto fnOperatorStringMatchesSpellingTableSpec)

/-- 'n001_74.FnOperatorUpdateSpellingIsBasePlusEquals', WHERE WHAT IT READS IS OF BULK AT MOST 1048576: true; the input reads as it did. -/
def fnOperatorUpdateSpellingIsBasePlusEqualsUptoRow : OpenClaim := { program := "ytdcehjglogfikaa", sum := "1edebef57f2db5044f315d46d27e8832dd7f9e75baf01ceaaf018793bc99bfd7", func := "github.com/itchyny/gojq/n001_74.FnOperatorUpdateSpellingIsBasePlusEquals", spec := "fnOperatorUpdateSpellingIsBasePlusEquals", apart := false, narrowed := true }
def FnOperatorUpdateSpellingIsBasePlusEqualsUptoSaid : Prop := fnOperatorUpdateSpellingIsBasePlusEqualsUptoRow.holds Try.pinned (OpenSpec.upto fnOperatorUpdateSpellingIsBasePlusEqualsSpec)

/-- 'n001_69.FnBreakErrorExitCodeSafeOnNil', WHERE WHAT IT READS IS OF BULK AT MOST 1048576: true; the input reads as it did. -/
def fnBreakErrorExitCodeSafeOnNilUptoRow : OpenClaim := { program := "ytdcehjglogfikaa", sum := "1edebef57f2db5044f315d46d27e8832dd7f9e75baf01ceaaf018793bc99bfd7", func := "github.com/itchyny/gojq/n001_69.FnBreakErrorExitCodeSafeOnNil", spec := "fnBreakErrorExitCodeSafeOnNil", apart := false, narrowed := true }
def FnBreakErrorExitCodeSafeOnNilUptoSaid : Prop := fnBreakErrorExitCodeSafeOnNilUptoRow.holds Try.pinned (OpenSpec.upto fnBreakErrorExitCodeSafeOnNilSpec)

/-- 'n001_72.FnExpectedVariableErrorInjective', WHERE WHAT IT READS IS OF BULK AT MOST 1048576: true; the input reads as it did. -/
def fnExpectedVariableErrorInjectiveUptoRow : OpenClaim := { program := "ytdcehjglogfikaa", sum := "1edebef57f2db5044f315d46d27e8832dd7f9e75baf01ceaaf018793bc99bfd7", func := "github.com/itchyny/gojq/n001_72.FnExpectedVariableErrorInjective", spec := "fnExpectedVariableErrorInjective", apart := false, narrowed := true }
def FnExpectedVariableErrorInjectiveUptoSaid : Prop := fnExpectedVariableErrorInjectiveUptoRow.holds Try.pinned (OpenSpec.upto fnExpectedVariableErrorInjectiveSpec)

/-- 'n001_72.FnVariableNotFoundErrorInjective', WHERE WHAT IT READS IS OF BULK AT MOST 1048576: true; the input reads as it did. -/
def fnVariableNotFoundErrorInjectiveUptoRow : OpenClaim := { program := "ytdcehjglogfikaa", sum := "1edebef57f2db5044f315d46d27e8832dd7f9e75baf01ceaaf018793bc99bfd7", func := "github.com/itchyny/gojq/n001_72.FnVariableNotFoundErrorInjective", spec := "fnVariableNotFoundErrorInjective", apart := false, narrowed := true }
def FnVariableNotFoundErrorInjectiveUptoSaid : Prop := fnVariableNotFoundErrorInjectiveUptoRow.holds Try.pinned (OpenSpec.upto fnVariableNotFoundErrorInjectiveSpec)

/-- 'n001_72.FnVariableErrorsNeverCollide', WHERE WHAT IT READS IS OF BULK AT MOST 1048576: true; the input reads as it did. -/
def fnVariableErrorsNeverCollideUptoRow : OpenClaim := { program := "ytdcehjglogfikaa", sum := "1edebef57f2db5044f315d46d27e8832dd7f9e75baf01ceaaf018793bc99bfd7", func := "github.com/itchyny/gojq/n001_72.FnVariableErrorsNeverCollide", spec := "fnVariableErrorsNeverCollide", apart := false, narrowed := true }
def FnVariableErrorsNeverCollideUptoSaid : Prop := fnVariableErrorsNeverCollideUptoRow.holds Try.pinned (OpenSpec.upto fnVariableErrorsNeverCollideSpec)

end Rows
end Go.Proofs.Ytdcehjglogfikaa
