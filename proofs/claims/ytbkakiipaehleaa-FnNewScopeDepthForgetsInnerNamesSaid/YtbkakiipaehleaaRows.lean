/-
  No cell of these rows narrows 'for every input' (looked for: loops, veiled, ifaces, maps, wideKeys, modest, calm, conditions, laid).
  DERIVED. THE GIVEN ROWS OF THIS SEAT. 9 by the template 'for every input the law returns true; each argument reads behind the call as it read before'; 0 by the template 'total and deterministic' (their statements: YtbkakiipaehleaaTotals.lean).
  GIVEN WITH THE SEED: the statements are not yours to turn. If you find one false, say at which input.
  Laid BY PROGRAM, IN A SANDBOX (cutbox-rows.mjs): the forced cells as the released guide's own fill.sh prints them over the translation 70c5b3b2e31904c7… (all of the seat's roots in one cut). By AI agents, Wed Nov 11 2026. No macro, syntax, notation, axiom, sorry.
-/
import Derived.Test.YtbkakiipaehleaaChecked
import GoSem.Claim
import GoSem.ClaimJoined
import GoSem.ClaimMapViews
import Derived.JoinedTies
import Derived.KernelRfl
namespace Go.Proofs.Ytbkakiipaehleaa
/- THE CELL 'sum', in the pinned program and in every row, IS THE sha256 OF THE DUMP (.gsa) THAT YtbkakiipaehleaaProg.lean LOADS. Nothing in Lean hashes anything: it is a label: what it is worth is what the hold of that sum in a sandbox is worth. -/
noncomputable def Try.pinned : Pinned := { name := "ytbkakiipaehleaa", sum := "70c5b3b2e31904c71970895e6bc23ad27fd13ac36e18e76c8ae5b411424a1168", checked := Try.checked }
namespace Rows
def none {H : Type} : Left H := { results := [], args := [] }

/-- 'n001_66.FnScopeStackSaveRestoreBacktracks': WHATEVER THE INPUT: true; the input reads as it did. -/
def fnScopeStackSaveRestoreBacktracksSpec : ChangeSpec := { name := "fnScopeStackSaveRestoreBacktracks", fn := fun _ => fun
  | [d1, d2] => { results := [.lit (.bool true)], args := [d1, d2] }
  | _ => none }
def fnScopeStackSaveRestoreBacktracksRow : OpenClaim := { program := "ytbkakiipaehleaa", sum := "70c5b3b2e31904c71970895e6bc23ad27fd13ac36e18e76c8ae5b411424a1168", func := "github.com/itchyny/gojq/n001_66.FnScopeStackSaveRestoreBacktracks", spec := "fnScopeStackSaveRestoreBacktracks", apart := false }
def FnScopeStackSaveRestoreBacktracksSaid : Prop := fnScopeStackSaveRestoreBacktracksRow.holds Try.pinned (OpenSpec.ofChange fnScopeStackSaveRestoreBacktracksSpec)

/-- ITS FALSE NEIGHBOUR: 'it returns false'. Refute it at one input. -/
def fnScopeStackSaveRestoreBacktracksWrong : ChangeSpec := { name := "fnScopeStackSaveRestoreBacktracks", fn := fun _ => fun
  | [d1, d2] => { results := [.lit (.bool false)], args := [d1, d2] }
  | _ => none }
def FnScopeStackSaveRestoreBacktracksWrongFalsely : Prop := fnScopeStackSaveRestoreBacktracksRow.holds Try.pinned (OpenSpec.ofChange fnScopeStackSaveRestoreBacktracksWrong)

/-- 'n001_77.FnCreateVariableCountsUp': WHATEVER THE INPUT: true; the input reads as it did. -/
def fnCreateVariableCountsUpSpec : ChangeSpec := { name := "fnCreateVariableCountsUp", fn := fun _ => fun
  | [d] => { results := [.lit (.bool true)], args := [d] }
  | _ => none }
def fnCreateVariableCountsUpRow : OpenClaim := { program := "ytbkakiipaehleaa", sum := "70c5b3b2e31904c71970895e6bc23ad27fd13ac36e18e76c8ae5b411424a1168", func := "github.com/itchyny/gojq/n001_77.FnCreateVariableCountsUp", spec := "fnCreateVariableCountsUp", apart := false }
def FnCreateVariableCountsUpSaid : Prop := fnCreateVariableCountsUpRow.holds Try.pinned (OpenSpec.ofChange fnCreateVariableCountsUpSpec)

/-- ITS FALSE NEIGHBOUR: 'it returns false'. Refute it at one input. -/
def fnCreateVariableCountsUpWrong : ChangeSpec := { name := "fnCreateVariableCountsUp", fn := fun _ => fun
  | [d] => { results := [.lit (.bool false)], args := [d] }
  | _ => none }
def FnCreateVariableCountsUpWrongFalsely : Prop := fnCreateVariableCountsUpRow.holds Try.pinned (OpenSpec.ofChange fnCreateVariableCountsUpWrong)

/-- 'n001_73.FnAppendScript': WHATEVER THE INPUT: true; the input reads as it did. -/
def fnAppendScriptSpec : ChangeSpec := { name := "fnAppendScript", fn := fun _ => fun
  | [d] => { results := [.lit (.bool true)], args := [d] }
  | _ => none }
def fnAppendScriptRow : OpenClaim := { program := "ytbkakiipaehleaa", sum := "70c5b3b2e31904c71970895e6bc23ad27fd13ac36e18e76c8ae5b411424a1168", func := "github.com/itchyny/gojq/n001_73.FnAppendScript", spec := "fnAppendScript", apart := false }
def FnAppendScriptSaid : Prop := fnAppendScriptRow.holds Try.pinned (OpenSpec.ofChange fnAppendScriptSpec)

/-- ITS FALSE NEIGHBOUR: 'it returns false'. Refute it at one input. -/
def fnAppendScriptWrong : ChangeSpec := { name := "fnAppendScript", fn := fun _ => fun
  | [d] => { results := [.lit (.bool false)], args := [d] }
  | _ => none }
def FnAppendScriptWrongFalsely : Prop := fnAppendScriptRow.holds Try.pinned (OpenSpec.ofChange fnAppendScriptWrong)

/-- 'n001_58.FnNewScopeCountsIdsUpFromCounter': WHATEVER THE INPUT: true; the input reads as it did. -/
def fnNewScopeCountsIdsUpFromCounterSpec : ChangeSpec := { name := "fnNewScopeCountsIdsUpFromCounter", fn := fun _ => fun
  | [d1, d2] => { results := [.lit (.bool true)], args := [d1, d2] }
  | _ => none }
def fnNewScopeCountsIdsUpFromCounterRow : OpenClaim := { program := "ytbkakiipaehleaa", sum := "70c5b3b2e31904c71970895e6bc23ad27fd13ac36e18e76c8ae5b411424a1168", func := "github.com/itchyny/gojq/n001_58.FnNewScopeCountsIdsUpFromCounter", spec := "fnNewScopeCountsIdsUpFromCounter", apart := false }
def FnNewScopeCountsIdsUpFromCounterSaid : Prop := fnNewScopeCountsIdsUpFromCounterRow.holds Try.pinned (OpenSpec.ofChange fnNewScopeCountsIdsUpFromCounterSpec)

/-- ITS FALSE NEIGHBOUR: 'it returns false'. Refute it at one input. -/
def fnNewScopeCountsIdsUpFromCounterWrong : ChangeSpec := { name := "fnNewScopeCountsIdsUpFromCounter", fn := fun _ => fun
  | [d1, d2] => { results := [.lit (.bool false)], args := [d1, d2] }
  | _ => none }
def FnNewScopeCountsIdsUpFromCounterWrongFalsely : Prop := fnNewScopeCountsIdsUpFromCounterRow.holds Try.pinned (OpenSpec.ofChange fnNewScopeCountsIdsUpFromCounterWrong)

/-- 'n001_77.FnPushVariableIdempotent': WHATEVER THE INPUT: true; the input reads as it did. -/
def fnPushVariableIdempotentSpec : ChangeSpec := { name := "fnPushVariableIdempotent", fn := fun _ => fun
  | [d] => { results := [.lit (.bool true)], args := [d] }
  | _ => none }
def fnPushVariableIdempotentRow : OpenClaim := { program := "ytbkakiipaehleaa", sum := "70c5b3b2e31904c71970895e6bc23ad27fd13ac36e18e76c8ae5b411424a1168", func := "github.com/itchyny/gojq/n001_77.FnPushVariableIdempotent", spec := "fnPushVariableIdempotent", apart := false }
def FnPushVariableIdempotentSaid : Prop := fnPushVariableIdempotentRow.holds Try.pinned (OpenSpec.ofChange fnPushVariableIdempotentSpec)

/-- ITS FALSE NEIGHBOUR: 'it returns false'. Refute it at one input. -/
def fnPushVariableIdempotentWrong : ChangeSpec := { name := "fnPushVariableIdempotent", fn := fun _ => fun
  | [d] => { results := [.lit (.bool false)], args := [d] }
  | _ => none }
def FnPushVariableIdempotentWrongFalsely : Prop := fnPushVariableIdempotentRow.holds Try.pinned (OpenSpec.ofChange fnPushVariableIdempotentWrong)

/-- 'n001_77.FnPushVariableDedupRank': WHATEVER THE INPUT: true; the input reads as it did. -/
def fnPushVariableDedupRankSpec : ChangeSpec := { name := "fnPushVariableDedupRank", fn := fun _ => fun
  | [d] => { results := [.lit (.bool true)], args := [d] }
  | _ => none }
def fnPushVariableDedupRankRow : OpenClaim := { program := "ytbkakiipaehleaa", sum := "70c5b3b2e31904c71970895e6bc23ad27fd13ac36e18e76c8ae5b411424a1168", func := "github.com/itchyny/gojq/n001_77.FnPushVariableDedupRank", spec := "fnPushVariableDedupRank", apart := false }
def FnPushVariableDedupRankSaid : Prop := fnPushVariableDedupRankRow.holds Try.pinned (OpenSpec.ofChange fnPushVariableDedupRankSpec)

/-- ITS FALSE NEIGHBOUR: 'it returns false'. Refute it at one input. -/
def fnPushVariableDedupRankWrong : ChangeSpec := { name := "fnPushVariableDedupRank", fn := fun _ => fun
  | [d] => { results := [.lit (.bool false)], args := [d] }
  | _ => none }
def FnPushVariableDedupRankWrongFalsely : Prop := fnPushVariableDedupRankRow.holds Try.pinned (OpenSpec.ofChange fnPushVariableDedupRankWrong)

/-- 'n001_58.FnNewScopeDepthForgetsInnerNames': WHATEVER THE INPUT: true; the input reads as it did. -/
def fnNewScopeDepthForgetsInnerNamesSpec : ChangeSpec := { name := "fnNewScopeDepthForgetsInnerNames", fn := fun _ => fun
  | [d] => { results := [.lit (.bool true)], args := [d] }
  | _ => none }
def fnNewScopeDepthForgetsInnerNamesRow : OpenClaim := { program := "ytbkakiipaehleaa", sum := "70c5b3b2e31904c71970895e6bc23ad27fd13ac36e18e76c8ae5b411424a1168", func := "github.com/itchyny/gojq/n001_58.FnNewScopeDepthForgetsInnerNames", spec := "fnNewScopeDepthForgetsInnerNames", unfollowed := true, recurses := true, apart := false }
def FnNewScopeDepthForgetsInnerNamesSaid : Prop := fnNewScopeDepthForgetsInnerNamesRow.holds Try.pinned (OpenSpec.ofChange fnNewScopeDepthForgetsInnerNamesSpec)

/-- ITS FALSE NEIGHBOUR: 'it returns false'. Refute it at one input. -/
def fnNewScopeDepthForgetsInnerNamesWrong : ChangeSpec := { name := "fnNewScopeDepthForgetsInnerNames", fn := fun _ => fun
  | [d] => { results := [.lit (.bool false)], args := [d] }
  | _ => none }
def FnNewScopeDepthForgetsInnerNamesWrongFalsely : Prop := fnNewScopeDepthForgetsInnerNamesRow.holds Try.pinned (OpenSpec.ofChange fnNewScopeDepthForgetsInnerNamesWrong)

/-- 'n001_66.FnScopeStackBehavesAsLIFOStack': WHATEVER THE INPUT: true; the input reads as it did. -/
def fnScopeStackBehavesAsLIFOStackSpec : ChangeSpec := { name := "fnScopeStackBehavesAsLIFOStack", fn := fun _ => fun
  | [d1, d2] => { results := [.lit (.bool true)], args := [d1, d2] }
  | _ => none }
def fnScopeStackBehavesAsLIFOStackRow : OpenClaim := { program := "ytbkakiipaehleaa", sum := "70c5b3b2e31904c71970895e6bc23ad27fd13ac36e18e76c8ae5b411424a1168", func := "github.com/itchyny/gojq/n001_66.FnScopeStackBehavesAsLIFOStack", spec := "fnScopeStackBehavesAsLIFOStack", apart := false }
def FnScopeStackBehavesAsLIFOStackSaid : Prop := fnScopeStackBehavesAsLIFOStackRow.holds Try.pinned (OpenSpec.ofChange fnScopeStackBehavesAsLIFOStackSpec)

/-- ITS FALSE NEIGHBOUR: 'it returns false'. Refute it at one input. -/
def fnScopeStackBehavesAsLIFOStackWrong : ChangeSpec := { name := "fnScopeStackBehavesAsLIFOStack", fn := fun _ => fun
  | [d1, d2] => { results := [.lit (.bool false)], args := [d1, d2] }
  | _ => none }
def FnScopeStackBehavesAsLIFOStackWrongFalsely : Prop := fnScopeStackBehavesAsLIFOStackRow.holds Try.pinned (OpenSpec.ofChange fnScopeStackBehavesAsLIFOStackWrong)

/-- 'n001_6.FnNewEnvStacksAreFresh': WHATEVER THE INPUT: true; the input reads as it did. -/
def fnNewEnvStacksAreFreshSpec : ChangeSpec := { name := "fnNewEnvStacksAreFresh", fn := fun _ => fun
  | [] => { results := [.lit (.bool true)], args := [] }
  | _ => none }
def fnNewEnvStacksAreFreshRow : OpenClaim := { program := "ytbkakiipaehleaa", sum := "70c5b3b2e31904c71970895e6bc23ad27fd13ac36e18e76c8ae5b411424a1168", func := "github.com/itchyny/gojq/n001_6.FnNewEnvStacksAreFresh", spec := "fnNewEnvStacksAreFresh", apart := false }
def FnNewEnvStacksAreFreshSaid : Prop := fnNewEnvStacksAreFreshRow.holds Try.pinned (OpenSpec.ofChange fnNewEnvStacksAreFreshSpec)

/-- ITS FALSE NEIGHBOUR: 'it returns false'. Refute it at one input. -/
def fnNewEnvStacksAreFreshWrong : ChangeSpec := { name := "fnNewEnvStacksAreFresh", fn := fun _ => fun
  | [] => { results := [.lit (.bool false)], args := [] }
  | _ => none }
def FnNewEnvStacksAreFreshWrongFalsely : Prop := fnNewEnvStacksAreFreshRow.holds Try.pinned (OpenSpec.ofChange fnNewEnvStacksAreFreshWrong)

/- THE SECOND FORM. 'bulk': how many values and letters a reading holds, each counted each time it is reached (what is shared counts as often as it is met; a slice's spare places count too). A statement '..UptoSaid' is the law's where the arguments, and the package variables that the reading takes, are together of bulk at most 1048576: NARROWER than '..Said'. Prove '..Said' where nothing that the law and all that it calls make is longer than what came in: it says more and counts as full. Else prove '..UptoSaid'. A law counts once. -/
mutual
def uptoBulk {H : Type} : DataW H → Nat
  | .lit (.string bytes) => bytes.length + 1
  | .lit _ => 1
  | .nil => 1
  | .ptr d => uptoBulk d + 1
  | .slice elems spare => uptoBulkAll elems + uptoBulkAll spare + 1
  | .agg parts => uptoBulkAll parts + 1
  | .iface _ d => uptoBulk d + 1
  | .map entries => uptoBulkEntries entries + 1
  | .held _ => 1
def uptoBulkAll {H : Type} : List (DataW H) → Nat
  | [] => 0
  | d :: r => uptoBulk d + uptoBulkAll r
def uptoBulkEntries {H : Type} : List (Lit × DataW H) → Nat
  | [] => 0
  | x :: r => uptoBulkEntry x + uptoBulkEntries r
def uptoBulkEntry {H : Type} : Lit × DataW H → Nat
  | (.string bytes, d) => bytes.length + uptoBulk d + 1
  | (_, d) => uptoBulk d + 1
 end
def uptoSmall : (H : Type) → List (DataW H) → Bool := fun _ ds => decide (uptoBulkAll ds ≤ 1048576)
def OpenSpec.upto (s : _root_.Go.ChangeSpec) : _root_.Go.OpenSpec := { _root_.Go.OpenSpec.ofChange s with cond := some uptoSmall }

/-- 'n001_66.FnScopeStackSaveRestoreBacktracks', WHERE WHAT IT READS IS OF BULK AT MOST 1048576: true; the input reads as it did. -/
def fnScopeStackSaveRestoreBacktracksUptoRow : OpenClaim := { program := "ytbkakiipaehleaa", sum := "70c5b3b2e31904c71970895e6bc23ad27fd13ac36e18e76c8ae5b411424a1168", func := "github.com/itchyny/gojq/n001_66.FnScopeStackSaveRestoreBacktracks", spec := "fnScopeStackSaveRestoreBacktracks", apart := false, narrowed := true }
def FnScopeStackSaveRestoreBacktracksUptoSaid : Prop := fnScopeStackSaveRestoreBacktracksUptoRow.holds Try.pinned (OpenSpec.upto fnScopeStackSaveRestoreBacktracksSpec)

/-- 'n001_77.FnCreateVariableCountsUp', WHERE WHAT IT READS IS OF BULK AT MOST 1048576: true; the input reads as it did. -/
def fnCreateVariableCountsUpUptoRow : OpenClaim := { program := "ytbkakiipaehleaa", sum := "70c5b3b2e31904c71970895e6bc23ad27fd13ac36e18e76c8ae5b411424a1168", func := "github.com/itchyny/gojq/n001_77.FnCreateVariableCountsUp", spec := "fnCreateVariableCountsUp", apart := false, narrowed := true }
def FnCreateVariableCountsUpUptoSaid : Prop := fnCreateVariableCountsUpUptoRow.holds Try.pinned (OpenSpec.upto fnCreateVariableCountsUpSpec)

/-- 'n001_73.FnAppendScript', WHERE WHAT IT READS IS OF BULK AT MOST 1048576: true; the input reads as it did. -/
def fnAppendScriptUptoRow : OpenClaim := { program := "ytbkakiipaehleaa", sum := "70c5b3b2e31904c71970895e6bc23ad27fd13ac36e18e76c8ae5b411424a1168", func := "github.com/itchyny/gojq/n001_73.FnAppendScript", spec := "fnAppendScript", apart := false, narrowed := true }
def FnAppendScriptUptoSaid : Prop := fnAppendScriptUptoRow.holds Try.pinned (OpenSpec.upto fnAppendScriptSpec)

/-- 'n001_58.FnNewScopeCountsIdsUpFromCounter', WHERE WHAT IT READS IS OF BULK AT MOST 1048576: true; the input reads as it did. -/
def fnNewScopeCountsIdsUpFromCounterUptoRow : OpenClaim := { program := "ytbkakiipaehleaa", sum := "70c5b3b2e31904c71970895e6bc23ad27fd13ac36e18e76c8ae5b411424a1168", func := "github.com/itchyny/gojq/n001_58.FnNewScopeCountsIdsUpFromCounter", spec := "fnNewScopeCountsIdsUpFromCounter", apart := false, narrowed := true }
def FnNewScopeCountsIdsUpFromCounterUptoSaid : Prop := fnNewScopeCountsIdsUpFromCounterUptoRow.holds Try.pinned (OpenSpec.upto fnNewScopeCountsIdsUpFromCounterSpec)

/-- 'n001_77.FnPushVariableIdempotent', WHERE WHAT IT READS IS OF BULK AT MOST 1048576: true; the input reads as it did. -/
def fnPushVariableIdempotentUptoRow : OpenClaim := { program := "ytbkakiipaehleaa", sum := "70c5b3b2e31904c71970895e6bc23ad27fd13ac36e18e76c8ae5b411424a1168", func := "github.com/itchyny/gojq/n001_77.FnPushVariableIdempotent", spec := "fnPushVariableIdempotent", apart := false, narrowed := true }
def FnPushVariableIdempotentUptoSaid : Prop := fnPushVariableIdempotentUptoRow.holds Try.pinned (OpenSpec.upto fnPushVariableIdempotentSpec)

/-- 'n001_77.FnPushVariableDedupRank', WHERE WHAT IT READS IS OF BULK AT MOST 1048576: true; the input reads as it did. -/
def fnPushVariableDedupRankUptoRow : OpenClaim := { program := "ytbkakiipaehleaa", sum := "70c5b3b2e31904c71970895e6bc23ad27fd13ac36e18e76c8ae5b411424a1168", func := "github.com/itchyny/gojq/n001_77.FnPushVariableDedupRank", spec := "fnPushVariableDedupRank", apart := false, narrowed := true }
def FnPushVariableDedupRankUptoSaid : Prop := fnPushVariableDedupRankUptoRow.holds Try.pinned (OpenSpec.upto fnPushVariableDedupRankSpec)

/-- 'n001_58.FnNewScopeDepthForgetsInnerNames', WHERE WHAT IT READS IS OF BULK AT MOST 1048576: true; the input reads as it did. -/
def fnNewScopeDepthForgetsInnerNamesUptoRow : OpenClaim := { program := "ytbkakiipaehleaa", sum := "70c5b3b2e31904c71970895e6bc23ad27fd13ac36e18e76c8ae5b411424a1168", func := "github.com/itchyny/gojq/n001_58.FnNewScopeDepthForgetsInnerNames", spec := "fnNewScopeDepthForgetsInnerNames", unfollowed := true, recurses := true, apart := false, narrowed := true }
def FnNewScopeDepthForgetsInnerNamesUptoSaid : Prop := fnNewScopeDepthForgetsInnerNamesUptoRow.holds Try.pinned (OpenSpec.upto fnNewScopeDepthForgetsInnerNamesSpec)

/-- 'n001_66.FnScopeStackBehavesAsLIFOStack', WHERE WHAT IT READS IS OF BULK AT MOST 1048576: true; the input reads as it did. -/
def fnScopeStackBehavesAsLIFOStackUptoRow : OpenClaim := { program := "ytbkakiipaehleaa", sum := "70c5b3b2e31904c71970895e6bc23ad27fd13ac36e18e76c8ae5b411424a1168", func := "github.com/itchyny/gojq/n001_66.FnScopeStackBehavesAsLIFOStack", spec := "fnScopeStackBehavesAsLIFOStack", apart := false, narrowed := true }
def FnScopeStackBehavesAsLIFOStackUptoSaid : Prop := fnScopeStackBehavesAsLIFOStackUptoRow.holds Try.pinned (OpenSpec.upto fnScopeStackBehavesAsLIFOStackSpec)

/-- 'n001_6.FnNewEnvStacksAreFresh', WHERE WHAT IT READS IS OF BULK AT MOST 1048576: true; the input reads as it did. -/
def fnNewEnvStacksAreFreshUptoRow : OpenClaim := { program := "ytbkakiipaehleaa", sum := "70c5b3b2e31904c71970895e6bc23ad27fd13ac36e18e76c8ae5b411424a1168", func := "github.com/itchyny/gojq/n001_6.FnNewEnvStacksAreFresh", spec := "fnNewEnvStacksAreFresh", apart := false, narrowed := true }
def FnNewEnvStacksAreFreshUptoSaid : Prop := fnNewEnvStacksAreFreshUptoRow.holds Try.pinned (OpenSpec.upto fnNewEnvStacksAreFreshSpec)

end Rows
end Go.Proofs.Ytbkakiipaehleaa
