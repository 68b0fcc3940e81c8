/-
  No cell of these rows narrows 'for every input' (looked for: loops, veiled, ifaces, maps, wideKeys, modest, calm, conditions, laid).
  DERIVED. THE GIVEN ROWS OF THIS SEAT. 7 by the template 'for every input the law returns true; each argument reads behind the call as it read before'; 0 by the template 'total and deterministic' (their statements: YtaeficfjocinaaaTotals.lean).
  GIVEN WITH THE SEED: the statements are not yours to turn. If you find one false, say at which input.
  Laid BY PROGRAM, IN A SANDBOX (cutbox-rows.mjs): the forced cells as the released guide's own fill.sh prints them over the translation a7e0a5dc36a83116… (all of the seat's roots in one cut). By AI agents, Wed Nov 11 2026. No macro, syntax, notation, axiom, sorry.
-/
import Derived.Test.YtaeficfjocinaaaChecked
import GoSem.Claim
import GoSem.ClaimJoined
import GoSem.ClaimMapViews
import Derived.JoinedTies
import Derived.KernelRfl
namespace Go.Proofs.Ytaeficfjocinaaa
/- THE CELL 'sum', in the pinned program and in every row, IS THE sha256 OF THE DUMP (.gsa) THAT YtaeficfjocinaaaProg.lean LOADS. Nothing in Lean hashes anything: it is a label: what it is worth is what the hold of that sum in a sandbox is worth. -/
noncomputable def Try.pinned : Pinned := { name := "ytaeficfjocinaaa", sum := "a7e0a5dc36a8311645888ba55bc7311d991e5a9edf9b56887d49099563f411a8", checked := Try.checked }
namespace Rows
def none {H : Type} : Left H := { results := [], args := [] }

/-- 'n001_76.FnTailRecModel': WHATEVER THE INPUT: true; the input reads as it did. -/
def fnTailRecModelSpec : ChangeSpec := { name := "fnTailRecModel", fn := fun _ => fun
  | [d1, d2, d3, d4] => { results := [.lit (.bool true)], args := [d1, d2, d3, d4] }
  | _ => none }
def fnTailRecModelRow : OpenClaim := { program := "ytaeficfjocinaaa", sum := "a7e0a5dc36a8311645888ba55bc7311d991e5a9edf9b56887d49099563f411a8", func := "github.com/itchyny/gojq/n001_76.FnTailRecModel", spec := "fnTailRecModel", apart := false }
def FnTailRecModelSaid : Prop := fnTailRecModelRow.holds Try.pinned (OpenSpec.ofChange fnTailRecModelSpec)

/-- ITS FALSE NEIGHBOUR: 'it returns false'. Refute it at one input. -/
def fnTailRecModelWrong : ChangeSpec := { name := "fnTailRecModel", fn := fun _ => fun
  | [d1, d2, d3, d4] => { results := [.lit (.bool false)], args := [d1, d2, d3, d4] }
  | _ => none }
def FnTailRecModelWrongFalsely : Prop := fnTailRecModelRow.holds Try.pinned (OpenSpec.ofChange fnTailRecModelWrong)

/-- 'n001_76.FnTailRecRewritesOnlySelfCalls': WHATEVER THE INPUT: true; the input reads as it did. -/
def fnTailRecRewritesOnlySelfCallsSpec : ChangeSpec := { name := "fnTailRecRewritesOnlySelfCalls", fn := fun _ => fun
  | [d1, d2, d3, d4] => { results := [.lit (.bool true)], args := [d1, d2, d3, d4] }
  | _ => none }
def fnTailRecRewritesOnlySelfCallsRow : OpenClaim := { program := "ytaeficfjocinaaa", sum := "a7e0a5dc36a8311645888ba55bc7311d991e5a9edf9b56887d49099563f411a8", func := "github.com/itchyny/gojq/n001_76.FnTailRecRewritesOnlySelfCalls", spec := "fnTailRecRewritesOnlySelfCalls", apart := false }
def FnTailRecRewritesOnlySelfCallsSaid : Prop := fnTailRecRewritesOnlySelfCallsRow.holds Try.pinned (OpenSpec.ofChange fnTailRecRewritesOnlySelfCallsSpec)

/-- ITS FALSE NEIGHBOUR: 'it returns false'. Refute it at one input. -/
def fnTailRecRewritesOnlySelfCallsWrong : ChangeSpec := { name := "fnTailRecRewritesOnlySelfCalls", fn := fun _ => fun
  | [d1, d2, d3, d4] => { results := [.lit (.bool false)], args := [d1, d2, d3, d4] }
  | _ => none }
def FnTailRecRewritesOnlySelfCallsWrongFalsely : Prop := fnTailRecRewritesOnlySelfCallsRow.holds Try.pinned (OpenSpec.ofChange fnTailRecRewritesOnlySelfCallsWrong)

/-- 'n001_76.FnCodeOpsModel': WHATEVER THE INPUT: true; the input reads as it did. -/
def fnCodeOpsModelSpec : ChangeSpec := { name := "fnCodeOpsModel", fn := fun _ => fun
  | [d1, d2] => { results := [.lit (.bool true)], args := [d1, d2] }
  | _ => none }
def fnCodeOpsModelRow : OpenClaim := { program := "ytaeficfjocinaaa", sum := "a7e0a5dc36a8311645888ba55bc7311d991e5a9edf9b56887d49099563f411a8", func := "github.com/itchyny/gojq/n001_76.FnCodeOpsModel", spec := "fnCodeOpsModel", apart := false }
def FnCodeOpsModelSaid : Prop := fnCodeOpsModelRow.holds Try.pinned (OpenSpec.ofChange fnCodeOpsModelSpec)

/-- ITS FALSE NEIGHBOUR: 'it returns false'. Refute it at one input. -/
def fnCodeOpsModelWrong : ChangeSpec := { name := "fnCodeOpsModel", fn := fun _ => fun
  | [d1, d2] => { results := [.lit (.bool false)], args := [d1, d2] }
  | _ => none }
def FnCodeOpsModelWrongFalsely : Prop := fnCodeOpsModelRow.holds Try.pinned (OpenSpec.ofChange fnCodeOpsModelWrong)

/-- 'n001_76.FnAppendsExtendsInOrder': WHATEVER THE INPUT: true; the input reads as it did. -/
def fnAppendsExtendsInOrderSpec : ChangeSpec := { name := "fnAppendsExtendsInOrder", fn := fun _ => fun
  | [d1, d2, d3, d4] => { results := [.lit (.bool true)], args := [d1, d2, d3, d4] }
  | _ => none }
def fnAppendsExtendsInOrderRow : OpenClaim := { program := "ytaeficfjocinaaa", sum := "a7e0a5dc36a8311645888ba55bc7311d991e5a9edf9b56887d49099563f411a8", func := "github.com/itchyny/gojq/n001_76.FnAppendsExtendsInOrder", spec := "fnAppendsExtendsInOrder", apart := false }
def FnAppendsExtendsInOrderSaid : Prop := fnAppendsExtendsInOrderRow.holds Try.pinned (OpenSpec.ofChange fnAppendsExtendsInOrderSpec)

/-- ITS FALSE NEIGHBOUR: 'it returns false'. Refute it at one input. -/
def fnAppendsExtendsInOrderWrong : ChangeSpec := { name := "fnAppendsExtendsInOrder", fn := fun _ => fun
  | [d1, d2, d3, d4] => { results := [.lit (.bool false)], args := [d1, d2, d3, d4] }
  | _ => none }
def FnAppendsExtendsInOrderWrongFalsely : Prop := fnAppendsExtendsInOrderRow.holds Try.pinned (OpenSpec.ofChange fnAppendsExtendsInOrderWrong)

/-- 'n001_76.FnLazyReservesThenPatches': WHATEVER THE INPUT: true; the input reads as it did. -/
def fnLazyReservesThenPatchesSpec : ChangeSpec := { name := "fnLazyReservesThenPatches", fn := fun _ => fun
  | [d1, d2, d3, d4, d5] => { results := [.lit (.bool true)], args := [d1, d2, d3, d4, d5] }
  | _ => none }
def fnLazyReservesThenPatchesRow : OpenClaim := { program := "ytaeficfjocinaaa", sum := "a7e0a5dc36a8311645888ba55bc7311d991e5a9edf9b56887d49099563f411a8", func := "github.com/itchyny/gojq/n001_76.FnLazyReservesThenPatches", spec := "fnLazyReservesThenPatches", unfollowed := true, recurses := true, apart := false }
def FnLazyReservesThenPatchesSaid : Prop := fnLazyReservesThenPatchesRow.holds Try.pinned (OpenSpec.ofChange fnLazyReservesThenPatchesSpec)

/-- ITS FALSE NEIGHBOUR: 'it returns false'. Refute it at one input. -/
def fnLazyReservesThenPatchesWrong : ChangeSpec := { name := "fnLazyReservesThenPatches", fn := fun _ => fun
  | [d1, d2, d3, d4, d5] => { results := [.lit (.bool false)], args := [d1, d2, d3, d4, d5] }
  | _ => none }
def FnLazyReservesThenPatchesWrongFalsely : Prop := fnLazyReservesThenPatchesRow.holds Try.pinned (OpenSpec.ofChange fnLazyReservesThenPatchesWrong)

/-- 'n001_76.FnCodeOpsJumpsNeverLandOnJumps': WHATEVER THE INPUT: true; the input reads as it did. -/
def fnCodeOpsJumpsNeverLandOnJumpsSpec : ChangeSpec := { name := "fnCodeOpsJumpsNeverLandOnJumps", fn := fun _ => fun
  | [d1, d2] => { results := [.lit (.bool true)], args := [d1, d2] }
  | _ => none }
def fnCodeOpsJumpsNeverLandOnJumpsRow : OpenClaim := { program := "ytaeficfjocinaaa", sum := "a7e0a5dc36a8311645888ba55bc7311d991e5a9edf9b56887d49099563f411a8", func := "github.com/itchyny/gojq/n001_76.FnCodeOpsJumpsNeverLandOnJumps", spec := "fnCodeOpsJumpsNeverLandOnJumps", apart := false }
def FnCodeOpsJumpsNeverLandOnJumpsSaid : Prop := fnCodeOpsJumpsNeverLandOnJumpsRow.holds Try.pinned (OpenSpec.ofChange fnCodeOpsJumpsNeverLandOnJumpsSpec)

/-- ITS FALSE NEIGHBOUR: 'it returns false'. Refute it at one input. -/
def fnCodeOpsJumpsNeverLandOnJumpsWrong : ChangeSpec := { name := "fnCodeOpsJumpsNeverLandOnJumps", fn := fun _ => fun
  | [d1, d2] => { results := [.lit (.bool false)], args := [d1, d2] }
  | _ => none }
def FnCodeOpsJumpsNeverLandOnJumpsWrongFalsely : Prop := fnCodeOpsJumpsNeverLandOnJumpsRow.holds Try.pinned (OpenSpec.ofChange fnCodeOpsJumpsNeverLandOnJumpsWrong)

/-- 'n001_76.FnLazyFiringOrderFree': WHATEVER THE INPUT: true; the input reads as it did. -/
def fnLazyFiringOrderFreeSpec : ChangeSpec := { name := "fnLazyFiringOrderFree", fn := fun _ => fun
  | [d1, d2, d3, d4, d5, d6, d7] => { results := [.lit (.bool true)], args := [d1, d2, d3, d4, d5, d6, d7] }
  | _ => none }
def fnLazyFiringOrderFreeRow : OpenClaim := { program := "ytaeficfjocinaaa", sum := "a7e0a5dc36a8311645888ba55bc7311d991e5a9edf9b56887d49099563f411a8", func := "github.com/itchyny/gojq/n001_76.FnLazyFiringOrderFree", spec := "fnLazyFiringOrderFree", unfollowed := true, recurses := true, apart := false }
def FnLazyFiringOrderFreeSaid : Prop := fnLazyFiringOrderFreeRow.holds Try.pinned (OpenSpec.ofChange fnLazyFiringOrderFreeSpec)

/-- ITS FALSE NEIGHBOUR: 'it returns false'. Refute it at one input. -/
def fnLazyFiringOrderFreeWrong : ChangeSpec := { name := "fnLazyFiringOrderFree", fn := fun _ => fun
  | [d1, d2, d3, d4, d5, d6, d7] => { results := [.lit (.bool false)], args := [d1, d2, d3, d4, d5, d6, d7] }
  | _ => none }
def FnLazyFiringOrderFreeWrongFalsely : Prop := fnLazyFiringOrderFreeRow.holds Try.pinned (OpenSpec.ofChange fnLazyFiringOrderFreeWrong)

/- THE SECOND FORM. 'bulk': how many values and letters a reading holds, each counted each time it is reached (what is shared counts as often as it is met; a slice's spare places count too). A statement '..UptoSaid' is the law's where the arguments, and the package variables that the reading takes, are together of bulk at most 1048576: NARROWER than '..Said'. Prove '..Said' where nothing that the law and all that it calls make is longer than what came in: it says more and counts as full. Else prove '..UptoSaid'. A law counts once. -/
mutual
def uptoBulk {H : Type} : DataW H → Nat
  | .lit (.string bytes) => bytes.length + 1
  | .lit _ => 1
  | .nil => 1
  | .ptr d => uptoBulk d + 1
  | .slice elems spare => uptoBulkAll elems + uptoBulkAll spare + 1
  | .agg parts => uptoBulkAll parts + 1
  | .iface _ d => uptoBulk d + 1
  | .map entries => uptoBulkEntries entries + 1
  | .held _ => 1
def uptoBulkAll {H : Type} : List (DataW H) → Nat
  | [] => 0
  | d :: r => uptoBulk d + uptoBulkAll r
def uptoBulkEntries {H : Type} : List (Lit × DataW H) → Nat
  | [] => 0
  | x :: r => uptoBulkEntry x + uptoBulkEntries r
def uptoBulkEntry {H : Type} : Lit × DataW H → Nat
  | (.string bytes, d) => bytes.length + uptoBulk d + 1
  | (_, d) => uptoBulk d + 1
 end
def uptoSmall : (H : Type) → List (DataW H) → Bool := fun _ ds => decide (uptoBulkAll ds ≤ 1048576)
def OpenSpec.upto (s : _root_.Go.ChangeSpec) : _root_.Go.OpenSpec := { _root_.Go.OpenSpec.ofChange s with cond := some uptoSmall }

/-- 'n001_76.FnTailRecModel', WHERE WHAT IT READS IS OF BULK AT MOST 1048576: true; the input reads as it did. -/
def fnTailRecModelUptoRow : OpenClaim := { program := "ytaeficfjocinaaa", sum := "a7e0a5dc36a8311645888ba55bc7311d991e5a9edf9b56887d49099563f411a8", func := "github.com/itchyny/gojq/n001_76.FnTailRecModel", spec := "fnTailRecModel", apart := false, narrowed := true }
def FnTailRecModelUptoSaid : Prop := fnTailRecModelUptoRow.holds Try.pinned (OpenSpec.upto fnTailRecModelSpec)

/-- 'n001_76.FnTailRecRewritesOnlySelfCalls', WHERE WHAT IT READS IS OF BULK AT MOST 1048576: true; the input reads as it did. -/
def fnTailRecRewritesOnlySelfCallsUptoRow : OpenClaim := { program := "ytaeficfjocinaaa", sum := "a7e0a5dc36a8311645888ba55bc7311d991e5a9edf9b56887d49099563f411a8", func := "github.com/itchyny/gojq/n001_76.FnTailRecRewritesOnlySelfCalls", spec := "fnTailRecRewritesOnlySelfCalls", apart := false, narrowed := true }
def FnTailRecRewritesOnlySelfCallsUptoSaid : Prop := fnTailRecRewritesOnlySelfCallsUptoRow.holds Try.pinned (OpenSpec.upto fnTailRecRewritesOnlySelfCallsSpec)

/-- 'n001_76.FnCodeOpsModel', WHERE WHAT IT READS IS OF BULK AT MOST 1048576: true; the input reads as it did. -/
def fnCodeOpsModelUptoRow : OpenClaim := { program := "ytaeficfjocinaaa", sum := "a7e0a5dc36a8311645888ba55bc7311d991e5a9edf9b56887d49099563f411a8", func := "github.com/itchyny/gojq/n001_76.FnCodeOpsModel", spec := "fnCodeOpsModel", apart := false, narrowed := true }
def FnCodeOpsModelUptoSaid : Prop := fnCodeOpsModelUptoRow.holds Try.pinned (OpenSpec.upto fnCodeOpsModelSpec)

/-- 'n001_76.FnAppendsExtendsInOrder', WHERE WHAT IT READS IS OF BULK AT MOST 1048576: true; the input reads as it did. -/
def fnAppendsExtendsInOrderUptoRow : OpenClaim := { program := "ytaeficfjocinaaa", sum := "a7e0a5dc36a8311645888ba55bc7311d991e5a9edf9b56887d49099563f411a8", func := "github.com/itchyny/gojq/n001_76.FnAppendsExtendsInOrder", spec := "fnAppendsExtendsInOrder", apart := false, narrowed := true }
def FnAppendsExtendsInOrderUptoSaid : Prop := fnAppendsExtendsInOrderUptoRow.holds Try.pinned (OpenSpec.upto fnAppendsExtendsInOrderSpec)

/-- 'n001_76.FnLazyReservesThenPatches', WHERE WHAT IT READS IS OF BULK AT MOST 1048576: true; the input reads as it did. -/
def fnLazyReservesThenPatchesUptoRow : OpenClaim := { program := "ytaeficfjocinaaa", sum := "a7e0a5dc36a8311645888ba55bc7311d991e5a9edf9b56887d49099563f411a8", func := "github.com/itchyny/gojq/n001_76.FnLazyReservesThenPatches", spec := "fnLazyReservesThenPatches", unfollowed := true, recurses := true, apart := false, narrowed := true }
def FnLazyReservesThenPatchesUptoSaid : Prop := fnLazyReservesThenPatchesUptoRow.holds Try.pinned (OpenSpec.upto fnLazyReservesThenPatchesSpec)

/-- 'n001_76.FnCodeOpsJumpsNeverLandOnJumps', WHERE WHAT IT READS IS OF BULK AT MOST 1048576: true; the input reads as it did. -/
def fnCodeOpsJumpsNeverLandOnJumpsUptoRow : OpenClaim := { program := "ytaeficfjocinaaa", sum := "a7e0a5dc36a8311645888ba55bc7311d991e5a9edf9b56887d49099563f411a8", func := "github.com/itchyny/gojq/n001_76.FnCodeOpsJumpsNeverLandOnJumps", spec := "fnCodeOpsJumpsNeverLandOnJumps", apart := false, narrowed := true }
def FnCodeOpsJumpsNeverLandOnJumpsUptoSaid : Prop := fnCodeOpsJumpsNeverLandOnJumpsUptoRow.holds Try.pinned (OpenSpec.upto fnCodeOpsJumpsNeverLandOnJumpsSpec)

/-- 'n001_76.FnLazyFiringOrderFree', WHERE WHAT IT READS IS OF BULK AT MOST 1048576: true; the input reads as it did. -/
def fnLazyFiringOrderFreeUptoRow : OpenClaim := { program := "ytaeficfjocinaaa", sum := "a7e0a5dc36a8311645888ba55bc7311d991e5a9edf9b56887d49099563f411a8", func := "github.com/itchyny/gojq/n001_76.FnLazyFiringOrderFree", spec := "fnLazyFiringOrderFree", unfollowed := true, recurses := true, apart := false, narrowed := true }
def FnLazyFiringOrderFreeUptoSaid : Prop := fnLazyFiringOrderFreeUptoRow.holds Try.pinned (OpenSpec.upto fnLazyFiringOrderFreeSpec)

end Rows
end Go.Proofs.Ytaeficfjocinaaa
