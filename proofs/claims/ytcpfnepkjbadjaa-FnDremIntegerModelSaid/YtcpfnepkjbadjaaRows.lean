/-
  No cell of these rows narrows 'for every input' (looked for: loops, veiled, ifaces, maps, wideKeys, modest, calm, conditions, laid).
  DERIVED. THE GIVEN ROWS OF THIS SEAT. 9 by the template 'for every input the law returns true; each argument reads behind the call as it read before'; 0 by the template 'total and deterministic' (their statements: YtcpfnepkjbadjaaTotals.lean).
  GIVEN WITH THE SEED: the statements are not yours to turn. If you find one false, say at which input.
  Laid BY PROGRAM, IN A SANDBOX (cutbox-rows.mjs): the forced cells as the released guide's own fill.sh prints them over the translation a02bf08d3b431a17… (all of the seat's roots in one cut). By AI agents, Wed Nov 11 2026. No macro, syntax, notation, axiom, sorry.
-/
import Derived.Test.YtcpfnepkjbadjaaChecked
import GoSem.Claim
import GoSem.ClaimJoined
import GoSem.ClaimMapViews
import Derived.JoinedTies
import Derived.KernelRfl
namespace Go.Proofs.Ytcpfnepkjbadjaa
/- THE CELL 'sum', in the pinned program and in every row, IS THE sha256 OF THE DUMP (.gsa) THAT YtcpfnepkjbadjaaProg.lean LOADS. Nothing in Lean hashes anything: it is a label: what it is worth is what the hold of that sum in a sandbox is worth. -/
noncomputable def Try.pinned : Pinned := { name := "ytcpfnepkjbadjaa", sum := "a02bf08d3b431a17ccfca941af8e25890c70a20c4cd5e82fc13edd594370aa37", checked := Try.checked }
namespace Rows
def none {H : Type} : Left H := { results := [], args := [] }

/-- 'n001_60.FnLdexpIsExactScaling': WHATEVER THE INPUT: true; the input reads as it did. -/
def fnLdexpIsExactScalingSpec : ChangeSpec := { name := "fnLdexpIsExactScaling", fn := fun _ => fun
  | [d1, d2] => { results := [.lit (.bool true)], args := [d1, d2] }
  | _ => none }
def fnLdexpIsExactScalingRow : OpenClaim := { program := "ytcpfnepkjbadjaa", sum := "a02bf08d3b431a17ccfca941af8e25890c70a20c4cd5e82fc13edd594370aa37", func := "github.com/itchyny/gojq/n001_60.FnLdexpIsExactScaling", spec := "fnLdexpIsExactScaling", inPlace := ["math.Float64bits", "math.Float64frombits"], apart := false }
def FnLdexpIsExactScalingSaid : Prop := fnLdexpIsExactScalingRow.holds Try.pinned (OpenSpec.ofChange fnLdexpIsExactScalingSpec)

/-- ITS FALSE NEIGHBOUR: 'it returns false'. Refute it at one input. -/
def fnLdexpIsExactScalingWrong : ChangeSpec := { name := "fnLdexpIsExactScaling", fn := fun _ => fun
  | [d1, d2] => { results := [.lit (.bool false)], args := [d1, d2] }
  | _ => none }
def FnLdexpIsExactScalingWrongFalsely : Prop := fnLdexpIsExactScalingRow.holds Try.pinned (OpenSpec.ofChange fnLdexpIsExactScalingWrong)

/-- 'n001_60.FnLdexpRoundTrip': WHATEVER THE INPUT: true; the input reads as it did. -/
def fnLdexpRoundTripSpec : ChangeSpec := { name := "fnLdexpRoundTrip", fn := fun _ => fun
  | [d1, d2] => { results := [.lit (.bool true)], args := [d1, d2] }
  | _ => none }
def fnLdexpRoundTripRow : OpenClaim := { program := "ytcpfnepkjbadjaa", sum := "a02bf08d3b431a17ccfca941af8e25890c70a20c4cd5e82fc13edd594370aa37", func := "github.com/itchyny/gojq/n001_60.FnLdexpRoundTrip", spec := "fnLdexpRoundTrip", inPlace := ["math.Float64bits", "math.Float64frombits"], apart := false }
def FnLdexpRoundTripSaid : Prop := fnLdexpRoundTripRow.holds Try.pinned (OpenSpec.ofChange fnLdexpRoundTripSpec)

/-- ITS FALSE NEIGHBOUR: 'it returns false'. Refute it at one input. -/
def fnLdexpRoundTripWrong : ChangeSpec := { name := "fnLdexpRoundTrip", fn := fun _ => fun
  | [d1, d2] => { results := [.lit (.bool false)], args := [d1, d2] }
  | _ => none }
def FnLdexpRoundTripWrongFalsely : Prop := fnLdexpRoundTripRow.holds Try.pinned (OpenSpec.ofChange fnLdexpRoundTripWrong)

/-- 'n001_60.FnInfiniteIsPositiveInfinity': WHATEVER THE INPUT: true; the input reads as it did. -/
def fnInfiniteIsPositiveInfinitySpec : ChangeSpec := { name := "fnInfiniteIsPositiveInfinity", fn := fun _ => fun
  | [d1, d2] => { results := [.lit (.bool true)], args := [d1, d2] }
  | _ => none }
def fnInfiniteIsPositiveInfinityRow : OpenClaim := { program := "ytcpfnepkjbadjaa", sum := "a02bf08d3b431a17ccfca941af8e25890c70a20c4cd5e82fc13edd594370aa37", func := "github.com/itchyny/gojq/n001_60.FnInfiniteIsPositiveInfinity", spec := "fnInfiniteIsPositiveInfinity", inPlace := ["math.Float64frombits"], apart := false }
def FnInfiniteIsPositiveInfinitySaid : Prop := fnInfiniteIsPositiveInfinityRow.holds Try.pinned (OpenSpec.ofChange fnInfiniteIsPositiveInfinitySpec)

/-- ITS FALSE NEIGHBOUR: 'it returns false'. Refute it at one input. -/
def fnInfiniteIsPositiveInfinityWrong : ChangeSpec := { name := "fnInfiniteIsPositiveInfinity", fn := fun _ => fun
  | [d1, d2] => { results := [.lit (.bool false)], args := [d1, d2] }
  | _ => none }
def FnInfiniteIsPositiveInfinityWrongFalsely : Prop := fnInfiniteIsPositiveInfinityRow.holds Try.pinned (OpenSpec.ofChange fnInfiniteIsPositiveInfinityWrong)

/-- 'n001_60.FnLdexpTruncatesExponent': WHATEVER THE INPUT: true; the input reads as it did. -/
def fnLdexpTruncatesExponentSpec : ChangeSpec := { name := "fnLdexpTruncatesExponent", fn := fun _ => fun
  | [d1, d2, d3] => { results := [.lit (.bool true)], args := [d1, d2, d3] }
  | _ => none }
def fnLdexpTruncatesExponentRow : OpenClaim := { program := "ytcpfnepkjbadjaa", sum := "a02bf08d3b431a17ccfca941af8e25890c70a20c4cd5e82fc13edd594370aa37", func := "github.com/itchyny/gojq/n001_60.FnLdexpTruncatesExponent", spec := "fnLdexpTruncatesExponent", inPlace := ["math.Float64bits", "math.Float64frombits"], apart := false }
def FnLdexpTruncatesExponentSaid : Prop := fnLdexpTruncatesExponentRow.holds Try.pinned (OpenSpec.ofChange fnLdexpTruncatesExponentSpec)

/-- ITS FALSE NEIGHBOUR: 'it returns false'. Refute it at one input. -/
def fnLdexpTruncatesExponentWrong : ChangeSpec := { name := "fnLdexpTruncatesExponent", fn := fun _ => fun
  | [d1, d2, d3] => { results := [.lit (.bool false)], args := [d1, d2, d3] }
  | _ => none }
def FnLdexpTruncatesExponentWrongFalsely : Prop := fnLdexpTruncatesExponentRow.holds Try.pinned (OpenSpec.ofChange fnLdexpTruncatesExponentWrong)

/-- 'n001_60.FnInfiniteIsLdexpOverflowAndFixed': WHATEVER THE INPUT: true; the input reads as it did. -/
def fnInfiniteIsLdexpOverflowAndFixedSpec : ChangeSpec := { name := "fnInfiniteIsLdexpOverflowAndFixed", fn := fun _ => fun
  | [d1, d2, d3] => { results := [.lit (.bool true)], args := [d1, d2, d3] }
  | _ => none }
def fnInfiniteIsLdexpOverflowAndFixedRow : OpenClaim := { program := "ytcpfnepkjbadjaa", sum := "a02bf08d3b431a17ccfca941af8e25890c70a20c4cd5e82fc13edd594370aa37", func := "github.com/itchyny/gojq/n001_60.FnInfiniteIsLdexpOverflowAndFixed", spec := "fnInfiniteIsLdexpOverflowAndFixed", inPlace := ["math.Float64frombits", "math.Float64bits"], apart := false }
def FnInfiniteIsLdexpOverflowAndFixedSaid : Prop := fnInfiniteIsLdexpOverflowAndFixedRow.holds Try.pinned (OpenSpec.ofChange fnInfiniteIsLdexpOverflowAndFixedSpec)

/-- ITS FALSE NEIGHBOUR: 'it returns false'. Refute it at one input. -/
def fnInfiniteIsLdexpOverflowAndFixedWrong : ChangeSpec := { name := "fnInfiniteIsLdexpOverflowAndFixed", fn := fun _ => fun
  | [d1, d2, d3] => { results := [.lit (.bool false)], args := [d1, d2, d3] }
  | _ => none }
def FnInfiniteIsLdexpOverflowAndFixedWrongFalsely : Prop := fnInfiniteIsLdexpOverflowAndFixedRow.holds Try.pinned (OpenSpec.ofChange fnInfiniteIsLdexpOverflowAndFixedWrong)

/-- 'n001_54.FnDremSpecialCasesAndBound': WHATEVER THE INPUT: true; the input reads as it did. -/
def fnDremSpecialCasesAndBoundSpec : ChangeSpec := { name := "fnDremSpecialCasesAndBound", fn := fun _ => fun
  | [d1, d2] => { results := [.lit (.bool true)], args := [d1, d2] }
  | _ => none }
def fnDremSpecialCasesAndBoundRow : OpenClaim := { program := "ytcpfnepkjbadjaa", sum := "a02bf08d3b431a17ccfca941af8e25890c70a20c4cd5e82fc13edd594370aa37", func := "github.com/itchyny/gojq/n001_54.FnDremSpecialCasesAndBound", spec := "fnDremSpecialCasesAndBound", inPlace := ["math.Float64bits", "math.Float64frombits"], apart := false }
def FnDremSpecialCasesAndBoundSaid : Prop := fnDremSpecialCasesAndBoundRow.holds Try.pinned (OpenSpec.ofChange fnDremSpecialCasesAndBoundSpec)

/-- ITS FALSE NEIGHBOUR: 'it returns false'. Refute it at one input. -/
def fnDremSpecialCasesAndBoundWrong : ChangeSpec := { name := "fnDremSpecialCasesAndBound", fn := fun _ => fun
  | [d1, d2] => { results := [.lit (.bool false)], args := [d1, d2] }
  | _ => none }
def FnDremSpecialCasesAndBoundWrongFalsely : Prop := fnDremSpecialCasesAndBoundRow.holds Try.pinned (OpenSpec.ofChange fnDremSpecialCasesAndBoundWrong)

/-- 'n001_54.FnFmaxSpec': WHATEVER THE INPUT: true; the input reads as it did. -/
def fnFmaxSpecSpec : ChangeSpec := { name := "fnFmaxSpec", fn := fun _ => fun
  | [d1, d2] => { results := [.lit (.bool true)], args := [d1, d2] }
  | _ => none }
def fnFmaxSpecRow : OpenClaim := { program := "ytcpfnepkjbadjaa", sum := "a02bf08d3b431a17ccfca941af8e25890c70a20c4cd5e82fc13edd594370aa37", func := "github.com/itchyny/gojq/n001_54.FnFmaxSpec", spec := "fnFmaxSpec", apart := false }
def FnFmaxSpecSaid : Prop := fnFmaxSpecRow.holds Try.pinned (OpenSpec.ofChange fnFmaxSpecSpec)

/-- ITS FALSE NEIGHBOUR: 'it returns false'. Refute it at one input. -/
def fnFmaxSpecWrong : ChangeSpec := { name := "fnFmaxSpec", fn := fun _ => fun
  | [d1, d2] => { results := [.lit (.bool false)], args := [d1, d2] }
  | _ => none }
def FnFmaxSpecWrongFalsely : Prop := fnFmaxSpecRow.holds Try.pinned (OpenSpec.ofChange fnFmaxSpecWrong)

/-- 'n001_54.FnFminSpec': WHATEVER THE INPUT: true; the input reads as it did. -/
def fnFminSpecSpec : ChangeSpec := { name := "fnFminSpec", fn := fun _ => fun
  | [d1, d2] => { results := [.lit (.bool true)], args := [d1, d2] }
  | _ => none }
def fnFminSpecRow : OpenClaim := { program := "ytcpfnepkjbadjaa", sum := "a02bf08d3b431a17ccfca941af8e25890c70a20c4cd5e82fc13edd594370aa37", func := "github.com/itchyny/gojq/n001_54.FnFminSpec", spec := "fnFminSpec", apart := false }
def FnFminSpecSaid : Prop := fnFminSpecRow.holds Try.pinned (OpenSpec.ofChange fnFminSpecSpec)

/-- ITS FALSE NEIGHBOUR: 'it returns false'. Refute it at one input. -/
def fnFminSpecWrong : ChangeSpec := { name := "fnFminSpec", fn := fun _ => fun
  | [d1, d2] => { results := [.lit (.bool false)], args := [d1, d2] }
  | _ => none }
def FnFminSpecWrongFalsely : Prop := fnFminSpecRow.holds Try.pinned (OpenSpec.ofChange fnFminSpecWrong)

/-- 'n001_54.FnDremIntegerModel': WHATEVER THE INPUT: true; the input reads as it did. -/
def fnDremIntegerModelSpec : ChangeSpec := { name := "fnDremIntegerModel", fn := fun _ => fun
  | [d1, d2] => { results := [.lit (.bool true)], args := [d1, d2] }
  | _ => none }
def fnDremIntegerModelRow : OpenClaim := { program := "ytcpfnepkjbadjaa", sum := "a02bf08d3b431a17ccfca941af8e25890c70a20c4cd5e82fc13edd594370aa37", func := "github.com/itchyny/gojq/n001_54.FnDremIntegerModel", spec := "fnDremIntegerModel", inPlace := ["math.Float64bits", "math.Float64frombits"], apart := false }
def FnDremIntegerModelSaid : Prop := fnDremIntegerModelRow.holds Try.pinned (OpenSpec.ofChange fnDremIntegerModelSpec)

/-- ITS FALSE NEIGHBOUR: 'it returns false'. Refute it at one input. -/
def fnDremIntegerModelWrong : ChangeSpec := { name := "fnDremIntegerModel", fn := fun _ => fun
  | [d1, d2] => { results := [.lit (.bool false)], args := [d1, d2] }
  | _ => none }
def FnDremIntegerModelWrongFalsely : Prop := fnDremIntegerModelRow.holds Try.pinned (OpenSpec.ofChange fnDremIntegerModelWrong)

/- THE SECOND FORM. 'bulk': how many values and letters a reading holds, each counted each time it is reached (what is shared counts as often as it is met; a slice's spare places count too). A statement '..UptoSaid' is the law's where the arguments, and the package variables that the reading takes, are together of bulk at most 1048576: NARROWER than '..Said'. Prove '..Said' where nothing that the law and all that it calls make is longer than what came in: it says more and counts as full. Else prove '..UptoSaid'. A law counts once. -/
mutual
def uptoBulk {H : Type} : DataW H → Nat
  | .lit (.string bytes) => bytes.length + 1
  | .lit _ => 1
  | .nil => 1
  | .ptr d => uptoBulk d + 1
  | .slice elems spare => uptoBulkAll elems + uptoBulkAll spare + 1
  | .agg parts => uptoBulkAll parts + 1
  | .iface _ d => uptoBulk d + 1
  | .map entries => uptoBulkEntries entries + 1
  | .held _ => 1
def uptoBulkAll {H : Type} : List (DataW H) → Nat
  | [] => 0
  | d :: r => uptoBulk d + uptoBulkAll r
def uptoBulkEntries {H : Type} : List (Lit × DataW H) → Nat
  | [] => 0
  | x :: r => uptoBulkEntry x + uptoBulkEntries r
def uptoBulkEntry {H : Type} : Lit × DataW H → Nat
  | (.string bytes, d) => bytes.length + uptoBulk d + 1
  | (_, d) => uptoBulk d + 1
 end
def uptoSmall : (H : Type) → List (DataW H) → Bool := fun _ ds => decide (uptoBulkAll ds ≤ 1048576)
def OpenSpec.upto (s : _root_.Go.ChangeSpec) : _root_.Go.OpenSpec := { _root_.Go.OpenSpec.ofChange s with cond := some uptoSmall }

/-- 'n001_60.FnLdexpIsExactScaling', WHERE WHAT IT READS IS OF BULK AT MOST 1048576: true; the input reads as it did. -/
def fnLdexpIsExactScalingUptoRow : OpenClaim := { program := "ytcpfnepkjbadjaa", sum := "a02bf08d3b431a17ccfca941af8e25890c70a20c4cd5e82fc13edd594370aa37", func := "github.com/itchyny/gojq/n001_60.FnLdexpIsExactScaling", spec := "fnLdexpIsExactScaling", inPlace := ["math.Float64bits", "math.Float64frombits"], apart := false, narrowed := true }
def FnLdexpIsExactScalingUptoSaid : Prop := fnLdexpIsExactScalingUptoRow.holds Try.pinned (OpenSpec.upto fnLdexpIsExactScalingSpec)

/-- 'n001_60.FnLdexpRoundTrip', WHERE WHAT IT READS IS OF BULK AT MOST 1048576: true; the input reads as it did. -/
def fnLdexpRoundTripUptoRow : OpenClaim := { program := "ytcpfnepkjbadjaa", sum := "a02bf08d3b431a17ccfca941af8e25890c70a20c4cd5e82fc13edd594370aa37", func := "github.com/itchyny/gojq/n001_60.FnLdexpRoundTrip", spec := "fnLdexpRoundTrip", inPlace := ["math.Float64bits", "math.Float64frombits"], apart := false, narrowed := true }
def FnLdexpRoundTripUptoSaid : Prop := fnLdexpRoundTripUptoRow.holds Try.pinned (OpenSpec.upto fnLdexpRoundTripSpec)

/-- 'n001_60.FnInfiniteIsPositiveInfinity', WHERE WHAT IT READS IS OF BULK AT MOST 1048576: true; the input reads as it did. -/
def fnInfiniteIsPositiveInfinityUptoRow : OpenClaim := { program := "ytcpfnepkjbadjaa", sum := "a02bf08d3b431a17ccfca941af8e25890c70a20c4cd5e82fc13edd594370aa37", func := "github.com/itchyny/gojq/n001_60.FnInfiniteIsPositiveInfinity", spec := "fnInfiniteIsPositiveInfinity", inPlace := ["math.Float64frombits"], apart := false, narrowed := true }
def FnInfiniteIsPositiveInfinityUptoSaid : Prop := fnInfiniteIsPositiveInfinityUptoRow.holds Try.pinned (OpenSpec.upto fnInfiniteIsPositiveInfinitySpec)

/-- 'n001_60.FnLdexpTruncatesExponent', WHERE WHAT IT READS IS OF BULK AT MOST 1048576: true; the input reads as it did. -/
def fnLdexpTruncatesExponentUptoRow : OpenClaim := { program := "ytcpfnepkjbadjaa", sum := "a02bf08d3b431a17ccfca941af8e25890c70a20c4cd5e82fc13edd594370aa37", func := "github.com/itchyny/gojq/n001_60.FnLdexpTruncatesExponent", spec := "fnLdexpTruncatesExponent", inPlace := ["math.Float64bits", "math.Float64frombits"], apart := false, narrowed := true }
def FnLdexpTruncatesExponentUptoSaid : Prop := fnLdexpTruncatesExponentUptoRow.holds Try.pinned (OpenSpec.upto fnLdexpTruncatesExponentSpec)

/-- 'n001_60.FnInfiniteIsLdexpOverflowAndFixed', WHERE WHAT IT READS IS OF BULK AT MOST 1048576: true; the input reads as it did. -/
def fnInfiniteIsLdexpOverflowAndFixedUptoRow : OpenClaim := { program := "ytcpfnepkjbadjaa", sum := "a02bf08d3b431a17ccfca941af8e25890c70a20c4cd5e82fc13edd594370aa37", func := "github.com/itchyny/gojq/n001_60.FnInfiniteIsLdexpOverflowAndFixed", spec := "fnInfiniteIsLdexpOverflowAndFixed", inPlace := ["math.Float64frombits", "math.Float64bits"], apart := false, narrowed := true }
def FnInfiniteIsLdexpOverflowAndFixedUptoSaid : Prop := fnInfiniteIsLdexpOverflowAndFixedUptoRow.holds Try.pinned (OpenSpec.upto fnInfiniteIsLdexpOverflowAndFixedSpec)

/-- 'n001_54.FnDremSpecialCasesAndBound', WHERE WHAT IT READS IS OF BULK AT MOST 1048576: true; the input reads as it did. -/
def fnDremSpecialCasesAndBoundUptoRow : OpenClaim := { program := "ytcpfnepkjbadjaa", sum := "a02bf08d3b431a17ccfca941af8e25890c70a20c4cd5e82fc13edd594370aa37", func := "github.com/itchyny/gojq/n001_54.FnDremSpecialCasesAndBound", spec := "fnDremSpecialCasesAndBound", inPlace := ["math.Float64bits", "math.Float64frombits"], apart := false, narrowed := true }
def FnDremSpecialCasesAndBoundUptoSaid : Prop := fnDremSpecialCasesAndBoundUptoRow.holds Try.pinned (OpenSpec.upto fnDremSpecialCasesAndBoundSpec)

/-- 'n001_54.FnFmaxSpec', WHERE WHAT IT READS IS OF BULK AT MOST 1048576: true; the input reads as it did. -/
def fnFmaxSpecUptoRow : OpenClaim := { program := "ytcpfnepkjbadjaa", sum := "a02bf08d3b431a17ccfca941af8e25890c70a20c4cd5e82fc13edd594370aa37", func := "github.com/itchyny/gojq/n001_54.FnFmaxSpec", spec := "fnFmaxSpec", apart := false, narrowed := true }
def FnFmaxSpecUptoSaid : Prop := fnFmaxSpecUptoRow.holds Try.pinned (OpenSpec.upto fnFmaxSpecSpec)

/-- 'n001_54.FnFminSpec', WHERE WHAT IT READS IS OF BULK AT MOST 1048576: true; the input reads as it did. -/
def fnFminSpecUptoRow : OpenClaim := { program := "ytcpfnepkjbadjaa", sum := "a02bf08d3b431a17ccfca941af8e25890c70a20c4cd5e82fc13edd594370aa37", func := "github.com/itchyny/gojq/n001_54.FnFminSpec", spec := "fnFminSpec", apart := false, narrowed := true }
def FnFminSpecUptoSaid : Prop := fnFminSpecUptoRow.holds Try.pinned (OpenSpec.upto fnFminSpecSpec)

/-- 'n001_54.FnDremIntegerModel', WHERE WHAT IT READS IS OF BULK AT MOST 1048576: true; the input reads as it did. -/
def fnDremIntegerModelUptoRow : OpenClaim := { program := "ytcpfnepkjbadjaa", sum := "a02bf08d3b431a17ccfca941af8e25890c70a20c4cd5e82fc13edd594370aa37", func := "github.com/itchyny/gojq/n001_54.FnDremIntegerModel", spec := "fnDremIntegerModel", inPlace := ["math.Float64bits", "math.Float64frombits"], apart := false, narrowed := true }
def FnDremIntegerModelUptoSaid : Prop := fnDremIntegerModelUptoRow.holds Try.pinned (OpenSpec.upto fnDremIntegerModelSpec)

end Rows
end Go.Proofs.Ytcpfnepkjbadjaa
