/-
  No cell of these rows narrows 'for every input' (looked for: loops, veiled, ifaces, maps, wideKeys, modest, calm, conditions, laid).
  DERIVED. THE GIVEN ROWS OF THIS SEAT. 3 by the template 'for every input the law returns true; each argument reads behind the call as it read before'; 0 by the template 'total and deterministic' (their statements: YtbkakiipaehleaaFmtTotals.lean).
  GIVEN WITH THE SEED: the statements are not yours to turn. If you find one false, say at which input.
  Laid BY PROGRAM, IN A SANDBOX (cutbox-rows.mjs): the forced cells as the released guide's own fill.sh prints them over the translation f537c78769c55e73… (all of the seat's roots in one cut). By AI agents, Wed Nov 11 2026. No macro, syntax, notation, axiom, sorry.
-/
import Derived.Test.YtbkakiipaehleaaFmtChecked
import GoSem.Claim
import GoSem.ClaimJoined
import GoSem.ClaimMapViews
import Derived.JoinedTies
import Derived.KernelRfl
namespace Go.Proofs.YtbkakiipaehleaaFmt
/- THE CELL 'sum', in the pinned program and in every row, IS THE sha256 OF THE DUMP (.gsa) THAT YtbkakiipaehleaaFmtProg.lean LOADS. Nothing in Lean hashes anything: it is a label: what it is worth is what the hold of that sum in a sandbox is worth. -/
noncomputable def Tryf.pinned : Pinned := { name := "ytbkakiipaehleaafmt", sum := "f537c78769c55e736f3fb5bf982d1f1cf842c8d54beae8a366c27b085bdb018a", checked := Tryf.checked }
namespace Rows
def none {H : Type} : Left H := { results := [], args := [] }

/-- 'n001_70.FnWithFunctionArgcountIsArityInterval': WHATEVER THE INPUT: true; the input reads as it did. -/
def fnWithFunctionArgcountIsArityIntervalSpec : ChangeSpec := { name := "fnWithFunctionArgcountIsArityInterval", fn := fun _ => fun
  | [d1, d2, d3] => { results := [.lit (.bool true)], args := [d1, d2, d3] }
  | _ => none }
def fnWithFunctionArgcountIsArityIntervalRow : OpenClaim := { program := "ytbkakiipaehleaafmt", sum := "f537c78769c55e736f3fb5bf982d1f1cf842c8d54beae8a366c27b085bdb018a", func := "github.com/itchyny/gojq/n001_70.FnWithFunctionArgcountIsArityInterval", spec := "fnWithFunctionArgcountIsArityInterval", stops := ["fmt.Sprintf"], inPlace := ["fmt.Sprintf"], unfollowed := true, recurses := true, apart := false }
/-- NO THEOREM (fmt's text is open here; it may be false): for the released tool's asking of the row's closed facts alone. THE STATEMENT IS 'FnWithFunctionArgcountIsArityIntervalToldSaid' (YtbkakiipaehleaaFmtCards.lean). -/
def FnWithFunctionArgcountIsArityIntervalFormAsk : Prop := fnWithFunctionArgcountIsArityIntervalRow.holds Tryf.pinned (OpenSpec.ofChange fnWithFunctionArgcountIsArityIntervalSpec)

/-- ITS FALSE NEIGHBOUR: 'it returns false'. Refute it at one input. -/
def fnWithFunctionArgcountIsArityIntervalWrong : ChangeSpec := { name := "fnWithFunctionArgcountIsArityInterval", fn := fun _ => fun
  | [d1, d2, d3] => { results := [.lit (.bool false)], args := [d1, d2, d3] }
  | _ => none }
def FnWithFunctionArgcountIsArityIntervalWrongFormAsk : Prop := fnWithFunctionArgcountIsArityIntervalRow.holds Tryf.pinned (OpenSpec.ofChange fnWithFunctionArgcountIsArityIntervalWrong)

/-- 'n001_70.FnWithFunctionTwoDefinitionsTable': WHATEVER THE INPUT: true; the input reads as it did. -/
def fnWithFunctionTwoDefinitionsTableSpec : ChangeSpec := { name := "fnWithFunctionTwoDefinitionsTable", fn := fun _ => fun
  | [d1, d2, d3, d4, d5, d6] => { results := [.lit (.bool true)], args := [d1, d2, d3, d4, d5, d6] }
  | _ => none }
def fnWithFunctionTwoDefinitionsTableRow : OpenClaim := { program := "ytbkakiipaehleaafmt", sum := "f537c78769c55e736f3fb5bf982d1f1cf842c8d54beae8a366c27b085bdb018a", func := "github.com/itchyny/gojq/n001_70.FnWithFunctionTwoDefinitionsTable", spec := "fnWithFunctionTwoDefinitionsTable", stops := ["fmt.Sprintf"], inPlace := ["fmt.Sprintf"], unfollowed := true, recurses := true, apart := false }
/-- NO THEOREM (fmt's text is open here; it may be false): for the released tool's asking of the row's closed facts alone. THE STATEMENT IS 'FnWithFunctionTwoDefinitionsTableToldSaid' (YtbkakiipaehleaaFmtCards.lean). -/
def FnWithFunctionTwoDefinitionsTableFormAsk : Prop := fnWithFunctionTwoDefinitionsTableRow.holds Tryf.pinned (OpenSpec.ofChange fnWithFunctionTwoDefinitionsTableSpec)

/-- ITS FALSE NEIGHBOUR: 'it returns false'. Refute it at one input. -/
def fnWithFunctionTwoDefinitionsTableWrong : ChangeSpec := { name := "fnWithFunctionTwoDefinitionsTable", fn := fun _ => fun
  | [d1, d2, d3, d4, d5, d6] => { results := [.lit (.bool false)], args := [d1, d2, d3, d4, d5, d6] }
  | _ => none }
def FnWithFunctionTwoDefinitionsTableWrongFormAsk : Prop := fnWithFunctionTwoDefinitionsTableRow.holds Tryf.pinned (OpenSpec.ofChange fnWithFunctionTwoDefinitionsTableWrong)

/-- 'n001_70.FnOptionsTouchOnlyTheirOwnField': WHATEVER THE INPUT: true; the input reads as it did. -/
def fnOptionsTouchOnlyTheirOwnFieldSpec : ChangeSpec := { name := "fnOptionsTouchOnlyTheirOwnField", fn := fun _ => fun
  | [d1, d2, d3, d4, d5] => { results := [.lit (.bool true)], args := [d1, d2, d3, d4, d5] }
  | _ => none }
def fnOptionsTouchOnlyTheirOwnFieldRow : OpenClaim := { program := "ytbkakiipaehleaafmt", sum := "f537c78769c55e736f3fb5bf982d1f1cf842c8d54beae8a366c27b085bdb018a", func := "github.com/itchyny/gojq/n001_70.FnOptionsTouchOnlyTheirOwnField", spec := "fnOptionsTouchOnlyTheirOwnField", stops := ["fmt.Sprintf"], inPlace := ["fmt.Sprintf"], unfollowed := true, recurses := true, apart := false }
/-- NO THEOREM (fmt's text is open here; it may be false): for the released tool's asking of the row's closed facts alone. THE STATEMENT IS 'FnOptionsTouchOnlyTheirOwnFieldToldSaid' (YtbkakiipaehleaaFmtCards.lean). -/
def FnOptionsTouchOnlyTheirOwnFieldFormAsk : Prop := fnOptionsTouchOnlyTheirOwnFieldRow.holds Tryf.pinned (OpenSpec.ofChange fnOptionsTouchOnlyTheirOwnFieldSpec)

/-- ITS FALSE NEIGHBOUR: 'it returns false'. Refute it at one input. -/
def fnOptionsTouchOnlyTheirOwnFieldWrong : ChangeSpec := { name := "fnOptionsTouchOnlyTheirOwnField", fn := fun _ => fun
  | [d1, d2, d3, d4, d5] => { results := [.lit (.bool false)], args := [d1, d2, d3, d4, d5] }
  | _ => none }
def FnOptionsTouchOnlyTheirOwnFieldWrongFormAsk : Prop := fnOptionsTouchOnlyTheirOwnFieldRow.holds Tryf.pinned (OpenSpec.ofChange fnOptionsTouchOnlyTheirOwnFieldWrong)

end Rows
end Go.Proofs.YtbkakiipaehleaaFmt
