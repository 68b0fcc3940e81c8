/-
  DERIVED. GIVEN WITH THE SEED: THE CARDS: each row of YtbkakiipaehleaaFmtRows.lean that lists a variable, with what it lists TIED to the program's text (the seventh form; the later family's looks); each row that meets fmt, with fmt's text TOLD by the authors' own Lean function (tested against real Go, not proved from fmt's source: count such statements apart). THE CARD IS WHAT COUNTS. Prove the row's statement (the work); the ties are given (YtbkakiipaehleaaFmtTie.lean); close each card by the builder's one call (the guide's Derived/Test/ToyasCard.lean, 'card_holds'). Laid BY PROGRAM, IN A SANDBOX (cutbox-door.mjs). By AI agents, Wed Nov 11 2026. No macro, syntax, notation, axiom, sorry.
-/
import Derived.Test.YtbkakiipaehleaaFmtRows
import GoSem.ClaimSeven
namespace Go.Proofs.YtbkakiipaehleaaFmt
namespace Rows

/-- THE TOLD CARD OF 'n001_70.FnWithFunctionArgcountIsArityInterval'. -/
def fnWithFunctionArgcountIsArityIntervalCard : Claim7 := { stood := { row := fnWithFunctionArgcountIsArityIntervalRow, standIns := [], harness := (true, "7d8b9f6a419c169a7908e5995db5f87b6f4630630343ef65403c39d25985e404"), looks := false }, told := true, goes := false }
def FnWithFunctionArgcountIsArityIntervalToldSaid : Prop := Claim7.holds Tryf.pinned (.plain (OpenSpec.ofChange fnWithFunctionArgcountIsArityIntervalSpec)) fnWithFunctionArgcountIsArityIntervalCard
/-- ITS FALSE NEIGHBOUR. Refute it at one input. -/
def FnWithFunctionArgcountIsArityIntervalToldWrongFalsely : Prop := Claim7.holds Tryf.pinned (.plain (OpenSpec.ofChange fnWithFunctionArgcountIsArityIntervalWrong)) fnWithFunctionArgcountIsArityIntervalCard

/-- THE TOLD CARD OF 'n001_70.FnWithFunctionTwoDefinitionsTable'. -/
def fnWithFunctionTwoDefinitionsTableCard : Claim7 := { stood := { row := fnWithFunctionTwoDefinitionsTableRow, standIns := [], harness := (true, "7d8b9f6a419c169a7908e5995db5f87b6f4630630343ef65403c39d25985e404"), looks := false }, told := true, goes := false }
def FnWithFunctionTwoDefinitionsTableToldSaid : Prop := Claim7.holds Tryf.pinned (.plain (OpenSpec.ofChange fnWithFunctionTwoDefinitionsTableSpec)) fnWithFunctionTwoDefinitionsTableCard
/-- ITS FALSE NEIGHBOUR. Refute it at one input. -/
def FnWithFunctionTwoDefinitionsTableToldWrongFalsely : Prop := Claim7.holds Tryf.pinned (.plain (OpenSpec.ofChange fnWithFunctionTwoDefinitionsTableWrong)) fnWithFunctionTwoDefinitionsTableCard

/-- THE TOLD CARD OF 'n001_70.FnOptionsTouchOnlyTheirOwnField'. -/
def fnOptionsTouchOnlyTheirOwnFieldCard : Claim7 := { stood := { row := fnOptionsTouchOnlyTheirOwnFieldRow, standIns := [], harness := (true, "7d8b9f6a419c169a7908e5995db5f87b6f4630630343ef65403c39d25985e404"), looks := false }, told := true, goes := false }
def FnOptionsTouchOnlyTheirOwnFieldToldSaid : Prop := Claim7.holds Tryf.pinned (.plain (OpenSpec.ofChange fnOptionsTouchOnlyTheirOwnFieldSpec)) fnOptionsTouchOnlyTheirOwnFieldCard
/-- ITS FALSE NEIGHBOUR. Refute it at one input. -/
def FnOptionsTouchOnlyTheirOwnFieldToldWrongFalsely : Prop := Claim7.holds Tryf.pinned (.plain (OpenSpec.ofChange fnOptionsTouchOnlyTheirOwnFieldWrong)) fnOptionsTouchOnlyTheirOwnFieldCard
end Rows
end Go.Proofs.YtbkakiipaehleaaFmt
