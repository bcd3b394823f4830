/-
  DERIVED. GIVEN WITH THE SEED: THE CARDS: each row of Qxb6616028aFmtRows.lean that lists a variable, with what it lists TIED to the program's text (the seventh form; the later family's looks); each row that meets fmt, with fmt's text TOLD by the authors' own Lean function (tested against real Go, not proved from fmt's source: count such statements apart). THE CARD IS WHAT COUNTS. Prove the row's statement (the work); the ties are given (Qxb6616028aFmtTie.lean); close each card by the builder's one call (the guide's Derived/Test/ToyasCard.lean, 'card_holds'). Laid BY PROGRAM, IN A SANDBOX (cutbox-door.mjs). By AI agents, Wed Nov 11 2026. No macro, syntax, notation, axiom, sorry.
-/
import Derived.Test.Qxb6616028aFmtRows
import GoSem.ClaimSeven
namespace Go.Proofs.Qxb6616028aFmt
namespace Rows

/-- THE TOLD CARD OF 'zzlaws_values_b1.FnFlagLastBooleanLayerDecides'. -/
def fnFlagLastBooleanLayerDecidesCard : Claim7 := { stood := { row := fnFlagLastBooleanLayerDecidesRow, standIns := [], harness := (true, "b95876d24fdd337cfeecb55edc25562a6568f617b2af1a1032e0e16b8d58f245"), looks := true }, told := true, goes := false }
def FnFlagLastBooleanLayerDecidesToldSaid : Prop := Claim7.holds Tryf.pinned (.plain (OpenSpec.ofChange fnFlagLastBooleanLayerDecidesSpec)) fnFlagLastBooleanLayerDecidesCard
/-- ITS FALSE NEIGHBOUR. Refute it at one input. -/
def FnFlagLastBooleanLayerDecidesToldWrongFalsely : Prop := Claim7.holds Tryf.pinned (.plain (OpenSpec.ofChange fnFlagLastBooleanLayerDecidesWrong)) fnFlagLastBooleanLayerDecidesCard

/-- THE TOLD CARD OF 'zzlaws_values_b1.FnFlagLaterLayersOverride'. -/
def fnFlagLaterLayersOverrideCard : Claim7 := { stood := { row := fnFlagLaterLayersOverrideRow, standIns := [], harness := (true, "b95876d24fdd337cfeecb55edc25562a6568f617b2af1a1032e0e16b8d58f245"), looks := true }, told := true, goes := false }
def FnFlagLaterLayersOverrideToldSaid : Prop := Claim7.holds Tryf.pinned (.plain (OpenSpec.ofChange fnFlagLaterLayersOverrideSpec)) fnFlagLaterLayersOverrideCard
/-- ITS FALSE NEIGHBOUR. Refute it at one input. -/
def FnFlagLaterLayersOverrideToldWrongFalsely : Prop := Claim7.holds Tryf.pinned (.plain (OpenSpec.ofChange fnFlagLaterLayersOverrideWrong)) fnFlagLaterLayersOverrideCard
end Rows
end Go.Proofs.Qxb6616028aFmt
