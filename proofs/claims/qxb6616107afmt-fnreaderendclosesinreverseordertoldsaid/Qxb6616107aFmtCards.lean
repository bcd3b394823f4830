/-
  DERIVED. GIVEN WITH THE SEED: THE CARDS: each row of Qxb6616107aFmtRows.lean that lists a variable, with what it lists TIED to the program's text (the seventh form; the later family's looks); each row that meets fmt, with fmt's text TOLD by the authors' own Lean function (tested against real Go, not proved from fmt's source: count such statements apart). THE CARD IS WHAT COUNTS. Prove the row's statement (the work); the ties are given (Qxb6616107aFmtTie.lean); close each card by the builder's one call (the guide's Derived/Test/ToyasCard.lean, 'card_holds'). Laid BY PROGRAM, IN A SANDBOX (cutbox-door.mjs). By AI agents, Wed Nov 11 2026. No macro, syntax, notation, axiom, sorry.
-/
import Derived.Test.Qxb6616107aFmtRows
import GoSem.ClaimSeven
namespace Go.Proofs.Qxb6616107aFmt
namespace Rows

/-- THE TOLD AND TIED CARD OF 'zzlaws_pkg_simservs_b1.FnReaderEndClosesInReverseOrder'. -/
def fnReaderEndClosesInReverseOrderCard : Claim7 := { stood := { row := fnReaderEndClosesInReverseOrderRow, standIns := [], harness := (true, "37f01098053a62ca2c2367bb122b948d2eae3f71ae069bf5d9f7442802d215f0"), looks := false }, told := true, laidByText := true, laidKinds := [.sentinel], laidTests := true, laidLooks := .later, goes := false }
def FnReaderEndClosesInReverseOrderToldSaid : Prop := Claim7.holds Tryf.pinned (.plain (OpenSpec.ofChange fnReaderEndClosesInReverseOrderSpec)) fnReaderEndClosesInReverseOrderCard
/-- ITS FALSE NEIGHBOUR. Refute it at one input. -/
def FnReaderEndClosesInReverseOrderToldWrongFalsely : Prop := Claim7.holds Tryf.pinned (.plain (OpenSpec.ofChange fnReaderEndClosesInReverseOrderWrong)) fnReaderEndClosesInReverseOrderCard

/-- THE TOLD AND TIED CARD OF 'zzlaws_pkg_simservs_b1.FnReaderEndRefusesAnUnmatchedTag'. -/
def fnReaderEndRefusesAnUnmatchedTagCard : Claim7 := { stood := { row := fnReaderEndRefusesAnUnmatchedTagRow, standIns := [], harness := (true, "37f01098053a62ca2c2367bb122b948d2eae3f71ae069bf5d9f7442802d215f0"), looks := false }, told := true, laidByText := true, laidKinds := [.sentinel], laidTests := true, laidLooks := .later, goes := false }
def FnReaderEndRefusesAnUnmatchedTagToldSaid : Prop := Claim7.holds Tryf.pinned (.plain (OpenSpec.ofChange fnReaderEndRefusesAnUnmatchedTagSpec)) fnReaderEndRefusesAnUnmatchedTagCard
/-- ITS FALSE NEIGHBOUR. Refute it at one input. -/
def FnReaderEndRefusesAnUnmatchedTagToldWrongFalsely : Prop := Claim7.holds Tryf.pinned (.plain (OpenSpec.ofChange fnReaderEndRefusesAnUnmatchedTagWrong)) fnReaderEndRefusesAnUnmatchedTagCard
end Rows
end Go.Proofs.Qxb6616107aFmt
