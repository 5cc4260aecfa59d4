/-
  DERIVED. GIVEN WITH THE SEED: THE CARDS: each row of Qxb6612587aFmtRows.lean that lists a variable, with what it lists TIED to the program's text (the seventh form; the later family's looks); each row that meets fmt, with fmt's text TOLD by the authors' own Lean function (tested against real Go, not proved from fmt's source: count such statements apart). THE CARD IS WHAT COUNTS. Prove the row's statement (the work); the ties are given (Qxb6612587aFmtTie.lean); close each card by the builder's one call (the guide's Derived/Test/ToyasCard.lean, 'card_holds'). Laid BY PROGRAM, IN A SANDBOX (cutbox-door.mjs). By AI agents, Wed Nov 11 2026. No macro, syntax, notation, axiom, sorry.
-/
import Derived.Test.Qxb6612587aFmtRows
import GoSem.ClaimSeven
namespace Go.Proofs.Qxb6612587aFmt
namespace Rows

/-- THE TOLD CARD OF 'zzlaws_plan_b1.FnReserveGrantNameReadsBackAndNegates'. -/
def fnReserveGrantNameReadsBackAndNegatesCard : Claim7 := { stood := { row := fnReserveGrantNameReadsBackAndNegatesRow, standIns := [], harness := (true, "72ba32ec6dacef251c59faeda8419c0fe2a699d72c2f2673049f2c7cae04de91"), looks := false }, told := true, goes := false }
def FnReserveGrantNameReadsBackAndNegatesToldSaid : Prop := Claim7.holds Tryf.pinned (.plain (OpenSpec.ofChange fnReserveGrantNameReadsBackAndNegatesSpec)) fnReserveGrantNameReadsBackAndNegatesCard
/-- ITS FALSE NEIGHBOUR. Refute it at one input. -/
def FnReserveGrantNameReadsBackAndNegatesToldWrongFalsely : Prop := Claim7.holds Tryf.pinned (.plain (OpenSpec.ofChange fnReserveGrantNameReadsBackAndNegatesWrong)) fnReserveGrantNameReadsBackAndNegatesCard

/-- THE TOLD CARD OF 'zzlaws_plan_b1.FnReserveGrantNameGrowsByADigit'. -/
def fnReserveGrantNameGrowsByADigitCard : Claim7 := { stood := { row := fnReserveGrantNameGrowsByADigitRow, standIns := [], harness := (true, "72ba32ec6dacef251c59faeda8419c0fe2a699d72c2f2673049f2c7cae04de91"), looks := false }, told := true, goes := false }
def FnReserveGrantNameGrowsByADigitToldSaid : Prop := Claim7.holds Tryf.pinned (.plain (OpenSpec.ofChange fnReserveGrantNameGrowsByADigitSpec)) fnReserveGrantNameGrowsByADigitCard
/-- ITS FALSE NEIGHBOUR. Refute it at one input. -/
def FnReserveGrantNameGrowsByADigitToldWrongFalsely : Prop := Claim7.holds Tryf.pinned (.plain (OpenSpec.ofChange fnReserveGrantNameGrowsByADigitWrong)) fnReserveGrantNameGrowsByADigitCard
end Rows
end Go.Proofs.Qxb6612587aFmt
