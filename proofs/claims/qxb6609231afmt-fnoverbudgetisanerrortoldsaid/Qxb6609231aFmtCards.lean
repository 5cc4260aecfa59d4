/-
  DERIVED. GIVEN WITH THE SEED: THE CARDS: each row of Qxb6609231aFmtRows.lean that lists a variable, with what it lists TIED to the program's text (the seventh form; the later family's looks); each row that meets fmt, with fmt's text TOLD by the authors' own Lean function (tested against real Go, not proved from fmt's source: count such statements apart). THE CARD IS WHAT COUNTS. Prove the row's statement (the work); the ties are given (Qxb6609231aFmtTie.lean); close each card by the builder's one call (the guide's Derived/Test/ToyasCard.lean, 'card_holds'). Laid BY PROGRAM, IN A SANDBOX (cutbox-door.mjs). By AI agents, Wed Nov 11 2026. No macro, syntax, notation, axiom, sorry.
-/
import Derived.Test.Qxb6609231aFmtRows
import GoSem.ClaimSeven
namespace Go.Proofs.Qxb6609231aFmt
namespace Rows

/-- THE TOLD CARD OF 'zzlaws_bson_b1.FnOverBudgetIsAnError'. -/
def fnOverBudgetIsAnErrorCard : Claim7 := { stood := { row := fnOverBudgetIsAnErrorRow, standIns := [], harness := (true, "809c278e6e902ebf44ad535a0e83b417efda81ae8764c6034d066853805bd12f"), looks := false }, told := true, goes := false }
def FnOverBudgetIsAnErrorToldSaid : Prop := Claim7.holds Tryf.pinned (.plain (OpenSpec.ofChange fnOverBudgetIsAnErrorSpec)) fnOverBudgetIsAnErrorCard
/-- ITS FALSE NEIGHBOUR. Refute it at one input. -/
def FnOverBudgetIsAnErrorToldWrongFalsely : Prop := Claim7.holds Tryf.pinned (.plain (OpenSpec.ofChange fnOverBudgetIsAnErrorWrong)) fnOverBudgetIsAnErrorCard
end Rows
end Go.Proofs.Qxb6609231aFmt
