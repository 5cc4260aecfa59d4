/-
  No cell of these rows narrows 'for every input' (looked for: loops, veiled, ifaces, maps, wideKeys, modest, calm, conditions, laid).
  DERIVED. THE GIVEN ROWS OF THIS SEAT. 2 by the template 'for every input the law returns true; each argument reads behind the call as it read before'; 0 by the template 'total and deterministic' (their statements: Qxb6612587aFmtTotals.lean).
  GIVEN WITH THE SEED: the statements are not yours to turn. If you find one false, say at which input.
  Laid BY PROGRAM, IN A SANDBOX (cutbox-rows.mjs): the forced cells as the released guide's own fill.sh prints them over the translation 3ff2eaaa4ac0b2ff… (all of the seat's roots in one cut). By AI agents, Wed Nov 11 2026. No macro, syntax, notation, axiom, sorry.
-/
import Derived.Test.Qxb6612587aFmtChecked
import GoSem.Claim
import GoSem.ClaimJoined
import GoSem.ClaimMapViews
import Derived.JoinedTies
import Derived.KernelRfl
namespace Go.Proofs.Qxb6612587aFmt
/- THE CELL 'sum', in the pinned program and in every row, IS THE sha256 OF THE DUMP (.gsa) THAT Qxb6612587aFmtProg.lean LOADS. Nothing in Lean hashes anything: it is a label: what it is worth is what the hold of that sum in a sandbox is worth. -/
noncomputable def Tryf.pinned : Pinned := { name := "qxb6612587afmt", sum := "3ff2eaaa4ac0b2ffaf660947f2b99bcb042b1e684d8d51e5b560682740c407a0", checked := Tryf.checked }
namespace Rows
def none {H : Type} : Left H := { results := [], args := [] }

/-- 'zzlaws_plan_b1.FnReserveGrantNameReadsBackAndNegates': WHATEVER THE INPUT: true; the input reads as it did. -/
def fnReserveGrantNameReadsBackAndNegatesSpec : ChangeSpec := { name := "fnReserveGrantNameReadsBackAndNegates", fn := fun _ => fun
  | [d] => { results := [.lit (.bool true)], args := [d] }
  | _ => none }
def fnReserveGrantNameReadsBackAndNegatesRow : OpenClaim := { program := "qxb6612587afmt", sum := "3ff2eaaa4ac0b2ffaf660947f2b99bcb042b1e684d8d51e5b560682740c407a0", func := "example.com/vestline/vestline/zzlaws_plan_b1.FnReserveGrantNameReadsBackAndNegates", spec := "fnReserveGrantNameReadsBackAndNegates", stops := ["fmt.Sprintf"], inPlace := ["fmt.Sprintf"], apart := false }
/-- NO THEOREM (fmt's text is open here; it may be false): for the released tool's asking of the row's closed facts alone. THE STATEMENT IS 'FnReserveGrantNameReadsBackAndNegatesToldSaid' (Qxb6612587aFmtCards.lean). -/
def FnReserveGrantNameReadsBackAndNegatesFormAsk : Prop := fnReserveGrantNameReadsBackAndNegatesRow.holds Tryf.pinned (OpenSpec.ofChange fnReserveGrantNameReadsBackAndNegatesSpec)

/-- ITS FALSE NEIGHBOUR: 'it returns false'. Refute it at one input. -/
def fnReserveGrantNameReadsBackAndNegatesWrong : ChangeSpec := { name := "fnReserveGrantNameReadsBackAndNegates", fn := fun _ => fun
  | [d] => { results := [.lit (.bool false)], args := [d] }
  | _ => none }
def FnReserveGrantNameReadsBackAndNegatesWrongFormAsk : Prop := fnReserveGrantNameReadsBackAndNegatesRow.holds Tryf.pinned (OpenSpec.ofChange fnReserveGrantNameReadsBackAndNegatesWrong)

/-- 'zzlaws_plan_b1.FnReserveGrantNameGrowsByADigit': WHATEVER THE INPUT: true; the input reads as it did. -/
def fnReserveGrantNameGrowsByADigitSpec : ChangeSpec := { name := "fnReserveGrantNameGrowsByADigit", fn := fun _ => fun
  | [d1, d2] => { results := [.lit (.bool true)], args := [d1, d2] }
  | _ => none }
def fnReserveGrantNameGrowsByADigitRow : OpenClaim := { program := "qxb6612587afmt", sum := "3ff2eaaa4ac0b2ffaf660947f2b99bcb042b1e684d8d51e5b560682740c407a0", func := "example.com/vestline/vestline/zzlaws_plan_b1.FnReserveGrantNameGrowsByADigit", spec := "fnReserveGrantNameGrowsByADigit", stops := ["fmt.Sprintf"], inPlace := ["fmt.Sprintf"], apart := false }
/-- NO THEOREM (fmt's text is open here; it may be false): for the released tool's asking of the row's closed facts alone. THE STATEMENT IS 'FnReserveGrantNameGrowsByADigitToldSaid' (Qxb6612587aFmtCards.lean). -/
def FnReserveGrantNameGrowsByADigitFormAsk : Prop := fnReserveGrantNameGrowsByADigitRow.holds Tryf.pinned (OpenSpec.ofChange fnReserveGrantNameGrowsByADigitSpec)

/-- ITS FALSE NEIGHBOUR: 'it returns false'. Refute it at one input. -/
def fnReserveGrantNameGrowsByADigitWrong : ChangeSpec := { name := "fnReserveGrantNameGrowsByADigit", fn := fun _ => fun
  | [d1, d2] => { results := [.lit (.bool false)], args := [d1, d2] }
  | _ => none }
def FnReserveGrantNameGrowsByADigitWrongFormAsk : Prop := fnReserveGrantNameGrowsByADigitRow.holds Tryf.pinned (OpenSpec.ofChange fnReserveGrantNameGrowsByADigitWrong)

end Rows
end Go.Proofs.Qxb6612587aFmt
