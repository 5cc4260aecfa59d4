/-
  No cell of these rows narrows 'for every input' (looked for: loops, veiled, ifaces, maps, wideKeys, modest, calm, conditions, laid).
  DERIVED. THE GIVEN ROWS OF THIS SEAT. 1 by the template 'for every input the law returns true; each argument reads behind the call as it read before'; 0 by the template 'total and deterministic' (their statements: Qxb6609231aFmtTotals.lean).
  GIVEN WITH THE SEED: the statements are not yours to turn. If you find one false, say at which input.
  Laid BY PROGRAM, IN A SANDBOX (cutbox-rows.mjs): the forced cells as the released guide's own fill.sh prints them over the translation 7b88ca175d90c06d… (all of the seat's roots in one cut). By AI agents, Wed Nov 11 2026. No macro, syntax, notation, axiom, sorry.
-/
import Derived.Test.Qxb6609231aFmtChecked
import GoSem.Claim
import GoSem.ClaimJoined
import GoSem.ClaimMapViews
import Derived.JoinedTies
import Derived.KernelRfl
namespace Go.Proofs.Qxb6609231aFmt
/- THE CELL 'sum', in the pinned program and in every row, IS THE sha256 OF THE DUMP (.gsa) THAT Qxb6609231aFmtProg.lean LOADS. Nothing in Lean hashes anything: it is a label: what it is worth is what the hold of that sum in a sandbox is worth. -/
noncomputable def Tryf.pinned : Pinned := { name := "qxb6609231afmt", sum := "7b88ca175d90c06d64e03a0db184016eb4177d1495b72a6bd45af98384c5fa94", checked := Tryf.checked }
namespace Rows
def none {H : Type} : Left H := { results := [], args := [] }

/-- 'zzlaws_bson_b1.FnOverBudgetIsAnError': WHATEVER THE INPUT: true; the input reads as it did. -/
def fnOverBudgetIsAnErrorSpec : ChangeSpec := { name := "fnOverBudgetIsAnError", fn := fun _ => fun
  | [d1, d2, d3, d4, d5, d6, d7] => { results := [.lit (.bool true)], args := [d1, d2, d3, d4, d5, d6, d7] }
  | _ => none }
def fnOverBudgetIsAnErrorRow : OpenClaim := { program := "qxb6609231afmt", sum := "7b88ca175d90c06d64e03a0db184016eb4177d1495b72a6bd45af98384c5fa94", func := "example.com/moorings/moorings/zzlaws_bson_b1.FnOverBudgetIsAnError", spec := "fnOverBudgetIsAnError", stops := ["fmt.Sprintf", "fmt.errorf"], inPlace := ["fmt.Sprintf", "fmt.errorf"], apart := false }
/-- NO THEOREM (fmt's text is open here; it may be false): for the released tool's asking of the row's closed facts alone. THE STATEMENT IS 'FnOverBudgetIsAnErrorToldSaid' (Qxb6609231aFmtCards.lean). -/
def FnOverBudgetIsAnErrorFormAsk : Prop := fnOverBudgetIsAnErrorRow.holds Tryf.pinned (OpenSpec.ofChange fnOverBudgetIsAnErrorSpec)

/-- ITS FALSE NEIGHBOUR: 'it returns false'. Refute it at one input. -/
def fnOverBudgetIsAnErrorWrong : ChangeSpec := { name := "fnOverBudgetIsAnError", fn := fun _ => fun
  | [d1, d2, d3, d4, d5, d6, d7] => { results := [.lit (.bool false)], args := [d1, d2, d3, d4, d5, d6, d7] }
  | _ => none }
def FnOverBudgetIsAnErrorWrongFormAsk : Prop := fnOverBudgetIsAnErrorRow.holds Tryf.pinned (OpenSpec.ofChange fnOverBudgetIsAnErrorWrong)

end Rows
end Go.Proofs.Qxb6609231aFmt
