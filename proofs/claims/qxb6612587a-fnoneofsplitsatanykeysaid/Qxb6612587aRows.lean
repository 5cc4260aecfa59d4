/-
  No cell of these rows narrows 'for every input' (looked for: loops, veiled, ifaces, maps, wideKeys, modest, calm, conditions, laid).
  DERIVED. THE GIVEN ROWS OF THIS SEAT. 3 by the template 'for every input the law returns true; each argument reads behind the call as it read before'; 0 by the template 'total and deterministic' (their statements: Qxb6612587aTotals.lean).
  GIVEN WITH THE SEED: the statements are not yours to turn. If you find one false, say at which input.
  Laid BY PROGRAM, IN A SANDBOX (cutbox-rows.mjs): the forced cells as the released guide's own fill.sh prints them over the translation db04f7edf576adf8… (all of the seat's roots in one cut). By AI agents, Wed Nov 11 2026. No macro, syntax, notation, axiom, sorry.
-/
import Derived.Test.Qxb6612587aChecked
import GoSem.Claim
import GoSem.ClaimJoined
import GoSem.ClaimMapViews
import Derived.JoinedTies
import Derived.KernelRfl
namespace Go.Proofs.Qxb6612587a
/- THE CELL 'sum', in the pinned program and in every row, IS THE sha256 OF THE DUMP (.gsa) THAT Qxb6612587aProg.lean LOADS. Nothing in Lean hashes anything: it is a label: what it is worth is what the hold of that sum in a sandbox is worth. -/
noncomputable def Try.pinned : Pinned := { name := "qxb6612587a", sum := "db04f7edf576adf86b571a24f49665ec5b3b04fa36f247d3e7cb7e443b3c728d", checked := Try.checked }
namespace Rows
def none {H : Type} : Left H := { results := [], args := [] }

/-- 'zzlaws_plan_b1.FnOneOfAddsAKey': WHATEVER THE INPUT: true; the input reads as it did. -/
def fnOneOfAddsAKeySpec : ChangeSpec := { name := "fnOneOfAddsAKey", fn := fun _ => fun
  | [d1, d2] => { results := [.lit (.bool true)], args := [d1, d2] }
  | _ => none }
def fnOneOfAddsAKeyRow : OpenClaim := { program := "qxb6612587a", sum := "db04f7edf576adf86b571a24f49665ec5b3b04fa36f247d3e7cb7e443b3c728d", func := "example.com/vestline/vestline/zzlaws_plan_b1.FnOneOfAddsAKey", spec := "fnOneOfAddsAKey", inPlace := ["internal/abi.NoEscape", "internal/bytealg.MakeNoZero"], apart := false }
def FnOneOfAddsAKeySaid : Prop := fnOneOfAddsAKeyRow.holds Try.pinned (OpenSpec.ofChange fnOneOfAddsAKeySpec)

/-- ITS FALSE NEIGHBOUR: 'it returns false'. Refute it at one input. -/
def fnOneOfAddsAKeyWrong : ChangeSpec := { name := "fnOneOfAddsAKey", fn := fun _ => fun
  | [d1, d2] => { results := [.lit (.bool false)], args := [d1, d2] }
  | _ => none }
def FnOneOfAddsAKeyWrongFalsely : Prop := fnOneOfAddsAKeyRow.holds Try.pinned (OpenSpec.ofChange fnOneOfAddsAKeyWrong)

/-- 'zzlaws_plan_b1.FnOneOfSplitsAtAnyKey': WHATEVER THE INPUT: true; the input reads as it did. -/
def fnOneOfSplitsAtAnyKeySpec : ChangeSpec := { name := "fnOneOfSplitsAtAnyKey", fn := fun _ => fun
  | [d1, d2] => { results := [.lit (.bool true)], args := [d1, d2] }
  | _ => none }
def fnOneOfSplitsAtAnyKeyRow : OpenClaim := { program := "qxb6612587a", sum := "db04f7edf576adf86b571a24f49665ec5b3b04fa36f247d3e7cb7e443b3c728d", func := "example.com/vestline/vestline/zzlaws_plan_b1.FnOneOfSplitsAtAnyKey", spec := "fnOneOfSplitsAtAnyKey", inPlace := ["internal/abi.NoEscape", "internal/bytealg.MakeNoZero"], apart := false }
def FnOneOfSplitsAtAnyKeySaid : Prop := fnOneOfSplitsAtAnyKeyRow.holds Try.pinned (OpenSpec.ofChange fnOneOfSplitsAtAnyKeySpec)

/-- ITS FALSE NEIGHBOUR: 'it returns false'. Refute it at one input. -/
def fnOneOfSplitsAtAnyKeyWrong : ChangeSpec := { name := "fnOneOfSplitsAtAnyKey", fn := fun _ => fun
  | [d1, d2] => { results := [.lit (.bool false)], args := [d1, d2] }
  | _ => none }
def FnOneOfSplitsAtAnyKeyWrongFalsely : Prop := fnOneOfSplitsAtAnyKeyRow.holds Try.pinned (OpenSpec.ofChange fnOneOfSplitsAtAnyKeyWrong)

/-- 'zzlaws_plan_b1.FnLeftByTurnsTrueOnTheLeavingDay': WHATEVER THE INPUT: true; the input reads as it did. -/
def fnLeftByTurnsTrueOnTheLeavingDaySpec : ChangeSpec := { name := "fnLeftByTurnsTrueOnTheLeavingDay", fn := fun _ => fun
  | [d1, d2, d3, d4, d5] => { results := [.lit (.bool true)], args := [d1, d2, d3, d4, d5] }
  | _ => none }
def fnLeftByTurnsTrueOnTheLeavingDayRow : OpenClaim := { program := "qxb6612587a", sum := "db04f7edf576adf86b571a24f49665ec5b3b04fa36f247d3e7cb7e443b3c728d", func := "example.com/vestline/vestline/zzlaws_plan_b1.FnLeftByTurnsTrueOnTheLeavingDay", spec := "fnLeftByTurnsTrueOnTheLeavingDay", apart := false }
def FnLeftByTurnsTrueOnTheLeavingDaySaid : Prop := fnLeftByTurnsTrueOnTheLeavingDayRow.holds Try.pinned (OpenSpec.ofChange fnLeftByTurnsTrueOnTheLeavingDaySpec)

/-- ITS FALSE NEIGHBOUR: 'it returns false'. Refute it at one input. -/
def fnLeftByTurnsTrueOnTheLeavingDayWrong : ChangeSpec := { name := "fnLeftByTurnsTrueOnTheLeavingDay", fn := fun _ => fun
  | [d1, d2, d3, d4, d5] => { results := [.lit (.bool false)], args := [d1, d2, d3, d4, d5] }
  | _ => none }
def FnLeftByTurnsTrueOnTheLeavingDayWrongFalsely : Prop := fnLeftByTurnsTrueOnTheLeavingDayRow.holds Try.pinned (OpenSpec.ofChange fnLeftByTurnsTrueOnTheLeavingDayWrong)

end Rows
end Go.Proofs.Qxb6612587a
