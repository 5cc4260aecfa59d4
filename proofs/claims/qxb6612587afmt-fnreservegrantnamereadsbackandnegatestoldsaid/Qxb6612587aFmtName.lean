/-
  THE NAME OF A RESERVE GRANT: fmt.Sprintf's stop at this dump's numbers, its told text, and the contracts of functions 9 and 5.
-/
import Derived.Test.Qxb6612587aFmtRows
import Derived.WalkKit
import Derived.WalkSpells
import Derived.Stop.CallBack
import Derived.Stop.IfaceNil
import Derived.Stop.FmtTextKit
import Derived.Stop.Texts
import Derived.Stop.JoinedTold
import GoSem.ClaimData
namespace Go.Proofs.Qxb6612587aFmt
open Go.RowKit Go.Kit Go.Extern.Stop Go.Stop Go.Extern

theorem call10 (args : Array Value) (w : World) : (callFunc 10 args).run Tryf.prog w = ((FmtStop.sprintf #[9, 48] #[9] args).run Tryf.prog w).andThen fun v w' => .ok (.value v) w' :=
  run_callFunc_extern Tryf.func10 (by kernel_rfl) (by kernel_rfl) (by kernel_rfl) (by kernel_rfl) args w

theorem fguard (name : String) (w : World) : (FmtStop.guard name).run Tryf.prog w = .ok () w := by kernel_rfl

theorem fmt0 : FmtStop.printed? ⟨#[114, 101, 115, 101, 114, 118, 101, 45, 37, 100]⟩ 1 = some [(0, 100, false)] := by kernel_rfl
theorem fmt0r (w : World) : (FmtDoors.printed ⟨#[114, 101, 115, 101, 114, 118, 101, 45, 37, 100]⟩ 1).run Tryf.prog w = .ok [(0, 100, false)] w := by kernel_rfl

def shape3 : List UInt8 := [5, 3, 0, 0, 0, 0, 0, 0, 0, 105, 110, 116]
theorem op3_100 (name : String) (x : Int) (w : World) : (FmtStop.operand name false 100 false (.iface 3 (.int .i64 x))).run Tryf.prog w = .ok (shape3, Go.Extern.Stop.digits 8 (x % 2 ^ 64).toNat) w := by kernel_rfl

/-- What fmt is asked. -/
def reading (n : Int) : List (List UInt8) :=
  [[114, 101, 115, 101, 114, 118, 101, 45, 37, 100], shape3, digits 8 (n % 18446744073709551616).toNat]

/-- The name: "reserve-" and the numeral. -/
def nm (n : Int) : List UInt8 := [114, 101, 115, 101, 114, 118, 101, 45] ++ Lib.itoa n
def nmB (n : Int) : ByteArray := ⟨(nm n).toArray⟩

theorem t_parse : (FmtText.parse [114, 101, 115, 101, 114, 118, 101, 45, 37, 100]).map FmtText.glue = some [.lit [114, 101, 115, 101, 114, 118, 101, 45], .verb {} 100] := by rfl

theorem t_text (n : Int) (hw : (Lit.int .i64 n).wf = true) : FmtText.text "fmt.Sprintf" (reading n) = some (nm n) := by
  have hi := FmtText.operand_int_at (sh := shape3) (k := .i64) rfl rfl n hw
  rw [reading, FmtText.text_sprintf_glued t_parse (FmtText.operands_cons hi FmtText.operands_nil)]
  simp [FmtText.render, FmtText.printArg_d _ _ hw, nm]

theorem t_bytes (F : Interp) (n : Int) (hw : (Lit.int .i64 n).wf = true) : FmtStop.textOf (F.told "fmt.Sprintf" (reading n) 0) = nmB n := by
  have hl := FmtText.itoa_length_le hw
  have ht := told_string F (t_text n hw) (by simp [nm]; omega)
  have h2 := textOf_list F.told "fmt.Sprintf" (reading n)
  rw [ht] at h2
  apply ByteArray.ext
  apply Array.toList_inj.1
  rw [h2, nmB]

attribute [local go_sem] call10 fguard fmt0 fmt0r op3_100

set_option maxHeartbeats 400000 in
theorem name9_open (F : Interp) (n : Int) (w : World) (hF : F.answers w.tape) :
    Calls Tryf.prog 9 #[.int .i64 n] w fun e w' => e = .returned (.string (FmtStop.textOf (F "fmt.Sprintf" (reading n) 0))) ∧
      w' = (w.alloc (.cells #[.iface 3 (.int .i64 n)] 20)).drew := by
  have hF' := answers_open hF
  go_enter Tryf.func9, Tryf.ntmps9
  go_wp2
  go_ret
  exact ⟨rfl, rfl⟩

set_option maxHeartbeats 400000 in
theorem name5_open (F : Interp) (n : Int) (w : World) (hF : F.answers w.tape) :
    Calls Tryf.prog 5 #[.int .i64 n] w fun e w' => e = .returned (.string (FmtStop.textOf (F "fmt.Sprintf" (reading n) 0))) ∧
      w' = (w.alloc (.cells #[.iface 3 (.int .i64 n)] 20)).drew := by
  go_enter Tryf.func5, Tryf.ntmps5
  go_wp2_with (first | (go_at_call 9; refine (name9_open F n _ hF).mono ?_; rintro e w' ⟨rfl, rfl⟩))
  go_ret
  exact ⟨rfl, rfl⟩

/-- THE CONTRACT, fmt's text told. -/
theorem name5 (F : Interp) (n : Int) (w : World) (hF : F.told.answers w.tape) (hw : (Lit.int .i64 n).wf = true) :
    Calls Tryf.prog 5 #[.int .i64 n] w fun e w' => e = .returned (.string (nmB n)) ∧
      w' = (w.alloc (.cells #[.iface 3 (.int .i64 n)] 20)).drew := by
  refine (name5_open F.told n w hF).mono ?_
  rintro e w' ⟨rfl, rfl⟩
  exact ⟨by rw [t_bytes F n hw], rfl⟩

end Go.Proofs.Qxb6612587aFmt
