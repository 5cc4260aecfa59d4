/-
  fmt's TWO STOPS AT THIS DUMP's NUMBERS; errorAt (9): whatever fmt gives, an error that is not nil.
-/
import Derived.Test.Qxb6609231aFmtRows
import Derived.WalkKit
import Derived.WalkSpells
import Derived.WalkLawsBesides
import Derived.Stop.CallBack
import Derived.Stop.IfaceNil
import GoSem.ClaimData
namespace Go.Proofs.Qxb6609231aFmt
open Go.RowKit Go.Extern.Stop Go.Stop Go.Extern

theorem call11 (args : Array Value) (w : World) : (callFunc 11 args).run Tryf.prog w = ((FmtStop.sprintf #[9, 37] #[9] args).run Tryf.prog w).andThen fun v w' => .ok (.value v) w' :=
  run_callFunc_extern Tryf.func11 (by kernel_rfl) (by kernel_rfl) (by kernel_rfl) (by kernel_rfl) args w
theorem call12 (args : Array Value) (w : World) : (callFunc 12 args).run Tryf.prog w = ((FmtStop.errorf #[9, 37] #[28] args).run Tryf.prog w).andThen fun v w' => .ok (.value v) w' :=
  run_callFunc_extern Tryf.func12 (by kernel_rfl) (by kernel_rfl) (by kernel_rfl) (by kernel_rfl) args w
theorem fguard (name : String) (w : World) : (FmtStop.guard name).run Tryf.prog w = .ok () w := by kernel_rfl

-- "bson: at byte %d: %s"
theorem fmt0 : FmtStop.printed? ⟨#[98, 115, 111, 110, 58, 32, 97, 116, 32, 98, 121, 116, 101, 32, 37, 100, 58, 32, 37, 115]⟩ 2 = some [(0, 100, false), (1, 115, false)] := by kernel_rfl
theorem fmt0r (w : World) : (FmtDoors.printed ⟨#[98, 115, 111, 110, 58, 32, 97, 116, 32, 98, 121, 116, 101, 32, 37, 100, 58, 32, 37, 115]⟩ 2).run Tryf.prog w = .ok [(0, 100, false), (1, 115, false)] w := by kernel_rfl

def shape9 : List UInt8 := [12, 6, 0, 0, 0, 0, 0, 0, 0, 115, 116, 114, 105, 110, 103]
theorem op9_115 (name : String) (x : ByteArray) (w : World) : (FmtStop.operand name false 115 false (.iface 9 (.string x))).run Tryf.prog w = .ok (shape9, FmtStop.pack x.data.toList) w := by kernel_rfl
theorem op9_115w (name : String) (x : ByteArray) (w : World) : (FmtStop.operand name true 115 false (.iface 9 (.string x))).run Tryf.prog w = .ok (shape9, FmtStop.pack x.data.toList) w := by kernel_rfl
def shape3 : List UInt8 := [5, 3, 0, 0, 0, 0, 0, 0, 0, 105, 110, 116]
theorem op3_100 (name : String) (x : Int) (w : World) : (FmtStop.operand name false 100 false (.iface 3 (.int .i64 x))).run Tryf.prog w = .ok (shape3, Go.Extern.Stop.digits 8 (x % 2 ^ 64).toNat) w := by kernel_rfl
theorem op3_100w (name : String) (x : Int) (w : World) : (FmtStop.operand name true 100 false (.iface 3 (.int .i64 x))).run Tryf.prog w = .ok (shape3, Go.Extern.Stop.digits 8 (x % 2 ^ 64).toNat) w := by kernel_rfl
theorem ptr42 (w : World) : (FmtStop.ptrTo "errors.errorString").run Tryf.prog w = .ok 42 w := by kernel_rfl
theorem elem42 (w : World) : (elemOf 42).run Tryf.prog w = .ok 44 w := by kernel_rfl
theorem isError42 (w : World) : (FmtDoors.textMethod 42 "Error").run Tryf.prog w = .ok true w := by kernel_rfl

attribute [local go_sem] call11 call12 fguard fmt0 fmt0r op9_115 op9_115w op3_100 op3_100w ptr42 elem42 isError42

set_option maxHeartbeats 1000000 in
theorem errorAt9 (F : Interp) (d : Option Addr) (off n left size : Int) (fm what : ByteArray) (blk : Nat) (w : World) (hF : F.answers w.tape)
    (hpr : FmtStop.printed? fm 4 = some [(0, 115, false), (1, 100, false), (2, 100, false), (3, 100, false)])
    (hc0 : w.cell? ⟨blk, 0, none⟩ = some (.iface 9 (.string what))) (hc1 : w.cell? ⟨blk, 1, none⟩ = some (.iface 3 (.int .i64 n))) (hc2 : w.cell? ⟨blk, 2, none⟩ = some (.iface 3 (.int .i64 left))) (hc3 : w.cell? ⟨blk, 3, none⟩ = some (.iface 3 (.int .i64 size))) :
    Calls Tryf.prog 9 #[.pointer d, .int .i64 off, .string fm, .slice (some ⟨blk, 0, none⟩) 4 4] w fun e w' => (∃ q, e = .returned (.iface 42 (.pointer (some q)))) ∧ Below w.heap.size w w' := by
  have hF' := answers_open hF
  go_enter Tryf.func9, Tryf.ntmps9
  go_wp2
  go_ret
  exact ⟨⟨_, rfl⟩, ((((Below.refl _ _).alloc (Nat.le_refl _) _).alloc (by simp) _).drew).drew⟩

end Go.Proofs.Qxb6609231aFmt
