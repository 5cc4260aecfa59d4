/-
  THE WALK OF FnOverBudgetIsAnError (function 3).
-/
import Derived.Test.Qxb6609231aFmtOver
namespace Go.Proofs.Qxb6609231aFmt
open Go.RowKit Go.Extern.Stop Go.Stop Go.Extern

set_option maxRecDepth 100000 in
set_option maxHeartbeats 1000000 in
theorem law3 (F : Interp) (sl : Option Addr) (l c : Nat) (dOff left size off n : Int) (what : ByteArray) (w : World) (hF : F.answers w.tape) (hl : l ≤ 9223372036854775807) (hs : what.size ≤ 9223372036854775807)
    (hcl : Hid (l ≤ 1048576 → Calls Tryf.prog 5 #[.slice sl l c] w fun e w' => (∃ p m d, e = .returned (.slice p m d)) ∧ Below w.heap.size w w')) :
    Calls Tryf.prog 3 #[.slice sl l c, .int .i64 dOff, .int .i64 left, .int .i64 size, .int .i64 off, .int .i64 n, .string what] w fun e w' => e = .returned (.bool true) ∧ Below w.heap.size w w' := by
  go_enter Tryf.func3, Tryf.ntmps3
  go_wp2_with fail
  refine (bytes4 sl l c dOff left size off n what w hl hs).mono ?_
  rintro e w' ⟨rfl | rfl, rfl⟩
  case inr =>
    go_wp2_with fail
    go_ret
    exact ⟨rfl, Below.refl _ _⟩
  case inl =>
    go_wp2_with fail
    all_goals first | (go_ret; exact ⟨rfl, Below.refl _ _⟩) | skip
    refine (hcl.out (by omega)).mono ?_
    rintro e w1 ⟨⟨p, m, d, rfl⟩, hb1⟩
    go_wp2_with fail
    refine (dec6 p m d dOff left size w1).mono ?_
    rintro e w2 ⟨rfl, rfl⟩
    have hF2 : F.answers ((w1.alloc (.cells #[.int .i64 left, .int .i64 size] 32)).alloc (.cells #[.slice p m d, .int .i64 dOff, .pointer (some ⟨w1.heap.size, 0, none⟩)] 34)).tape := by
      show F.answers w1.tape
      rw [hb1.tape]; exact hF
    go_wp2_with fail
    refine (over7 F (w1.heap.size + 1) w1.heap.size left size off n what _ hF2 (by go_simp) (by go_simp) (by go_simp)).mono ?_
    rintro e w3 ⟨⟨q, rfl⟩, hb3⟩
    go_wp2_with fail
    go_ret
    refine ⟨rfl, ?_⟩
    exact ((hb1.alloc hb1.size _).alloc (by have := hb1.size; simp; omega) _).trans (hb3.mono (by have := hb1.size; simp; omega))

end Go.Proofs.Qxb6609231aFmt
