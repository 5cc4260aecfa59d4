/-
  FnReleaseOneRequestMatchesModel (4): the inputs that its first tests turn away.
-/
import Derived.Test.Qxb6609224aGet
namespace Go.Proofs.Qxb6609224a
open Go.RowKit

set_option maxRecDepth 100000 in
set_option maxHeartbeats 4000000 in
theorem early4 (c e i : Int) (p2 p3 p4 : Option Addr) (n2 c2 n3 c3 n4 c4 : Nat) (w : World) (h2 : n2 ≤ 9223372036854775807) (h3 : n3 ≤ 9223372036854775807) (h4 : n4 ≤ 9223372036854775807)
    (hx : 65536 < n2 ∨ 65536 < n3 ∨ 65536 < n4 ∨ n3 = 0 ∨ n2 ≠ n3 ∨ n4 = 0) :
    Calls Try.prog 4 #[.int .i64 c, .int .u64 e, .slice p2 n2 c2, .slice p3 n3 c3, .slice p4 n4 c4, .int .i64 i] w fun x w' => x = .returned (.bool true) ∧ Below w.heap.size w w' := by
  go_enter Try.func4, Try.ntmps4
  go_wp2_with fail
  refine (bytes26 c e i _ _ _ n2 c2 n3 c3 n4 c4 w h2 h3 h4).mono ?_
  rintro x w1 ⟨rfl | rfl, rfl⟩
  case inr =>
    go_wp2_with fail
    go_ret
    exact ⟨rfl, Below.refl _ _⟩
  by_cases g2 : 65536 < n2
  · clear hx
    have d2 : decide ((65536 : Int) < (n2 : Int)) = true := by simp; omega
    go_wp2_with fail
    go_ret
    exact ⟨rfl, Below.refl _ _⟩
  by_cases g3 : 65536 < n3
  · clear hx
    have d2 : decide ((65536 : Int) < (n2 : Int)) = false := by simp; omega
    have d3 : decide ((65536 : Int) < (n3 : Int)) = true := by simp; omega
    go_wp2_with fail
    go_ret
    exact ⟨rfl, Below.refl _ _⟩
  by_cases g4 : 65536 < n4
  · clear hx
    have d2 : decide ((65536 : Int) < (n2 : Int)) = false := by simp; omega
    have d3 : decide ((65536 : Int) < (n3 : Int)) = false := by simp; omega
    have d4 : decide ((65536 : Int) < (n4 : Int)) = true := by simp; omega
    go_wp2_with fail
    go_ret
    exact ⟨rfl, Below.refl _ _⟩
  by_cases hbig : 1048576 < 8 * (n2 : Int) + 8 * (n3 : Int) + 8 * (n4 : Int)
  · clear hx
    go_wp2_with fail
    go_ret
    exact ⟨rfl, Below.refl _ _⟩
  by_cases z3 : n3 = 0
  · subst z3
    clear hx
    go_wp2_with fail
    go_ret
    exact ⟨rfl, Below.refl _ _⟩
  have e3 : ((n3 : Int) == 0) = false := by simp; omega
  by_cases ne : n2 = n3
  · subst ne
    obtain rfl : n4 = 0 := by omega
    clear hx z3
    go_wp2_with fail
    go_ret
    exact ⟨rfl, Below.refl _ _⟩
  · have e4 : ((n2 : Int) == (n3 : Int)) = false := by simp; omega
    clear hx z3
    go_wp2_with fail
    go_ret
    exact ⟨rfl, Below.refl _ _⟩

end Go.Proofs.Qxb6609224a
