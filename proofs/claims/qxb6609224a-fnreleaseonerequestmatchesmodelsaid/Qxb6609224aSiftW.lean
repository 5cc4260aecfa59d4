/-
  zzB1Sift (43): the walk.
-/
import Derived.Test.Qxb6609224aSift
import Derived.WalkSmall
namespace Go.Proofs.Qxb6609224a
open Go.RowKit

/-- What a sift leaves. -/
def Sifted (G N x0 n : Nat) (f : Nat → Int) (w w' : World) : Prop := ∃ f', Row w' G N f' ∧ Shuf n f f' ∧ Hp f' x0 n ∧ Below G w w'

set_option maxRecDepth 100000 in
set_option maxHeartbeats 2000000 in
theorem sift43 (G N x0 n : Nat) (f : Nat → Int) (w : World) (hrow : Row w G N f) (hn : n ≤ N) (hN : N ≤ 65536) (hx0 : x0 ≤ 65536) (hh : Hp f (x0 + 1) n) :
    Calls Try.prog 43 #[.slice (some ⟨G, 0, none⟩) N N, .int .i64 (x0 : Int), .int .i64 (n : Int)] w fun e w' => e = .returned (.tuple #[]) ∧ Sifted G N x0 n f w w' := by
  go_enter Try.func43, Try.ntmps43
  go_wp2_with fail
  go_loopw [1] (fun r wr => ∃ (x : Nat) (f' : Nat → Int), r = .int .i64 (x : Int) ∧ x0 ≤ x ∧ x ≤ 65536 ∧ Row wr G N f' ∧ Shuf n f f' ∧ HpBut f' x0 n x ∧ Below G w wr) (fun r _ => 65537 - (intOf r).toNat)
  case atStart => exact ⟨x0, f, rfl, Nat.le_refl _, hx0, hrow, Shuf.refl _ _, hh.but, Below.refl _ _⟩
  case round =>
    clear hrow hh hx0
    obtain ⟨x, f', rfl, hxx, hx, hrow, hsh, hbut, hb⟩ := hrel
    by_cases h1 : 2 * x + 1 < n
    · obtain ⟨cx, fx⟩ := hrow x (by omega)
      obtain ⟨p, hp⟩ : ∃ p : Nat, p = 2 * x + 1 := ⟨_, rfl⟩
      obtain ⟨q, hq⟩ : ∃ q : Nat, q = 2 * x + 2 := ⟨_, rfl⟩
      have e1 : 2 * (x : Int) + 1 = (p : Int) := by omega
      have e0 : IntKind.i64.wrap (2 * (x : Int)) = 2 * (x : Int) := IntWalk.i64_in _ (by omega)
      have e0' : IntKind.i64.wrap (p : Int) = (p : Int) := IntWalk.i64_in _ (by omega)
      have e2 : IntKind.i64.wrap ((p : Int) + 1) = (q : Int) := by rw [IntWalk.i64_in _ (by omega)]; omega
      have e3 : (p : Int) + 1 = (q : Int) := by omega
      have d1 : decide ((n : Int) ≤ (p : Int)) = false := by simp; omega
      obtain ⟨c1, f1⟩ := hrow p (by omega)
      have Hrow : Hid (Row wr G N f') := hrow
      have Hp' : Hid (p = 2 * x + 1) := hp
      have Hq' : Hid (q = 2 * x + 2) := hq
      have hpN : p < N := by omega
      have hpn : p < n := by omega
      have hxN : x < N := by omega
      have hpb : p ≤ 65536 := by omega
      by_cases h2 : q < n
      · obtain ⟨c2, f2⟩ := hrow q (by omega)
        have hqN : q < N := by omega
        clear hrow hp hq h1
        have d2 : decide ((q : Int) < (n : Int)) = true := by simp; omega
        by_cases h3 : f' p < f' q
        · have d3 : decide (f' p < f' q) = true := by simp; omega
          have Hmax : Hid (∀ j, (j = 2 * x + 1 ∨ j = 2 * x + 2) → j < n → f' j ≤ f' q) := by
            have e1 := Hp'.out
            have e2 := Hq'.out
            rintro j (hj | hj) hjn
            · rw [← e1] at hj; subst hj; omega
            · rw [← e2] at hj; subst hj; omega
          by_cases h4 : f' q ≤ f' x
          · have d4 : decide (f' q ≤ f' x) = true := by simp; omega
            go_wp2_with fail
            go_quiet (fail)
            go_wp2_with fail
            go_quiet (fail)
            go_wp2_with fail
            first | go_end0 | refine bodyPost_ret (results_none rfl _ _ _) rfl ?_
            exact ⟨rfl, f', Hrow.out, hsh, hbut.done (fun j hj hjn => Int.le_trans (Hmax.out j hj hjn) h4), below_drewN (below_drewN hb _) _⟩
          · have d4 : decide (f' q ≤ f' x) = false := by simp; omega
            go_wp2_with fail
            go_quiet (fail)
            go_wp2_with fail
            go_quiet (fail)
            go_wp2_with fail
            go_roundw
            case rel =>
              have e1 := Hp'.out
              have e2 := Hq'.out
              exact ⟨q, sw f' x q, rfl, by omega, by omega, Row.swap Hrow.out (by omega) (by omega), hsh.trans (Shuf.sw n f' x q (by omega) (by omega)), hbut.step hxx (by omega) (by omega) (by omega) Hmax.out, ((below_drewN hb _).setCell (Nat.le_refl _) _).setCell (Nat.le_refl _) _⟩
            case measure =>
              have e1 := Hp'.out
              have e2 := Hq'.out
              simp [intOf]; omega
        · have d3 : decide (f' p < f' q) = false := by simp; omega
          have Hmax : Hid (∀ j, (j = 2 * x + 1 ∨ j = 2 * x + 2) → j < n → f' j ≤ f' p) := by
            have e1 := Hp'.out
            have e2 := Hq'.out
            rintro j (hj | hj) hjn
            · rw [← e1] at hj; subst hj; omega
            · rw [← e2] at hj; subst hj; omega
          by_cases h4 : f' p ≤ f' x
          · have d4 : decide (f' p ≤ f' x) = true := by simp; omega
            go_wp2_with fail
            go_quiet (fail)
            go_wp2_with fail
            go_quiet (fail)
            go_wp2_with fail
            first | go_end0 | refine bodyPost_ret (results_none rfl _ _ _) rfl ?_
            exact ⟨rfl, f', Hrow.out, hsh, hbut.done (fun j hj hjn => Int.le_trans (Hmax.out j hj hjn) h4), below_drewN (below_drewN hb _) _⟩
          · have d4 : decide (f' p ≤ f' x) = false := by simp; omega
            go_wp2_with fail
            go_quiet (fail)
            go_wp2_with fail
            go_quiet (fail)
            go_wp2_with fail
            go_roundw
            case rel =>
              have e1 := Hp'.out
              have e2 := Hq'.out
              exact ⟨p, sw f' x p, rfl, by omega, by omega, Row.swap Hrow.out (by omega) (by omega), hsh.trans (Shuf.sw n f' x p (by omega) (by omega)), hbut.step hxx (by omega) (by omega) (by omega) Hmax.out, ((below_drewN hb _).setCell (Nat.le_refl _) _).setCell (Nat.le_refl _) _⟩
            case measure =>
              have e1 := Hp'.out
              have e2 := Hq'.out
              simp [intOf]; omega
      · clear hrow hp hq h1
        have d2 : decide ((q : Int) < (n : Int)) = false := by simp; omega
        have Hmax : Hid (∀ j, (j = 2 * x + 1 ∨ j = 2 * x + 2) → j < n → f' j ≤ f' p) := by
          have e1 := Hp'.out
          have e2 := Hq'.out
          rintro j (hj | hj) hjn
          · rw [← e1] at hj; subst hj; omega
          · rw [← e2] at hj; subst hj; exact absurd hjn h2
        by_cases h4 : f' p ≤ f' x
        · have d4 : decide (f' p ≤ f' x) = true := by simp; omega
          go_wp2_with fail
          go_quiet (fail)
          go_wp2_with fail
          go_quiet (fail)
          go_wp2_with fail
          first | go_end0 | refine bodyPost_ret (results_none rfl _ _ _) rfl ?_
          exact ⟨rfl, f', Hrow.out, hsh, hbut.done (fun j hj hjn => Int.le_trans (Hmax.out j hj hjn) h4), below_drewN (below_drewN hb _) _⟩
        · have d4 : decide (f' p ≤ f' x) = false := by simp; omega
          go_wp2_with fail
          go_quiet (fail)
          go_wp2_with fail
          go_quiet (fail)
          go_wp2_with fail
          go_roundw
          case rel =>
            have e1 := Hp'.out
            have e2 := Hq'.out
            exact ⟨p, sw f' x p, rfl, by omega, by omega, Row.swap Hrow.out (by omega) (by omega), hsh.trans (Shuf.sw n f' x p (by omega) (by omega)), hbut.step hxx (by omega) (by omega) (by omega) Hmax.out, ((below_drewN hb _).setCell (Nat.le_refl _) _).setCell (Nat.le_refl _) _⟩
          case measure =>
            have e1 := Hp'.out
            have e2 := Hq'.out
            simp [intOf]; omega
    · go_wp2_with fail
      first | go_end0 | refine bodyPost_ret (results_none rfl _ _ _) rfl ?_
      exact ⟨rfl, f', hrow, hsh, hbut.done (fun j hj hjn => by omega), hb⟩

end Go.Proofs.Qxb6609224a
