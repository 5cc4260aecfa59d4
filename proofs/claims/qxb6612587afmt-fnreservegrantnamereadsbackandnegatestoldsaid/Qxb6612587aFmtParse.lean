/-
  THE WALKS OF b1ParseReserveName (function 6) AND b1Magnitude (function 7).
-/
import Derived.Test.Qxb6612587aFmtVal
namespace Go.Proofs.Qxb6612587aFmt
open Go.RowKit Go.Kit Go.Extern.Stop Go.Stop Go.Extern

/-- What one round reads: the digit's bounds, the sum's bound. -/
theorem round_facts (u k : Nat) (r : ByteArray) (hr : r = decB u) (hk : k < r.size) :
    48 ≤ (r[k]).toNat ∧ (r[k]).toNat ≤ 57 ∧ valN ((Lib.decDigits u).take (k + 1)) = 10 * valN ((Lib.decDigits u).take k) + ((r[k]).toNat - 48) ∧ 10 * valN ((Lib.decDigits u).take k) + ((r[k]).toNat - 48) ≤ u := by
  subst hr
  have a := decB_get u k hk
  have b := decB_snoc u k hk
  have c := decB_take u (k + 1)
  exact ⟨a.1, a.2, b, by omega⟩

theorem ret3 (g : Bool) {a b : Int} (h : a = b) : Ending.returned (.tuple #[.bool g, .int .u64 a, .bool true]) = .returned (.tuple #[.bool g, .int .u64 b, .bool true]) := by rw [h]

set_option maxHeartbeats 1000000 in
/-- A name without a sign: its tail r is the numeral of u. -/
theorem parse_pos (u : Nat) (r s : ByteArray) (w : World) (Hr : Hid (r = decB u)) (hu : u ≤ 9223372036854775808) (h8 : 8 < s.size) (hpre : s.extract 0 8 = ⟨#[114, 101, 115, 101, 114, 118, 101, 45]⟩) (hrest : s.extract 8 s.size = r)
    (hr0 : 0 < r.size) (hne : ¬ r = ByteArray.empty) (hr20 : r.size ≤ 20) (hm : (((r[0]).toNat : Int) == 45) = false) (hz : (((r[0]).toNat : Int) == 48) = false ∨ (((r[0]).toNat : Int) == 48) = true ∧ r.size ≤ 1) :
    Calls Tryf.prog 6 #[.string s] w fun e w' => e = .returned (.tuple #[.bool false, .int .u64 u, .bool true]) ∧ w' = w := by
  have hs0 : ((r.size : Int) == 0) = false := by simp; omega
  have hs20 : decide ((20 : Int) < r.size) = false := by simp; omega
  rcases hz with hz | ⟨hz, hz1⟩
  all_goals
    go_enter Tryf.func6, Tryf.ntmps6
    go_wp2
    go_loop [7, 8] (fun m i => ∃ k : Nat, k ≤ r.size ∧ i = .int .i64 k ∧ m = .int .u64 (valN ((Lib.decDigits u).take k) : Nat)) (fun _ i => r.size - (intOf i).toNat)
    case atStart => exact ⟨0, Nat.zero_le _, rfl, rfl⟩
    case round =>
      obtain ⟨k, hk, rfl, rfl⟩ := hrel
      by_cases hlt : k < r.size
      · obtain ⟨a, b, c, d⟩ := round_facts u k r Hr.out hlt
        have HC : Hid (valN ((Lib.decDigits u).take (k + 1)) = 10 * valN ((Lib.decDigits u).take k) + ((r[k]).toNat - 48)) := c
        clear c
        generalize valN ((Lib.decDigits u).take k) = m at *
        go_wp2
        go_round
        case rel => exact ⟨k + 1, by omega, by go_num, by rw [HC.out]; exact congrArg (Value.int .u64) (by omega)⟩
        case measure => simp [intOf]; omega
      · go_wp2
        go_ret3
        have e : k = r.size := by omega
        subst e
        exact ⟨ret3 false (by rw [Hr.out, decB_whole]), rfl⟩

set_option maxHeartbeats 1000000 in
/-- A name with a sign: its tail q is '-' and the numeral r of u. -/
theorem parse_neg (u : Nat) (q r s : ByteArray) (w : World) (Hr : Hid (r = decB u)) (hu : u ≤ 9223372036854775808) (h8 : 8 < s.size) (hpre : s.extract 0 8 = ⟨#[114, 101, 115, 101, 114, 118, 101, 45]⟩) (hq : s.extract 8 s.size = q)
    (hq0 : 0 < q.size) (hrest : q.extract 1 q.size = r)
    (hr0 : 0 < r.size) (hne : ¬ r = ByteArray.empty) (hr20 : r.size ≤ 20) (hm : (((q[0]).toNat : Int) == 45) = true) (hz : (((r[0]).toNat : Int) == 48) = false) :
    Calls Tryf.prog 6 #[.string s] w fun e w' => e = .returned (.tuple #[.bool true, .int .u64 u, .bool true]) ∧ w' = w := by
  have hs0 : ((r.size : Int) == 0) = false := by simp; omega
  have hs20 : decide ((20 : Int) < r.size) = false := by simp; omega
  all_goals
    go_enter Tryf.func6, Tryf.ntmps6
    go_wp2
    go_loop [7, 8] (fun m i => ∃ k : Nat, k ≤ r.size ∧ i = .int .i64 k ∧ m = .int .u64 (valN ((Lib.decDigits u).take k) : Nat)) (fun _ i => r.size - (intOf i).toNat)
    case atStart => exact ⟨0, Nat.zero_le _, rfl, rfl⟩
    case round =>
      obtain ⟨k, hk, rfl, rfl⟩ := hrel
      by_cases hlt : k < r.size
      · obtain ⟨a, b, c, d⟩ := round_facts u k r Hr.out hlt
        have HC : Hid (valN ((Lib.decDigits u).take (k + 1)) = 10 * valN ((Lib.decDigits u).take k) + ((r[k]).toNat - 48)) := c
        clear c
        generalize valN ((Lib.decDigits u).take k) = m at *
        go_wp2
        go_round
        case rel => exact ⟨k + 1, by omega, by go_num, by rw [HC.out]; exact congrArg (Value.int .u64) (by omega)⟩
        case measure => simp [intOf]; omega
      · go_wp2
        go_ret3
        have e : k = r.size := by omega
        subst e
        exact ⟨ret3 true (by rw [Hr.out, decB_whole]), rfl⟩

set_option maxHeartbeats 400000 in
theorem mag7 (n : Int) (w : World) (h1 : -9223372036854775808 ≤ n) (h2 : n ≤ 9223372036854775807) :
    Calls Tryf.prog 7 #[.int .i64 n] w fun e w' => e = .returned (.int .u64 (n.natAbs : Nat)) ∧ w' = w := by
  by_cases h : n < 0
  · go_enter Tryf.func7, Tryf.ntmps7
    go_wp2
    go_ret
    exact ⟨ret_int (by omega), rfl⟩
  · go_enter Tryf.func7, Tryf.ntmps7
    go_wp2
    go_ret
    exact ⟨ret_int (by omega), rfl⟩

end Go.Proofs.Qxb6612587aFmt
