/-
  PLAIN LAWS ON THE NUMERAL, and b1DecimalDigits (function 8).
-/
import Derived.Test.Qxb6612587aFmtName
namespace Go.Proofs.Qxb6612587aFmt
open Go.RowKit Go.Kit Go.Extern.Stop Go.Stop Go.Extern

theorem ret_int {k : IntKind} {a b : Int} (h : a = b) : Ending.returned (.int k a) = .returned (.int k b) := by rw [h]

theorem dec_snoc (u d : Nat) (hu : 1 ≤ u) (hd : d ≤ 9) : Lib.decDigits (10 * u + d) = Lib.decDigits u ++ [UInt8.ofNat (48 + d)] := by
  rw [Lib.decDigits, dif_neg (by omega)]
  rw [show (10 * u + d) / 10 = u from by omega, show (10 * u + d) % 10 = d from by omega]

theorem itoa_snoc (n d : Int) (hn : 1 ≤ n) (h0 : 0 ≤ d) (hd : d ≤ 9) : Lib.itoa (10 * n + d) = Lib.itoa n ++ [UInt8.ofNat (48 + d.toNat)] := by
  unfold Lib.itoa
  rw [if_neg (by omega), if_neg (by omega), ← dec_snoc n.toNat d.toNat (by omega) (by omega)]
  congr 1
  omega

theorem itoa_neg_snoc (n d : Int) (hn : 1 ≤ n) (h0 : 0 ≤ d) (hd : d ≤ 9) : Lib.itoa (-(10 * n + d)) = Lib.itoa (-n) ++ [UInt8.ofNat (48 + d.toNat)] := by
  unfold Lib.itoa
  rw [if_pos (by omega), if_pos (by omega), List.cons_append, ← dec_snoc (-n).natAbs d.toNat (by omega) (by omega)]
  congr 2
  omega

theorem nm_snoc (n d : Int) (hn : 1 ≤ n) (h0 : 0 ≤ d) (hd : d ≤ 9) : nm (10 * n + d) = nm n ++ [UInt8.ofNat (48 + d.toNat)] := by
  unfold nm
  rw [itoa_snoc n d hn h0 hd, List.append_assoc]
theorem nm_neg_snoc (n d : Int) (hn : 1 ≤ n) (h0 : 0 ≤ d) (hd : d ≤ 9) : nm (-(10 * n + d)) = nm (-n) ++ [UInt8.ofNat (48 + d.toNat)] := by
  unfold nm
  rw [itoa_neg_snoc n d hn h0 hd, List.append_assoc]

theorem nm_length (n : Int) (hn : 1 ≤ n) : (nm n).length = 8 + Lib.nDigits n.toNat := by
  unfold nm
  rw [List.length_append, Lib.itoa, if_neg (by omega), Lib.decDigits_length]
  rfl

theorem nmB_size (n : Int) (hn : 1 ≤ n) : (nmB n).size = 8 + Lib.nDigits n.toNat := by
  rw [← nm_length n hn]
  rfl

set_option maxHeartbeats 400000 in
theorem digits8 (n : Int) (h : 1 ≤ n) (h2 : n ≤ 9223372036854775807) (w : World) :
    Calls Tryf.prog 8 #[.int .i64 n] w fun e w' => e = .returned (.int .i64 (Lib.nDigits n.toNat : Nat)) ∧ w' = w := by
  have hN := Lib.nDigits_le20 n.toNat (by omega)
  go_enter Tryf.func8, Tryf.ntmps8
  go_wp2
  go_loop [0, 3] (fun a c => ∃ k m : Nat, a = .int .i64 k ∧ c = .int .i64 m ∧ 1 ≤ k ∧ (k : Int) ≤ n ∧ 1 ≤ m ∧ m + Lib.nDigits k = Lib.nDigits n.toNat + 1) (fun a _ => (intOf a).toNat)
  case atStart => exact ⟨n.toNat, 1, by rw [show ((n.toNat : Nat) : Int) = n from by omega], rfl, by omega, by omega, by omega, by omega⟩
  case round =>
    obtain ⟨k, m, rfl, rfl, hk, hkn, hm, hs⟩ := hrel
    by_cases hlt : 10 ≤ k
    · have hb := Lib.nDigits_big (u := k) (by omega)
      have hp := Lib.nDigits_pos (k / 10)
      have HS : Hid (m + 1 + Lib.nDigits (k / 10) = Lib.nDigits n.toNat + 1) := (by show _ = _; omega)
      have hm20 : m ≤ 20 := by omega
      clear hb hs
      go_wp2
      go_round
      case rel => exact ⟨k / 10, m + 1, by go_num, by go_num, by omega, by omega, by omega, HS.out⟩
      case measure => simp [intOf]; omega
    · have hb := Lib.nDigits_small (u := k) (by omega)
      have HS : Hid (m = Lib.nDigits n.toNat) := (by show _ = _; omega)
      clear hb hs
      go_wp2
      go_ret
      exact ⟨ret_int (by rw [HS.out]), rfl⟩

end Go.Proofs.Qxb6612587aFmt
