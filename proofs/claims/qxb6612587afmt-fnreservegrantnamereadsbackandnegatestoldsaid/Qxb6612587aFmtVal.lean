/-
  PLAIN LAWS: a numeral read back; and b1Magnitude's number.
-/
import Derived.Test.Qxb6612587aFmtGrows
namespace Go.Proofs.Qxb6612587aFmt
open Go.RowKit Go.Kit Go.Extern.Stop Go.Stop Go.Extern

/-- The number that a list of digits reads as. -/
def valN (l : List UInt8) : Nat := l.foldl (fun m c => 10 * m + (c.toNat - 48)) 0

theorem foldl_ge (l : List UInt8) : ∀ m : Nat, m ≤ l.foldl (fun m c => 10 * m + (c.toNat - 48)) m := by
  induction l with
  | nil => intro m; exact Nat.le_refl _
  | cons c l ih => intro m; have := ih (10 * m + (c.toNat - 48)); simp only [List.foldl_cons]; omega

theorem valN_snoc (l : List UInt8) (c : UInt8) : valN (l ++ [c]) = 10 * valN l + (c.toNat - 48) := by
  simp [valN, List.foldl_append]

theorem valN_take (l : List UInt8) (k : Nat) : valN (l.take k) ≤ valN l := by
  have e : l = l.take k ++ l.drop k := (List.take_append_drop k l).symm
  have h : valN l = (l.drop k).foldl (fun m c => 10 * m + (c.toNat - 48)) (valN (l.take k)) := by
    conv => lhs; rw [e]
    simp only [valN, List.foldl_append]
  rw [h]
  exact foldl_ge _ _

theorem ofNat_digit (d : Nat) (hd : d ≤ 9) : (UInt8.ofNat (48 + d)).toNat = 48 + d := by
  rw [UInt8.toNat_ofNat']
  omega

theorem dec_val (u : Nat) : valN (Lib.decDigits u) = u := by
  induction u using Nat.strongRecOn with
  | _ u ih =>
    by_cases h : u < 10
    · rw [Lib.decDigits, dif_pos h]
      have := ofNat_digit u (by omega)
      simp only [valN, List.foldl_cons, List.foldl_nil]
      omega
    · rw [Lib.decDigits, dif_neg h, valN_snoc, ih (u / 10) (by omega), ofNat_digit (u % 10) (by omega)]
      omega

theorem dec_digits (u : Nat) : ∀ c ∈ Lib.decDigits u, 48 ≤ c.toNat ∧ c.toNat ≤ 57 := by
  induction u using Nat.strongRecOn with
  | _ u ih =>
    by_cases h : u < 10
    · rw [Lib.decDigits, dif_pos h]
      intro c hc
      have := ofNat_digit u (by omega)
      simp only [List.mem_singleton] at hc
      subst hc
      omega
    · rw [Lib.decDigits, dif_neg h]
      intro c hc
      have := ofNat_digit (u % 10) (by omega)
      simp only [List.mem_append, List.mem_singleton] at hc
      rcases hc with hc | hc
      · exact ih (u / 10) (by omega) c hc
      · subst hc; omega

/-- The first digit is '0' only at 0. -/
theorem dec_head (u : Nat) (hu : 1 ≤ u) : ∀ c l, Lib.decDigits u = c :: l → c.toNat ≠ 48 := by
  induction u using Nat.strongRecOn with
  | _ u ih =>
    intro c l hc
    by_cases h : u < 10
    · rw [Lib.decDigits, dif_pos h] at hc
      have := ofNat_digit u (by omega)
      simp only [List.cons.injEq] at hc
      rw [← hc.1]
      omega
    · rw [Lib.decDigits, dif_neg h] at hc
      have hl : 1 ≤ (Lib.decDigits (u / 10)).length := by rw [Lib.decDigits_length]; exact Lib.nDigits_pos _
      match hd : Lib.decDigits (u / 10), hl with
      | x :: xs, _ =>
        rw [hd] at hc
        simp only [List.cons_append, List.cons.injEq] at hc
        rw [← hc.1]
        exact ih (u / 10) (by omega) (by omega) x xs hd

/-- What b1ParseReserveName reads of the digits' bytes r of u. -/
def decB (u : Nat) : ByteArray := ⟨(Lib.decDigits u).toArray⟩

theorem decB_size (u : Nat) : (decB u).size = Lib.nDigits u := by
  rw [← Lib.decDigits_length]
  rfl
theorem decB_get (u k : Nat) (h : k < (decB u).size) : 48 ≤ ((decB u)[k]).toNat ∧ ((decB u)[k]).toNat ≤ 57 := by
  refine dec_digits u _ ?_
  have hk : k < (Lib.decDigits u).length := by rw [Lib.decDigits_length, ← decB_size]; exact h
  exact (List.getElem_mem hk : (Lib.decDigits u)[k] ∈ Lib.decDigits u)
theorem decB_snoc (u k : Nat) (h : k < (decB u).size) : valN ((Lib.decDigits u).take (k + 1)) = 10 * valN ((Lib.decDigits u).take k) + (((decB u)[k]).toNat - 48) := by
  have hk : k < (Lib.decDigits u).length := by rw [Lib.decDigits_length, ← decB_size]; exact h
  rw [List.take_succ_eq_append_getElem hk, valN_snoc]
  rfl
theorem decB_take (u k : Nat) : valN ((Lib.decDigits u).take k) ≤ u := by
  have := valN_take (Lib.decDigits u) k
  rw [dec_val] at this
  exact this
theorem decB_whole (u : Nat) : valN ((Lib.decDigits u).take (decB u).size) = u := by
  rw [decB_size, ← Lib.decDigits_length, List.take_length, dec_val]
theorem decB_head (u : Nat) (hu : 1 ≤ u) (h : 0 < (decB u).size) : ((decB u)[0]).toNat ≠ 48 := by
  have hk : 0 < (Lib.decDigits u).length := by rw [Lib.decDigits_length, ← decB_size]; exact h
  match hd : Lib.decDigits u, hk with
  | c :: l, _ =>
    have e : ((Lib.decDigits u)[0]'(by rw [hd]; simp)).toNat ≠ 48 := by
      simp only [hd, List.getElem_cons_zero]
      exact dec_head u hu c l hd
    exact e

end Go.Proofs.Qxb6612587aFmt
