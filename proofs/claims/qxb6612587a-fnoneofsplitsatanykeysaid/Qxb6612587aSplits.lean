/-
  THE WALK OF FnOneOfSplitsAtAnyKey (function 4).
-/
import Derived.Test.Qxb6612587aAdds
namespace Go.Proofs.Qxb6612587a
open Go.RowKit

set_option maxRecDepth 100000 in
set_option maxHeartbeats 1000000 in
theorem splits_nil (c : Nat) (m : Int) (w : World) :
    Calls Try.prog 4 #[.slice none 0 c, .int .i64 m] w fun e w' => e = .returned (.bool true) ∧ Below w.heap.size w w' := by
  go_enter Try.func4, Try.ntmps4
  go_wp2_with fail
  refine (bytes11 none 0 0 c [] m _ (by intro j x hx; cases hx) (by intro h; cases h) (by simp) (by intro j x hx; cases hx)).mono ?_
  rintro e w' ⟨rfl, rfl⟩
  rw [decide_eq_true (by simp [tot])]
  go_wp2_with fail
  refine (add7 none 0 0 c [] _ _ (by intro j x hx; cases hx) (by intro h; cases h) (by simp) (by omega) (by omega)).mono ?_
  rintro e w' ⟨⟨v, rfl⟩, rfl⟩
  by_cases hv : 1048576 < v
  · go_wp2_with fail
    go_ret
    exact ⟨rfl, Below.refl _ _⟩
  · go_wp2_with fail
    go_ret
    exact ⟨rfl, Below.refl _ _⟩

set_option maxRecDepth 100000 in
set_option maxHeartbeats 1000000 in
theorem splits_some (a : Addr) (bk o c n : Nat) (L : List ByteArray) (m : Int) (w : World) (hn : Hid (n = L.length)) (ha : Hid (0 < n → a = ⟨bk, o, none⟩)) (hs : Strs w bk o L) (hnm : n ≤ 9223372036854775807) (hmax : ∀ (j : Nat) (x : ByteArray), L[j]? = some x → x.size ≤ 9223372036854775807) :
    Calls Try.prog 4 #[.slice (some a) n c, .int .i64 m] w fun e w' => e = .returned (.bool true) ∧ Below w.heap.size w w' := by
  have H11 : Hid (∀ W, Strs W bk o L → Calls Try.prog 11 #[.slice (some a) n c, .int .i64 m] W fun e w' => e = .returned (.bool (decide (n + tot L ≤ 1048576))) ∧ w' = W) := by
    intro W hW
    have := bytes11 (some a) bk o c L m W hW (fun h => congrArg some (ha.out (by rw [hn.out]; exact h))) (by rw [← hn.out]; exact hnm) hmax
    rw [← hn.out] at this
    exact this
  have H7 : Hid (∀ W b, Strs W bk o L → n ≤ 65536 → 0 ≤ b → b ≤ 1048576 → Calls Try.prog 7 #[.int .i64 b, .slice (some a) n c] W fun e w' => (∃ v : Int, e = .returned (.int .i64 v)) ∧ w' = W) := by
    intro W b hW h1 h2 h3
    have := add7 (some a) bk o c L b W hW (fun h => congrArg some (ha.out (by rw [hn.out]; exact h))) (by rw [← hn.out]; exact h1) h2 h3
    rw [← hn.out] at this
    exact this
  clear hmax
  go_enter Try.func4, Try.ntmps4
  go_wp2_with fail
  refine (H11.out _ hs).mono ?_
  rintro e w' ⟨rfl, rfl⟩
  by_cases hT : n + tot L ≤ 1048576
  case neg =>
    rw [decide_eq_false hT]
    go_wp2_with fail
    go_ret
    exact ⟨rfl, Below.refl _ _⟩
  rw [decide_eq_true hT]
  by_cases h16 : 65536 < n
  · go_wp2_with fail
    go_ret
    exact ⟨rfl, Below.refl _ _⟩
  go_wp2_with fail
  refine (H7.out _ _ hs (by omega) (by omega) (by omega)).mono ?_
  rintro e w' ⟨⟨v, rfl⟩, rfl⟩
  by_cases hv : 1048576 < v
  · go_wp2_with fail
    go_ret
    exact ⟨rfl, Below.refl _ _⟩
  have hmk := make_run n w' (by omega)
  obtain ⟨W2, hcp, hs2, hb2, hz2⟩ := copy_run' w' a bk o c n L hn.out ha.out hs
  by_cases hn3 : n < 3
  · go_wp2_with fail
    go_ret
    exact ⟨rfl, hb2⟩
  by_cases hm1 : m < 1
  · go_wp2_with fail
    go_ret
    exact ⟨rfl, hb2⟩
  by_cases hm2 : (n : Int) - 2 < m
  · go_wp2_with fail
    go_ret
    exact ⟨rfl, hb2⟩
  obtain ⟨q, rfl⟩ := Int.eq_ofNat_of_zero_le (show 0 ≤ m by omega)
  obtain ⟨xs, y, rfl⟩ : ∃ xs y, L = xs ++ [y] := by
    have hne : L ≠ [] := by intro e; have := hn.out; rw [e] at this; simp at this; omega
    exact ⟨L.dropLast, L.getLast hne, (List.dropLast_concat_getLast hne).symm⟩
  have HN : Hid (n = xs.length + 1) := by have := hn.out; simp at this; exact this
  have hq1 : 1 ≤ q := by omega
  have hq2 : q + 2 ≤ n := by omega
  obtain ⟨z, hz⟩ := at_lt xs q (by have := HN.out; omega)
  have HT : Hid ((xs ++ [y]).take (q + 1) = xs.take q ++ [z]) := by
    show _ = _
    rw [List.take_append_of_le_length (by have := HN.out; omega), List.take_add_one, hz]
    rfl
  have HD : Hid ((xs ++ [y]).drop q = xs.drop q ++ [y]) := by
    show _ = _
    rw [List.drop_append_of_le_length (by have := HN.out; omega)]
  have htot : tot (xs ++ [y]) ≤ 1048576 := by omega
  have Htl : Hid (tot (xs.take q ++ [z]) ≤ 1048576) := by
    have := tot_take_le (xs ++ [y]) (q + 1)
    rw [HT.out] at this
    exact Nat.le_trans this htot
  have Htr : Hid (tot (xs.drop q ++ [y]) ≤ 1048576) := by
    have e : tot (xs ++ [y]) = tot ((xs ++ [y]).take q) + tot ((xs ++ [y]).drop q) := by rw [← tot_append, List.take_append_drop]
    rw [HD.out] at e
    show _ ≤ _
    omega
  clear hm1 hm2
  go_wp2_with fail
  refine (one8n w'.heap.size 0 n n xs y W2 HN.out hs2 (by omega) (Nat.le_refl _) htot (by omega)).mono ?_
  rintro e w7 ⟨rfl, hb7⟩
  have hs7 := hs2.later hb7 (by omega)
  have hz7 : w'.heap.size + 1 ≤ w7.heap.size := by have := hb7.size; omega
  have Hl7 : Hid (Strs w7 w'.heap.size 0 (xs.take q ++ [z])) := by
    have := hs7.take (q + 1)
    rw [HT.out] at this
    exact this
  have Hll : Hid (q + 1 = (xs.take q).length + 1) := by
    have := HN.out
    show _ = _
    rw [List.length_take]; omega
  clear hmk hcp hs2 hs H7 H11
  go_wp2_with fail
  refine (one8n w'.heap.size 0 n (q + 1) (xs.take q) z w7 Hll.out Hl7.out (by omega) (by omega) Htl.out (by omega)).mono ?_
  rintro e w8 ⟨rfl, hb8⟩
  have hs8 := hs7.later hb8 (by omega)
  have hz8 : w'.heap.size + 1 ≤ w8.heap.size := by have := hb8.size; omega
  have Hr8 : Hid (Strs w8 w'.heap.size q (xs.drop q ++ [y])) := by
    have := hs8.drop q
    rw [HD.out, Nat.zero_add] at this
    exact this
  have Hrl : Hid (n - q = (xs.drop q).length + 1) := by
    have := HN.out
    show _ = _
    rw [List.length_drop]; omega
  go_wp2_with fail
  refine (one8n w'.heap.size q (n - q) (n - q) (xs.drop q) y w8 Hrl.out Hr8.out (by omega) (Nat.le_refl _) Htr.out (by omega)).mono ?_
  rintro e w9 ⟨rfl, hb9⟩
  have hs9 := hs8.later hb9 (by omega)
  have hbe : Below w'.heap.size w' w9 := ((hb2.trans (hb7.mono (by omega))).trans (hb8.mono (by omega))).trans (hb9.mono (by omega))
  have hcz : w9.cell? ⟨w'.heap.size, q, none⟩ = some (.string z) := by
    have := hs9 q z (by rw [List.getElem?_append_left (by have := HN.out; omega)]; exact hz)
    rw [Nat.zero_add] at this
    exact this
  have hor : (⟨#[32, 111, 114, 32]⟩ : ByteArray) ++ z = orB z := rfl
  have HX : Hid (xs.take q ++ xs.drop q = xs) := List.take_append_drop q xs
  have hla : 1 ≤ (xs.take q).length := by have := Hll.out; omega
  have hld : 1 ≤ (xs.drop q).length := by have := Hrl.out; have := HN.out; rw [List.length_drop]; omega
  have hta := Htl.out
  have htd := Htr.out
  have Hna : Hid ((xs.take q).length ≤ 1048576) := by have := Hll.out; show _ ≤ _; omega
  have Hnd : Hid ((xs.drop q).length ≤ 1048576) := by have := Hrl.out; show _ ≤ _; omega
  have HL : Hid ((oneB xs y).size = tot (xs ++ [y]) + 2 * n) := by
    have h1 := oneB_len xs y (by have := HN.out; omega)
    have h2 := HN.out
    have h3 : tot (xs ++ [y]) = tot xs + y.size := by rw [tot_append, tot_one]
    show _ = _
    omega
  have hsz : (oneB xs y).size ≤ 4194304 := by have := HL.out; omega
  have e10 : (((oneB xs y).size : Int) == ((tot (xs ++ [y]) : Nat) : Int) + 2 * (n : Int)) = true := by rw [HL.out]; simp
  have hsp := splits (xs.take q) (xs.drop q) y hla hld
  rw [HX.out] at hsp
  clear Hl7 Hr8 hs7 hs8 HT HD Hll Hrl HX hz Htl Htr hb7 hb8 hb9 hb2
  generalize xs.take q = A at *
  generalize xs.drop q = D at *
  have hla' := oneB_len A z hla
  have hld' := oneB_len D y hld
  have htA : tot A + z.size ≤ 1048576 := by rw [tot_append, tot_one] at hta; exact hta
  have htD : tot D + y.size ≤ 1048576 := by rw [tot_append, tot_one] at htd; exact htd
  have hszA : (oneB A z).size ≤ 4194304 := by have := Hna.out; omega
  have hszD : (oneB D y).size ≤ 4194304 := by have := Hnd.out; omega
  have hole : (orB z).size ≤ (oneB A z).size := by rw [oneB_size, orB_size]; omega
  have hjle : (jn A).size ≤ 4194304 := by have := oneB_size A z; omega
  have hhead := oneB_head A z
  have htail := oneB_tail A z
  have hzs : z.size ≤ 1048576 := by omega
  clear hla' hld' htA htD hta htd hla hld
  go_wp2_with fail
  refine (ends9 (oneB A z) (orB z) w9 (by omega) hole htail).mono ?_
  rintro e w10 ⟨rfl, rfl⟩
  clear htail
  go_wp2_with fail
  refine (keys10n w'.heap.size 0 n n (xs ++ [y]) w10 hn.out hs9 htot (by omega)).mono ?_
  rintro e w11 ⟨rfl, rfl⟩
  go_wp2_with fail
  go_ret
  exact ⟨rfl, hbe⟩

end Go.Proofs.Qxb6612587a
