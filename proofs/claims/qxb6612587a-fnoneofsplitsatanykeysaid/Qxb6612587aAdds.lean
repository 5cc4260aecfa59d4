/-
  THE WALK OF FnOneOfAddsAKey (function 3).
-/
import Derived.Test.Qxb6612587aMem
namespace Go.Proofs.Qxb6612587a
open Go.RowKit

theorem hid {p : Prop} (h : p) : Hid p := h

theorem keys10n (bk o c n : Nat) (L : List ByteArray) (w : World) (hn : n = L.length) (hs : Strs w bk o L) (ht : tot L ≤ 1048576) (hm : n ≤ 1048576) :
    Calls Try.prog 10 #[.slice (some ⟨bk, o, none⟩) n c] w fun e w' => e = .returned (.int .i64 (tot L : Nat)) ∧ w' = w := by
  subst hn
  exact keys10 (some ⟨bk, o, none⟩) bk o c L w hs (fun _ => rfl) ht hm

theorem one8n (bk o c n : Nat) (xs : List ByteArray) (y : ByteArray) (w : World) (hn : n = xs.length + 1) (hs : Strs w bk o (xs ++ [y])) (hbk : bk < w.heap.size) (hc : n ≤ c) (ht : tot (xs ++ [y]) ≤ 1048576) (hm : n ≤ 1048577) :
    Calls Try.prog 8 #[.slice (some ⟨bk, o, none⟩) n c] w fun e w' => e = .returned (.string (oneB xs y)) ∧ Below w.heap.size w w' := by
  subst hn
  rw [tot_append, tot_one] at ht
  exact one8 bk o c xs.length xs y w rfl hs.init hs.last hbk hc (by omega) (by omega) (by omega)

set_option maxRecDepth 100000 in
set_option maxHeartbeats 1000000 in
theorem adds_nil (c : Nat) (k : ByteArray) (w : World) (hk : k.size ≤ 9223372036854775807) :
    Calls Try.prog 3 #[.slice none 0 c, .string k] w fun e w' => e = .returned (.bool true) ∧ Below w.heap.size w w' := by
  go_enter Try.func3, Try.ntmps3
  go_wp2_with fail
  refine (bytes6 none 0 0 c [] k _ (by intro j x hx; cases hx) (by intro h; cases h) (by simp) (by intro j x hx; cases hx) hk).mono ?_
  rintro e w' ⟨rfl, rfl⟩
  by_cases hT : k.size ≤ 1048576
  · rw [decide_eq_true (by simp [tot]; omega)]
    go_wp2_with fail
    refine (add7 none 0 0 c [] _ _ (by intro j x hx; cases hx) (by intro h; cases h) (by simp) (by omega) (by omega)).mono ?_
    rintro e w' ⟨⟨v, rfl⟩, rfl⟩
    by_cases hv : 1048576 < v
    · go_wp2_with fail
      go_ret
      exact ⟨rfl, Below.refl _ _⟩
    · go_wp2_with fail
      go_ret
      exact ⟨rfl, Below.refl _ _⟩
  · rw [decide_eq_false (by simp [tot]; omega)]
    go_wp2_with fail
    go_ret
    exact ⟨rfl, Below.refl _ _⟩

set_option maxRecDepth 100000 in
set_option maxHeartbeats 1000000 in
theorem adds_some (a : Addr) (bk o c n : Nat) (L : List ByteArray) (k : ByteArray) (w : World) (hn : Hid (n = L.length)) (ha : Hid (0 < n → a = ⟨bk, o, none⟩)) (hs : Strs w bk o L) (hnm : n ≤ 9223372036854775807) (hmax : ∀ (j : Nat) (x : ByteArray), L[j]? = some x → x.size ≤ 9223372036854775807) (hk : k.size ≤ 9223372036854775807) :
    Calls Try.prog 3 #[.slice (some a) n c, .string k] w fun e w' => e = .returned (.bool true) ∧ Below w.heap.size w w' := by
  have H6 : Hid (∀ W, Strs W bk o L → Calls Try.prog 6 #[.slice (some a) n c, .string k] W fun e w' => e = .returned (.bool (decide (n + tot L + k.size ≤ 1048576))) ∧ w' = W) := by
    intro W hW
    have := bytes6 (some a) bk o c L k W hW (fun h => congrArg some (ha.out (by rw [hn.out]; exact h))) (by rw [← hn.out]; exact hnm) hmax hk
    rw [← hn.out] at this
    exact this
  have H7 : Hid (∀ W b, Strs W bk o L → n ≤ 65536 → 0 ≤ b → b ≤ 1048576 → Calls Try.prog 7 #[.int .i64 b, .slice (some a) n c] W fun e w' => (∃ v : Int, e = .returned (.int .i64 v)) ∧ w' = W) := by
    intro W b hW h1 h2 h3
    have := add7 (some a) bk o c L b W hW (fun h => congrArg some (ha.out (by rw [hn.out]; exact h))) (by rw [← hn.out]; exact h1) h2 h3
    rw [← hn.out] at this
    exact this
  clear hmax
  go_enter Try.func3, Try.ntmps3
  go_wp2_with fail
  refine (H6.out _ hs).mono ?_
  rintro e w' ⟨rfl, rfl⟩
  by_cases hT : n + tot L + k.size ≤ 1048576
  case neg =>
    rw [decide_eq_false hT]
    go_wp2_with fail
    go_ret
    exact ⟨rfl, Below.refl _ _⟩
  rw [decide_eq_true hT]
  by_cases h16 : 65536 < n
  · go_wp2_with fail
    go_ret
    exact ⟨rfl, Below.refl _ _⟩
  go_wp2_with fail
  refine (H7.out _ _ hs (by omega) (by omega) (by omega)).mono ?_
  rintro e w' ⟨⟨v, rfl⟩, rfl⟩
  by_cases hv : 1048576 < v
  · go_wp2_with fail
    go_ret
    exact ⟨rfl, Below.refl _ _⟩
  have hmk := make_run n w' (by omega)
  obtain ⟨W2, hcp, hs2, hb2, hz2⟩ := copy_run' w' a bk o c n L hn.out ha.out hs
  have hmk1 := make_run1 n W2 (by omega)
  by_cases hn2 : n < 2
  · go_wp2_with fail
    go_ret
    exact ⟨rfl, hb2⟩
  obtain ⟨xs, y, rfl⟩ : ∃ xs y, L = xs ++ [y] := by
    have hne : L ≠ [] := by intro e; have := hn.out; rw [e] at this; simp at this; omega
    exact ⟨L.dropLast, L.getLast hne, (List.dropLast_concat_getLast hne).symm⟩
  have HN : Hid (n = xs.length + 1) := by have := hn.out; simp at this; exact this
  go_wp2_with fail
  have hs3 : Strs (W2.alloc (.cells (madeCells #[.string ⟨#[]⟩] (n + 1)) 9)) w'.heap.size 0 (xs ++ [y]) := hs2.later ((Below.refl _ W2).alloc (Nat.le_refl _) _) (by omega)
  have hr3 : Room (W2.alloc (.cells (madeCells #[.string ⟨#[]⟩] (n + 1)) 9)) (w'.heap.size + 1) (n + 1) := by
    have := room_made W2 (n + 1)
    rw [hz2] at this
    exact this
  have hb3 : Below w'.heap.size w' (W2.alloc (.cells (madeCells #[.string ⟨#[]⟩] (n + 1)) 9)) := hb2.alloc hb2.size _
  have HZ : Hid ((W2.alloc (.cells (madeCells #[.string ⟨#[]⟩] (n + 1)) 9)).heap.size = w'.heap.size + 2) := by
    show _ = _
    simp [hz2]
  clear hmk hcp hs2 hb2 hz2 hmk1 hs H6 H7
  generalize W2.alloc (.cells (madeCells #[.string ⟨#[]⟩] (n + 1)) 9) = W3 at *
  go_loopw [8] (fun i wr => ∃ m : Nat, m ≤ n ∧ i = .int .i64 m ∧ Strs wr w'.heap.size 0 (xs ++ [y]) ∧ Strs wr (w'.heap.size + 1) 0 ((xs ++ [y]).take m) ∧ Room wr (w'.heap.size + 1) (n + 1) ∧ Below w'.heap.size w' wr ∧ Hid (wr.heap.size = w'.heap.size + 2)) (fun i _ => n - (intOf i).toNat)
  case atStart => exact ⟨0, Nat.zero_le _, rfl, hs3, by intro j x hx; simp at hx, hr3, hb3, HZ⟩
  case round =>
    clear hs3 hr3 hb3 HZ
    obtain ⟨m, hm, rfl, hs3, hs4, hr3, hb3, HZ⟩ := hrel
    by_cases hlt : m < n
    · obtain ⟨x, hx⟩ := at_lt (xs ++ [y]) m (by rw [← hn.out]; exact hlt)
      have hcx := hs3 m x hx
      rw [Nat.zero_add] at hcx
      obtain ⟨⟨u, hcu⟩, hfu⟩ := hr3 m (by omega)
      have hend : Strs (wr.setCell ⟨w'.heap.size + 1, m, none⟩ (.string x)) w'.heap.size 0 (xs ++ [y]) ∧ Strs (wr.setCell ⟨w'.heap.size + 1, m, none⟩ (.string x)) (w'.heap.size + 1) 0 ((xs ++ [y]).take (m + 1)) ∧ Room (wr.setCell ⟨w'.heap.size + 1, m, none⟩ (.string x)) (w'.heap.size + 1) (n + 1) ∧ Below w'.heap.size w' (wr.setCell ⟨w'.heap.size + 1, m, none⟩ (.string x)) ∧ Hid ((wr.setCell ⟨w'.heap.size + 1, m, none⟩ (.string x)).heap.size = w'.heap.size + 2) :=
        ⟨hs3.apart (by omega), hs4.store hr3 (by omega) hx, hr3.store, hb3.setCell (Nat.le_succ _) _, (World.size_setCell _ _ _).trans HZ.out⟩
      have Hend := hid hend
      clear hend hx hs3 hs4 hr3
      go_wp2_with fail
      go_roundw
      case rel => exact ⟨m + 1, by omega, by go_num, Hend.out⟩
      case measure => simp [intOf]; omega
    · have hmn : m = n := by omega
      subst hmn
      obtain ⟨⟨u, hcu⟩, hfu⟩ := hr3 m (by omega)
      have ht4 : (xs ++ [y]).take m = xs ++ [y] := List.take_of_length_le (by rw [← hn.out]; exact Nat.le_refl _)
      rw [ht4] at hs4
      have hk4 : ((xs ++ [y]) ++ [k])[m]? = some k := by
        rw [hn.out]; simp
      have hs5 : Strs (wr.setCell ⟨w'.heap.size + 1, m, none⟩ (.string k)) (w'.heap.size + 1) 0 ((xs ++ [y]) ++ [k]) := by
        have h1 : Strs wr (w'.heap.size + 1) 0 (((xs ++ [y]) ++ [k]).take m) := by
          rw [List.take_append_of_le_length (by rw [← hn.out]; exact Nat.le_refl _), ht4]; exact hs4
        have h2 := h1.store hr3 (by omega) hk4
        rw [List.take_of_length_le (by rw [List.length_append, ← hn.out]; exact Nat.le_refl _)] at h2
        exact h2
      have hs6 : Strs (wr.setCell ⟨w'.heap.size + 1, m, none⟩ (.string k)) w'.heap.size 0 (xs ++ [y]) := hs3.apart (by omega)
      have hb6 : Below w'.heap.size w' (wr.setCell ⟨w'.heap.size + 1, m, none⟩ (.string k)) := hb3.setCell (Nat.le_succ _) _
      have HZ6 : Hid ((wr.setCell ⟨w'.heap.size + 1, m, none⟩ (.string k)).heap.size = w'.heap.size + 2) := (World.size_setCell _ _ _).trans HZ.out
      clear hs3 hs4 hr3 hb3 HZ ht4 hk4
      go_wp2_with fail
      generalize wr.setCell ⟨w'.heap.size + 1, m, none⟩ (.string k) = W6 at *
      refine (one8n w'.heap.size 0 m m xs y W6 HN.out hs6 (by rw [HZ6.out]; omega) (Nat.le_refl _) (by omega) (by omega)).mono ?_
      rintro e w7 ⟨rfl, hb7⟩
      have hs7 := hs6.later hb7 (by rw [HZ6.out]; omega)
      have hs7' := hs5.later hb7 (by rw [HZ6.out]; omega)
      have hz7 : w'.heap.size + 2 ≤ w7.heap.size := by have := hb7.size; rw [HZ6.out] at this; exact this
      have htk : tot ((xs ++ [y]) ++ [k]) ≤ 1048576 := by rw [tot_append, tot_one]; omega
      have hty : y.size ≤ 1048576 := by
        have := hT
        rw [tot_append, tot_one] at this
        omega
      go_wp2_with fail
      refine (one8n (w'.heap.size + 1) 0 (m + 1) (m + 1) (xs ++ [y]) k w7 (congrArg (· + 1) hn.out) hs7' (by omega) (Nat.le_refl _) htk (by omega)).mono ?_
      rintro e w8 ⟨rfl, hb8⟩
      have hs8 := hs7.later hb8 (by omega)
      have hy8 : w8.cell? ⟨w'.heap.size, m - 1, none⟩ = some (.string y) := by
        have := hs8.last
        rw [Nat.zero_add, show xs.length = m - 1 from by have := HN.out; omega] at this
        exact this
      have hor : (⟨#[32, 111, 114, 32]⟩ : ByteArray) ++ y = orB y := rfl
      have hbe : Below w'.heap.size w' w8 := (hb6.trans (hb7.mono (by rw [HZ6.out]; omega))).trans (hb8.mono (by omega))
      have hxl : 1 ≤ xs.length := by have := HN.out; omega
      have HL : Hid ((oneB xs y).size = tot (xs ++ [y]) + 2 * m) := by
        have h1 := oneB_len xs y hxl
        have h2 := HN.out
        have h3 : tot (xs ++ [y]) = tot xs + y.size := by rw [tot_append, tot_one]
        show _ = _
        omega
      have hsz : (oneB xs y).size ≤ 4194304 := by have := HL.out; omega
      have hosz := orB_size y
      have hole : (orB y).size ≤ (oneB xs y).size := by rw [oneB_size, orB_size]; omega
      have hjle : (jn xs).size ≤ 4194304 := by have := oneB_size xs y; omega
      have hhead := oneB_head xs y
      have htail := oneB_tail xs y
      have hadds := adds xs y k hxl
      have e10 : (((oneB xs y).size : Int) == ((tot (xs ++ [y]) : Nat) : Int) + 2 * (m : Int)) = true := by rw [HL.out]; simp
      have htot : tot (xs ++ [y]) ≤ 1048576 := by omega
      clear hs7 hs7' hs6 hs5 hcu hfu hb7 hb8 hosz hb6
      go_wp2_with fail
      refine (ends9 (oneB xs y) (orB y) w8 (by omega) hole htail).mono ?_
      rintro e w9 ⟨rfl, rfl⟩
      clear htail
      go_wp2_with fail
      refine (keys10n w'.heap.size 0 m m (xs ++ [y]) w9 hn.out hs8 htot (by omega)).mono ?_
      rintro e w10 ⟨rfl, rfl⟩
      go_wp2_with fail
      go_ret
      exact ⟨rfl, hbe⟩

end Go.Proofs.Qxb6612587a
