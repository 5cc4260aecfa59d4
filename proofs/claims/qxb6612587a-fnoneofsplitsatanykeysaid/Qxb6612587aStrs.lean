/-
  STRINGS IN A ROW OF MEMORY; b1KeyBytes (10), b1AddBytes (7), the two zzBytes (6, 11), b1EndsWith (9).
-/
import Derived.Test.Qxb6612587aRows
import Derived.WalkKit
import Derived.WalkSpells
import Derived.WalkLawsBesides
namespace Go.Proofs.Qxb6612587a
open Go.RowKit

/-- The cells from ⟨bk, o⟩ on hold the strings xs. -/
def Strs (w : World) (bk o : Nat) (xs : List ByteArray) : Prop := ∀ (j : Nat) (x : ByteArray), xs[j]? = some x → w.cell? ⟨bk, o + j, none⟩ = some (.string x)
/-- The strings' bytes, added up. -/
def tot (xs : List ByteArray) : Nat := (xs.map (·.size)).sum

theorem tot_nil : tot [] = 0 := rfl
theorem tot_append (a b : List ByteArray) : tot (a ++ b) = tot a + tot b := by simp [tot]
theorem tot_one (x : ByteArray) : tot [x] = x.size := by simp [tot]
theorem tot_take_succ (xs : List ByteArray) (k : Nat) (x : ByteArray) (h : xs[k]? = some x) : tot (xs.take (k + 1)) = tot (xs.take k) + x.size := by
  have hk : k < xs.length := (List.getElem?_eq_some_iff.1 h).1
  rw [List.take_add_one, h, Option.toList_some, tot_append, tot_one]
theorem tot_take_le (xs : List ByteArray) (k : Nat) : tot (xs.take k) ≤ tot xs := by
  have e : tot xs = tot (xs.take k) + tot (xs.drop k) := by rw [← tot_append, List.take_append_drop]
  omega
theorem at_lt (xs : List ByteArray) (k : Nat) (h : k < xs.length) : ∃ x, xs[k]? = some x := ⟨xs[k], List.getElem?_eq_getElem h⟩

theorem ret_int' {k : IntKind} {a b : Int} (h : a = b) : Ending.returned (.int k a) = .returned (.int k b) := by rw [h]
theorem ret_bool' {a b : Bool} (h : a = b) : Ending.returned (.bool a) = .returned (.bool b) := by rw [h]

set_option maxHeartbeats 400000 in
theorem keys10 (p : Option Addr) (bk o c : Nat) (xs : List ByteArray) (w : World) (hs : Strs w bk o xs) (hp : 0 < xs.length → p = some ⟨bk, o, none⟩) (ht : tot xs ≤ 1048576) (hn : xs.length ≤ 1048576) :
    Calls Try.prog 10 #[.slice p xs.length c] w fun e w' => e = .returned (.int .i64 (tot xs : Nat)) ∧ w' = w := by
  go_enter Try.func10, Try.ntmps10
  go_wp2
  go_loop [3, 4] (fun t i => ∃ k : Nat, k ≤ xs.length ∧ i = .int .i64 k ∧ t = .int .i64 (tot (xs.take k) : Nat)) (fun _ i => xs.length - (intOf i).toNat)
  case atStart => exact ⟨0, Nat.zero_le _, rfl, rfl⟩
  case round =>
    obtain ⟨k, hk, rfl, rfl⟩ := hrel
    by_cases hlt : k < xs.length
    · obtain ⟨x, hx⟩ := at_lt xs k hlt
      have hcx := hs k x hx
      have h1 := tot_take_succ xs k x hx
      have h2 := tot_take_le xs (k + 1)
      have HS : Hid (tot (xs.take (k + 1)) = tot (xs.take k) + x.size) := h1
      have hb : tot (xs.take k) + x.size ≤ 1048576 := by omega
      obtain rfl := hp (by omega)
      clear h1 h2 hx hp
      generalize tot (xs.take k) = t at *
      go_wp2
      go_round
      case rel => exact ⟨k + 1, by omega, by go_num, by rw [HS.out]; go_num⟩
      case measure => simp [intOf]; omega
    · go_wp2
      go_ret
      exact ⟨ret_int' (by rw [List.take_of_length_le (by omega)]), rfl⟩

set_option maxHeartbeats 400000 in
/-- zzBytes_FnOneOfAddsAKey. -/
theorem bytes6 (p : Option Addr) (bk o c : Nat) (xs : List ByteArray) (s : ByteArray) (w : World) (hs : Strs w bk o xs) (hp : 0 < xs.length → p = some ⟨bk, o, none⟩) (hn : xs.length ≤ 9223372036854775807) (hmax : ∀ (j : Nat) (x : ByteArray), xs[j]? = some x → x.size ≤ 9223372036854775807) (hsm : s.size ≤ 9223372036854775807) :
    Calls Try.prog 6 #[.slice p xs.length c, .string s] w fun e w' => e = .returned (.bool (decide (xs.length + tot xs + s.size ≤ 1048576))) ∧ w' = w := by
  by_cases hn1 : 1048576 < xs.length
  · go_enter Try.func6, Try.ntmps6
    go_wp2
    go_ret
    exact ⟨ret_bool' (by symm; apply decide_eq_false; omega), rfl⟩
  go_enter Try.func6, Try.ntmps6
  go_wp2
  go_loop [5, 6] (fun t i => ∃ k : Nat, k ≤ xs.length ∧ i = .int .i64 k ∧ t = .int .i64 (xs.length + tot (xs.take k) : Nat) ∧ xs.length + tot (xs.take k) ≤ 1048576) (fun _ i => xs.length - (intOf i).toNat)
  case atStart => exact ⟨0, Nat.zero_le _, rfl, by rw [List.take_zero, tot_nil]; rfl, by rw [List.take_zero, tot_nil]; omega⟩
  case round =>
    obtain ⟨k, hk, rfl, rfl, hle⟩ := hrel
    by_cases hlt : k < xs.length
    · obtain ⟨x, hx⟩ := at_lt xs k hlt
      have hcx := hs k x hx
      have HS : Hid (tot (xs.take (k + 1)) = tot (xs.take k) + x.size) := tot_take_succ xs k x hx
      have h2 := tot_take_le xs (k + 1)
      have hb : tot (xs.take k) + x.size ≤ tot xs := by rw [HS.out] at h2; exact h2
      obtain rfl := hp (by omega)
      have hxm : x.size ≤ 9223372036854775807 := hmax k x hx
      clear h2 hx hp hs hmax
      generalize tot (xs.take k) = t at *
      by_cases hbig : 1048576 < x.size
      · go_wp2
        go_ret
        exact ⟨ret_bool' (by symm; apply decide_eq_false; omega), rfl⟩
      by_cases hsum : 1048576 < xs.length + t + x.size
      · go_wp2
        go_ret
        exact ⟨ret_bool' (by symm; apply decide_eq_false; omega), rfl⟩
      · go_wp2
        go_round
        case rel => exact ⟨k + 1, by omega, by go_num, by rw [HS.out]; go_num, by rw [HS.out]; omega⟩
        case measure => simp [intOf]; omega
    · have HE : Hid (xs.take k = xs) := (List.take_of_length_le (by omega))
      rw [HE.out] at hle
      by_cases hsb : 1048576 < s.size
      · go_wp2
        go_ret
        exact ⟨ret_bool' (by symm; apply decide_eq_false; omega), rfl⟩
      by_cases hsum : 1048576 < xs.length + tot xs + s.size
      · rw [HE.out]
        go_wp2
        go_ret
        exact ⟨ret_bool' (by symm; apply decide_eq_false; omega), rfl⟩
      · rw [HE.out]
        go_wp2
        go_ret
        exact ⟨ret_bool' (by symm; apply decide_eq_true; omega), rfl⟩

set_option maxHeartbeats 400000 in
/-- zzBytes_FnOneOfSplitsAtAnyKey. -/
theorem bytes11 (p : Option Addr) (bk o c : Nat) (xs : List ByteArray) (m : Int) (w : World) (hs : Strs w bk o xs) (hp : 0 < xs.length → p = some ⟨bk, o, none⟩) (hn : xs.length ≤ 9223372036854775807) (hmax : ∀ (j : Nat) (x : ByteArray), xs[j]? = some x → x.size ≤ 9223372036854775807) :
    Calls Try.prog 11 #[.slice p xs.length c, .int .i64 m] w fun e w' => e = .returned (.bool (decide (xs.length + tot xs ≤ 1048576))) ∧ w' = w := by
  by_cases hn1 : 1048576 < xs.length
  · go_enter Try.func11, Try.ntmps11
    go_wp2
    go_ret
    exact ⟨ret_bool' (by symm; apply decide_eq_false; omega), rfl⟩
  go_enter Try.func11, Try.ntmps11
  go_wp2
  go_loop [5, 6] (fun t i => ∃ k : Nat, k ≤ xs.length ∧ i = .int .i64 k ∧ t = .int .i64 (xs.length + tot (xs.take k) : Nat) ∧ xs.length + tot (xs.take k) ≤ 1048576) (fun _ i => xs.length - (intOf i).toNat)
  case atStart => exact ⟨0, Nat.zero_le _, rfl, by rw [List.take_zero, tot_nil]; rfl, by rw [List.take_zero, tot_nil]; omega⟩
  case round =>
    obtain ⟨k, hk, rfl, rfl, hle⟩ := hrel
    by_cases hlt : k < xs.length
    · obtain ⟨x, hx⟩ := at_lt xs k hlt
      have hcx := hs k x hx
      have HS : Hid (tot (xs.take (k + 1)) = tot (xs.take k) + x.size) := tot_take_succ xs k x hx
      have h2 := tot_take_le xs (k + 1)
      have hb : tot (xs.take k) + x.size ≤ tot xs := by rw [HS.out] at h2; exact h2
      obtain rfl := hp (by omega)
      have hxm : x.size ≤ 9223372036854775807 := hmax k x hx
      clear h2 hx hp hs hmax
      generalize tot (xs.take k) = t at *
      by_cases hbig : 1048576 < x.size
      · go_wp2
        go_ret
        exact ⟨ret_bool' (by symm; apply decide_eq_false; omega), rfl⟩
      by_cases hsum : 1048576 < xs.length + t + x.size
      · go_wp2
        go_ret
        exact ⟨ret_bool' (by symm; apply decide_eq_false; omega), rfl⟩
      · go_wp2
        go_round
        case rel => exact ⟨k + 1, by omega, by go_num, by rw [HS.out]; go_num, by rw [HS.out]; omega⟩
        case measure => simp [intOf]; omega
    · have HE : Hid (xs.take k = xs) := (List.take_of_length_le (by omega))
      rw [HE.out] at hle
      go_wp2
      go_ret
      exact ⟨rfl, rfl⟩

set_option maxHeartbeats 400000 in
/-- b1AddBytes: it comes back with some number. -/
theorem add7 (p : Option Addr) (bk o c : Nat) (xs : List ByteArray) (a : Int) (w : World) (hs : Strs w bk o xs) (hp : 0 < xs.length → p = some ⟨bk, o, none⟩) (hn : xs.length ≤ 65536) (ha0 : 0 ≤ a) (ha : a ≤ 1048576) :
    Calls Try.prog 7 #[.int .i64 a, .slice p xs.length c] w fun e w' => (∃ v : Int, e = .returned (.int .i64 v)) ∧ w' = w := by
  go_enter Try.func7, Try.ntmps7
  go_wp2
  go_loop [0, 5] (fun t i => ∃ (k : Nat) (u : Int), k ≤ xs.length ∧ i = .int .i64 k ∧ t = .int .i64 u ∧ 0 ≤ u ∧ u ≤ 2097152) (fun _ i => xs.length - (intOf i).toNat)
  case atStart => exact ⟨0, _, Nat.zero_le _, rfl, rfl, by omega, by omega⟩
  case round =>
    obtain ⟨k, u, hk, rfl, rfl, hu0, hu1⟩ := hrel
    by_cases hlt : k < xs.length
    · obtain ⟨x, hx⟩ := at_lt xs k hlt
      have hcx := hs k x hx
      obtain rfl := hp (by omega)
      clear hx hp hs
      by_cases h1 : 1048576 < u
      · go_wp2
        go_ret
        exact ⟨⟨_, rfl⟩, rfl⟩
      by_cases h2 : 1048576 - u < x.size
      · go_wp2
        go_ret
        exact ⟨⟨_, rfl⟩, rfl⟩
      · go_wp2
        go_round
        case rel => exact ⟨k + 1, _, by omega, by go_num, rfl, by omega, by omega⟩
        case measure => simp [intOf]; omega
    · go_wp2
      go_ret
      exact ⟨⟨_, rfl⟩, rfl⟩

set_option maxHeartbeats 400000 in
/-- b1EndsWith where it does. -/
theorem ends9 (s t : ByteArray) (w : World) (hm : s.size ≤ 9223372036854775807) (hts : t.size ≤ s.size) (he : s.extract (s.size - t.size) s.size = t) :
    Calls Try.prog 9 #[.string s, .string t] w fun e w' => e = .returned (.bool true) ∧ w' = w := by
  go_enter Try.func9, Try.ntmps9
  go_wp2
  go_ret
  exact ⟨rfl, rfl⟩

end Go.Proofs.Qxb6612587a
