/-
  listed (18), oneOf (15), ZZoneOf (8).
-/
import Derived.Test.Qxb6612587aStrs
import Derived.Test.Qxb6612587aShelf
import Derived.Deep.RegionWith
namespace Go.Proofs.Qxb6612587a
open Go.RowKit

/-- strings.Join(xs, ", "). -/
def jn (xs : List ByteArray) : ByteArray := ⟨(Lib.join (xs.map (·.data.toList)) [44, 32]).toArray⟩

theorem join_len : ∀ (x : List UInt8) (xs : List (List UInt8)), (Lib.join (x :: xs) [44, 32]).length = ((x :: xs).map List.length).sum + 2 * xs.length := by
  intro x xs
  rw [Lib.join_cons]
  have h : ∀ r : List (List UInt8), (Lib.joinTail [44, 32] r).length = (r.map List.length).sum + 2 * r.length := by
    intro r
    induction r with
    | nil => rfl
    | cons a r ih =>
      simp only [Lib.joinTail, List.map_cons, List.flatten_cons, List.length_append, List.sum_cons, List.length_cons] at ih ⊢
      simp only [List.length_nil]
      omega
  rw [List.length_append, h]
  simp only [List.map_cons, List.sum_cons]
  omega

theorem tot_lens (xs : List ByteArray) : ((xs.map (·.data.toList)).map List.length).sum = tot xs := by
  simp only [tot, List.map_map]
  rfl

theorem jn_size (xs : List ByteArray) (h : 1 ≤ xs.length) : (jn xs).size + 2 = tot xs + 2 * xs.length := by
  match xs, h with
  | x :: xs, _ =>
    have e : (jn (x :: xs)).size = (Lib.join ((x :: xs).map (·.data.toList)) [44, 32]).length := rfl
    have h := join_len x.data.toList (xs.map (·.data.toList))
    have t := tot_lens (x :: xs)
    simp only [List.map_cons] at e h t
    rw [e, h, t]
    simp only [List.length_map, List.length_cons]
    omega
theorem jn_le (xs : List ByteArray) : (jn xs).size ≤ tot xs + 2 * xs.length := by
  match xs with
  | [] => exact Nat.zero_le _
  | x :: xs => have := jn_size (x :: xs) (by simp); omega

theorem join24 (bk o c : Nat) (xs : List ByteArray) (w : World) (hs : Strs w bk o xs) (hbk : bk < w.heap.size) (hc : xs.length ≤ c) (ht : tot xs ≤ 1048576) (hn : xs.length ≤ 1048576) :
    Calls Try.prog 24 #[.slice (some ⟨bk, o, none⟩) xs.length c, .string ⟨#[44, 32]⟩] w fun e w' => e = .returned (.string (jn xs)) ∧ Below w.heap.size w w' := by
  refine Try.strings_Join bk o c xs ⟨#[44, 32]⟩ w hs hbk (by omega) hc ?_
  have := jn_le xs
  show (jn xs).size ≤ _
  omega

theorem join24N (bk o c N : Nat) (xs : List ByteArray) (w : World) (hN : N = xs.length) (hs : Strs w bk o xs) (hbk : bk < w.heap.size) (hc : N ≤ c) (ht : tot xs ≤ 1048576) (hn : N ≤ 1048576) :
    Calls Try.prog 24 #[.slice (some ⟨bk, o, none⟩) N c, .string ⟨#[44, 32]⟩] w fun e w' => e = .returned (.string (jn xs)) ∧ Below w.heap.size w w' := by
  subst hN
  exact join24 bk o c xs w hs hbk hc ht hn

set_option maxHeartbeats 1000000 in
theorem listed18 (bk o c N : Nat) (xs : List ByteArray) (y j : ByteArray) (w : World) (hN : Hid (N = xs.length)) (hs : Strs w bk o xs) (hy : w.cell? ⟨bk, o + N, none⟩ = some (.string y)) (hbk : bk < w.heap.size) (hc : N + 1 ≤ c) (ht : tot xs ≤ 1048576) (hn : N ≤ 1048576) (hys : y.size ≤ 1048576) (hj : j.size ≤ 2) :
    Calls Try.prog 18 #[.slice (some ⟨bk, o, none⟩) (N + 1) c, .string j] w fun e w' => e = .returned (.string (jn xs ++ ⟨#[32]⟩ ++ j ++ ⟨#[32]⟩ ++ y)) ∧ Below w.heap.size w w' := by
  have hjn : (jn xs).size ≤ 4194304 := by have := jn_le xs; have := hN.out; omega
  have hw1 : IntKind.i64.wrap (N : Int) = (N : Int) := IntWalk.i64_in _ (by omega)
  have hw2 : IntKind.i64.wrap ((N : Int) + 1 - 1) = (N : Int) := by rw [IntWalk.i64_in _ (by omega)]; omega
  go_enter Try.func18, Try.ntmps18
  go_wp2_with fail
  go_region_with (go_at_call 24; refine (join24N bk o c N xs _ hN.out ?_ ?_ (by omega) ht hn).mono ?_; exact hs; exact hbk; rintro e w1 ⟨rfl, hb1⟩; have hy1 : w1.cell? ⟨bk, o + N, none⟩ = some (.string y) := (hb1.cell (p := ⟨bk, o + N, none⟩) hbk).trans hy)
  all_goals
    go_wp2
    go_ret
    exact ⟨rfl, ((Below.refl _ w).drew).trans hb1⟩

/-- oneOf(xs and y). -/
def oneB (xs : List ByteArray) (y : ByteArray) : ByteArray := jn xs ++ ⟨#[32]⟩ ++ ⟨#[111, 114]⟩ ++ ⟨#[32]⟩ ++ y

set_option maxHeartbeats 400000 in
theorem one15 (bk o c N : Nat) (xs : List ByteArray) (y : ByteArray) (w : World) (hN : Hid (N = xs.length)) (hs : Strs w bk o xs) (hy : w.cell? ⟨bk, o + N, none⟩ = some (.string y)) (hbk : bk < w.heap.size) (hc : N + 1 ≤ c) (ht : tot xs ≤ 1048576) (hn : N ≤ 1048576) (hys : y.size ≤ 1048576) :
    Calls Try.prog 15 #[.slice (some ⟨bk, o, none⟩) (N + 1) c] w fun e w' => e = .returned (.string (oneB xs y)) ∧ Below w.heap.size w w' := by
  go_enter Try.func15, Try.ntmps15
  go_wp2_with fail
  refine (listed18 bk o c N xs y ⟨#[111, 114]⟩ _ hN hs hy hbk hc ht hn hys (Nat.le_refl _)).mono ?_
  rintro e w1 ⟨rfl, hb1⟩
  go_wp2_with fail
  go_ret
  exact ⟨rfl, hb1⟩

set_option maxHeartbeats 400000 in
theorem one8 (bk o c N : Nat) (xs : List ByteArray) (y : ByteArray) (w : World) (hN : Hid (N = xs.length)) (hs : Strs w bk o xs) (hy : w.cell? ⟨bk, o + N, none⟩ = some (.string y)) (hbk : bk < w.heap.size) (hc : N + 1 ≤ c) (ht : tot xs ≤ 1048576) (hn : N ≤ 1048576) (hys : y.size ≤ 1048576) :
    Calls Try.prog 8 #[.slice (some ⟨bk, o, none⟩) (N + 1) c] w fun e w' => e = .returned (.string (oneB xs y)) ∧ Below w.heap.size w w' := by
  go_enter Try.func8, Try.ntmps8
  go_wp2_with fail
  refine (one15 bk o c N xs y _ hN hs hy hbk hc ht hn hys).mono ?_
  rintro e w1 ⟨rfl, hb1⟩
  go_wp2_with fail
  go_ret
  exact ⟨rfl, hb1⟩

end Go.Proofs.Qxb6612587a
