/-
  (*Disjunction).Kinds (13).
-/
import Derived.Test.Qxb6609229aDisj
namespace Go.Proofs.Qxb6609229a
open Go.RowKit

/-- The kinds of the members that L names: 32 where one is a struct, 64 where one is a list. -/
def K (L : List Int) : Int := (if L.any (fun c => decide (c < 0)) then 32 else 0) + (if L.any (fun c => decide (0 ≤ c)) then 64 else 0)
def kd (c : Int) : Int := if c < 0 then 32 else 64

theorem or_cases (a b c d : Bool) : bits BinOp.or IntKind.u8 ((if a then 32 else 0) + (if b then 64 else 0)) ((if c then 32 else 0) + (if d then 64 else 0)) = (if a || c then 32 else 0) + (if b || d then 64 else 0) := by
  cases a <;> cases b <;> cases c <;> cases d <;> decide +kernel

theorem K_append (A B : List Int) : bits BinOp.or IntKind.u8 (K A) (K B) = K (A ++ B) := by
  unfold K
  rw [or_cases, List.any_append, List.any_append]
theorem K_one (c : Int) : K [c] = kd c := by
  unfold K kd
  by_cases h : c < 0
  · simp [h, show ¬ 0 ≤ c from by omega]
  · simp [h, show 0 ≤ c from by omega]
theorem K_snoc (A : List Int) (c : Int) : bits BinOp.or IntKind.u8 (K A) (kd c) = K (A ++ [c]) := by
  rw [← K_one, K_append]
theorem K_ne (L : List Int) (h : L ≠ []) : K L ≠ 0 := by
  match L, h with
  | c :: L, _ =>
    unfold K
    by_cases h : c < 0
    · simp [h]; split <;> omega
    · have : 0 ≤ c := by omega
      simp [h, this]; split <;> omega
theorem and_cases (a b : Bool) : bits BinOp.andNot IntKind.u8 ((if a then 32 else 0) + (if b then 64 else 0)) 96 = 0 := by
  cases a <;> cases b <;> decide +kernel
theorem K_in (L : List Int) : bits BinOp.andNot IntKind.u8 (K L) 96 = 0 := by
  unfold K
  exact and_cases _ _

theorem meth53 (a : Addr) (w : World) : (method 262 53 (.pointer (some a)) "Kinds").run Try.prog w = .ok (36, .pointer (some a)) w := by kernel_rfl
theorem meth66 (a : Addr) (w : World) : (method 262 66 (.pointer (some a)) "Kinds").run Try.prog w = .ok (41, .pointer (some a)) w := by kernel_rfl
attribute [local go_sem] meth53 meth66

theorem ret_u8 {a b : Int} (h : a = b) : Ending.returned (.int .u8 a) = .returned (.int .u8 b) := by rw [h]

set_option maxRecDepth 100000 in
set_option maxHeartbeats 1000000 in
theorem kinds13 (D g n cap : Nat) (L : List Int) (ms : List Value) (w : World) (hn : Hid (n = L.length)) (hm : n ≤ 8192) (hd : w.cell? ⟨D, 0, none⟩ = some (.slice (some ⟨g, 0, none⟩) n cap))
    (hc : Hid (∀ j u, ms[j]? = some u → w.cell? ⟨g, j, none⟩ = some u)) (hmem : Mems L ms) :
    Calls Try.prog 13 #[.pointer (some ⟨D, 0, none⟩)] w fun e w' => e = .returned (.int .u8 (K L)) ∧ w' = w := by
  go_enter Try.func13, Try.ntmps13
  go_wp2_with fail
  go_loop [3, 11] (fun k i => ∃ j : Nat, j ≤ n ∧ i = .int .i64 j ∧ k = .int .u8 (K (L.take j))) (fun _ i => n - (intOf i).toNat)
  case atStart => exact ⟨0, Nat.zero_le _, rfl, rfl⟩
  case round =>
    obtain ⟨j, hj, rfl, rfl⟩ := hrel
    by_cases hlt : j < n
    · obtain ⟨x, hx⟩ := at_lt L j (by rw [← hn.out]; exact hlt)
      obtain ⟨u, hu⟩ : ∃ u, ms[j]? = some u := ⟨_, List.getElem?_eq_getElem (by rw [hmem.1, ← hn.out]; exact hlt)⟩
      obtain ⟨q, hq⟩ := hmem.2 j x u hx hu
      have hcu := hc.out j u hu
      rw [hq] at hcu
      have HS : Hid (K (L.take (j + 1)) = bits BinOp.or IntKind.u8 (K (L.take j)) (kd x)) := by
        show _ = _
        rw [K_snoc, List.take_add_one, hx]
        rfl
      clear hu hq hx
      generalize K (L.take j) = kk at *
      by_cases hx0 : x < 0
      · rw [if_pos hx0] at hcu
        have hk : kd x = 32 := if_pos hx0
        rw [hk] at HS
        go_wp2_with (first | (go_at_call 36; refine (kinds36 (some q) w).mono ?_; rintro e w' ⟨rfl, rfl⟩))
        go_round
        case rel => exact ⟨j + 1, by omega, by go_num, by rw [HS.out]⟩
        case measure => simp [intOf]; omega
      · rw [if_neg hx0] at hcu
        have hk : kd x = 64 := if_neg hx0
        rw [hk] at HS
        go_wp2_with (first | (go_at_call 41; refine (kinds41 (some q) w).mono ?_; rintro e w' ⟨rfl, rfl⟩))
        go_round
        case rel => exact ⟨j + 1, by omega, by go_num, by rw [HS.out]⟩
        case measure => simp [intOf]; omega
    · go_wp2_with fail
      go_ret
      exact ⟨ret_u8 (by rw [List.take_of_length_le (by rw [← hn.out]; omega)]), rfl⟩

end Go.Proofs.Qxb6609229a
