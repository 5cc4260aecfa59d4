/-
  FnDisjunctionKindsOfJoinedMembers (function 4) where a slice is nil.
-/
import Derived.Test.Qxb6609229aLaw
namespace Go.Proofs.Qxb6609229a
open Go.RowKit

theorem no_ints (w : World) : Ints w 0 0 [] := fun j x hx => by cases hx

set_option maxRecDepth 100000 in
set_option maxHeartbeats 2000000 in
theorem law_nn (w : World) :
    Calls Try.prog 4 #[.slice none 0 0, .slice none 0 0] w fun e w' => e = .returned (.bool true) ∧ Below w.heap.size w w' := by
  go_enter Try.func4, Try.ntmps4
  go_wp2_with fail
  refine (bytes9 none none 0 0 0 0 w (by omega) (by omega)).mono ?_
  rintro e w' ⟨rfl | rfl, rfl⟩
  case inr =>
    go_wp2_with fail
    go_ret
    exact ⟨rfl, Below.refl _ _⟩
  go_wp2_with fail
  refine (cost10 none 0 0 0 0 [] _ rfl (no_ints _) (fun h => by omega) (by omega)).mono ?_
  rintro e w5 ⟨⟨va, rfl, hva1, _⟩, rfl⟩
  go_wp2_with fail
  refine (cost10 none 0 0 0 0 [] _ rfl (no_ints _) (fun h => by omega) (by omega)).mono ?_
  rintro e w5 ⟨⟨vb, rfl, hvb1, _⟩, rfl⟩
  by_cases hv1 : va < 0
  · go_wp2_with fail
    go_ret
    exact ⟨rfl, Below.refl _ _⟩
  by_cases hv2 : vb < 0
  · go_wp2_with fail
    go_ret
    exact ⟨rfl, Below.refl _ _⟩
  by_cases hv3 : 65536 < va + vb
  · go_wp2_with fail
    go_ret
    exact ⟨rfl, Below.refl _ _⟩
  go_wp2_with fail
  go_ret
  exact ⟨rfl, Below.refl _ _⟩

set_option maxRecDepth 100000 in
set_option maxHeartbeats 2000000 in
theorem law_ns (pb : Addr) (nb cb bkb ob : Nat) (B : List Int) (w : World) (hB : Came w (some pb) nb B bkb ob) :
    Calls Try.prog 4 #[.slice none 0 0, .slice (some pb) nb cb] w fun e w' => e = .returned (.bool true) ∧ Below w.heap.size w w' := by
  have hb0 := hB.le
  go_enter Try.func4, Try.ntmps4
  go_wp2_with fail
  refine (bytes9 none (some pb) 0 nb 0 cb w (by omega) hb0).mono ?_
  rintro e w' ⟨rfl | rfl, rfl⟩
  case inr =>
    go_wp2_with fail
    go_ret
    exact ⟨rfl, Below.refl _ _⟩
  by_cases h2 : 4096 < nb
  · go_wp2_with fail
    go_ret
    exact ⟨rfl, Below.refl _ _⟩
  have hmk2 := make_ints nb w' (by omega)
  obtain ⟨W4, hcp2, hi4, hb4, hz4⟩ := copy_run' w' pb bkb ob cb nb B hB.len (fun h => by have := (hB.at0 h).1; cases this; rfl) hB.ints
  have HnB : Hid (nb = B.length) := hB.len
  go_wp2_with fail
  clear hcp2 hmk2 hB
  refine (cost10 none 0 0 0 0 [] _ rfl (no_ints _) (fun h => by omega) (by omega)).mono ?_
  rintro e w5 ⟨⟨va, rfl, hva1, _⟩, rfl⟩
  go_wp2_with fail
  refine (cost10 (some ⟨w'.heap.size, 0, none⟩) w'.heap.size 0 nb nb B _ HnB hi4 (fun _ => rfl) (by omega)).mono ?_
  rintro e w5 ⟨⟨vb, rfl, hvb1, _⟩, rfl⟩
  by_cases hv1 : va < 0
  · go_wp2_with fail
    go_ret
    exact ⟨rfl, hb4⟩
  by_cases hv2 : vb < 0
  · go_wp2_with fail
    go_ret
    exact ⟨rfl, hb4⟩
  by_cases hv3 : 65536 < va + vb
  · go_wp2_with fail
    go_ret
    exact ⟨rfl, hb4⟩
  go_wp2_with fail
  go_ret
  exact ⟨rfl, hb4⟩

set_option maxRecDepth 100000 in
set_option maxHeartbeats 2000000 in
theorem law_sn (pa : Addr) (na ca bka oa : Nat) (A : List Int) (w : World) (hA : Came w (some pa) na A bka oa) :
    Calls Try.prog 4 #[.slice (some pa) na ca, .slice none 0 0] w fun e w' => e = .returned (.bool true) ∧ Below w.heap.size w w' := by
  have ha0 := hA.le
  go_enter Try.func4, Try.ntmps4
  go_wp2_with fail
  refine (bytes9 (some pa) none na 0 ca 0 w ha0 (by omega)).mono ?_
  rintro e w' ⟨rfl | rfl, rfl⟩
  case inr =>
    go_wp2_with fail
    go_ret
    exact ⟨rfl, Below.refl _ _⟩
  by_cases h2 : 4096 < na
  · go_wp2_with fail
    go_ret
    exact ⟨rfl, Below.refl _ _⟩
  have hmk2 := make_ints na w' (by omega)
  obtain ⟨W4, hcp2, hi4, hb4, hz4⟩ := copy_run' w' pa bka oa ca na A hA.len (fun h => by have := (hA.at0 h).1; cases this; rfl) hA.ints
  have HnA : Hid (na = A.length) := hA.len
  go_wp2_with fail
  clear hcp2 hmk2 hA
  refine (cost10 (some ⟨w'.heap.size, 0, none⟩) w'.heap.size 0 na na A _ HnA hi4 (fun _ => rfl) (by omega)).mono ?_
  rintro e w5 ⟨⟨va, rfl, hva1, _⟩, rfl⟩
  go_wp2_with fail
  refine (cost10 none 0 0 0 0 [] _ rfl (no_ints _) (fun h => by omega) (by omega)).mono ?_
  rintro e w5 ⟨⟨vb, rfl, hvb1, _⟩, rfl⟩
  by_cases hv1 : va < 0
  · go_wp2_with fail
    go_ret
    exact ⟨rfl, hb4⟩
  by_cases hv2 : vb < 0
  · go_wp2_with fail
    go_ret
    exact ⟨rfl, hb4⟩
  by_cases hv3 : 65536 < va + vb
  · go_wp2_with fail
    go_ret
    exact ⟨rfl, hb4⟩
  by_cases hz : na = 0
  · have hz1 : ((na : Int) == 0) = true := by simp [hz]
    clear hz
    go_wp2_with fail
    go_ret
    exact ⟨rfl, hb4⟩
  · have hz1 : ((na : Int) == 0) = false := by simp [hz]
    go_wp2_with fail
    go_ret
    exact ⟨rfl, hb4⟩

/-- The walk, at every two slices that came in. -/
theorem law_any (p q : Option Addr) (n m c d bka oa bkb ob : Nat) (A B : List Int) (w : World) (hA : Came w p n A bka oa) (hB : Came w q m B bkb ob) (hc : p = none → c = 0) (hd : q = none → d = 0) :
    Calls Try.prog 4 #[.slice p n c, .slice q m d] w fun e w' => e = .returned (.bool true) ∧ Below w.heap.size w w' := by
  cases p with
  | none =>
    have h1 := hA.nil rfl
    have h2 := hc rfl
    subst h1; subst h2
    cases q with
    | none =>
      have h3 := hB.nil rfl
      have h4 := hd rfl
      subst h3; subst h4
      exact law_nn w
    | some pb => exact law_ns pb m d bkb ob B w hB
  | some pa =>
    cases q with
    | none =>
      have h3 := hB.nil rfl
      have h4 := hd rfl
      subst h3; subst h4
      exact law_sn pa n c bka oa A w hA
    | some pb => exact law_both pa pb n m c d bka oa bkb ob A B w hA hB

end Go.Proofs.Qxb6609229a
