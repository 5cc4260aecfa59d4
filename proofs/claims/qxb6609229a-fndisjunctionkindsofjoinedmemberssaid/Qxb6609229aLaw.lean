/-
  THE WALK OF FnDisjunctionKindsOfJoinedMembers (function 4).
-/
import Derived.Test.Qxb6609229aMem
namespace Go.Proofs.Qxb6609229a
open Go.RowKit

/-- What is known of a []int that came in: nil, or some address, with its ints. -/
structure Came (w : World) (p : Option Addr) (n : Nat) (L : List Int) (bk o : Nat) : Prop where
  len : n = L.length
  le : n ≤ 9223372036854775807
  nil : p = none → n = 0
  at0 : 0 < n → p = some ⟨bk, o, none⟩ ∧ bk < w.heap.size
  ints : Ints w bk o L

set_option maxRecDepth 100000 in
set_option maxHeartbeats 2000000 in
theorem law_both (pa pb : Addr) (na nb ca cb bka oa bkb ob : Nat) (A B : List Int) (w : World) (hA : Came w (some pa) na A bka oa) (hB : Came w (some pb) nb B bkb ob) :
    Calls Try.prog 4 #[.slice (some pa) na ca, .slice (some pb) nb cb] w fun e w' => e = .returned (.bool true) ∧ Below w.heap.size w w' := by
  have ha0 := hA.le
  have hb0 := hB.le
  go_enter Try.func4, Try.ntmps4
  go_wp2_with fail
  refine (bytes9 (some pa) (some pb) na nb ca cb w ha0 hb0).mono ?_
  rintro e w' ⟨rfl | rfl, rfl⟩
  case inr =>
    go_wp2_with fail
    go_ret
    exact ⟨rfl, Below.refl _ _⟩
  by_cases h1 : 4096 < na
  · go_wp2_with fail
    go_ret
    exact ⟨rfl, Below.refl _ _⟩
  by_cases h2 : 4096 < nb
  · go_wp2_with fail
    go_ret
    exact ⟨rfl, Below.refl _ _⟩
  have hmk1 := make_ints na w' (by omega)
  obtain ⟨W2, hcp1, hi2, hb2, hz2⟩ := copy_run' w' pa bka oa ca na A hA.len (fun h => by have := (hA.at0 h).1; cases this; rfl) hA.ints
  have hmk2 := make_ints nb W2 (by omega)
  have hiB2 : Ints W2 bkb ob B := by
    intro j x hx
    have hlt : 0 < nb := by have := (List.getElem?_eq_some_iff.1 hx).1; have := hB.len; omega
    exact hB.ints.later hb2 (hB.at0 hlt).2 j x hx
  obtain ⟨W4, hcp2, hi4, hb4, hz4⟩ := copy_run' W2 pb bkb ob cb nb B hB.len (fun h => by have := (hB.at0 h).1; cases this; rfl) hiB2
  rw [hz2] at hcp2 hi4 hb4 hz4 hmk2
  go_wp2_with fail
  have hiA4 : Ints W4 w'.heap.size 0 A := hi2.later hb4 (by omega)
  have hbe4 : Below w'.heap.size w' W4 := hb2.trans (hb4.mono (by omega))
  have HnA : Hid (na = A.length) := hA.len
  have HnB : Hid (nb = B.length) := hB.len
  clear hcp1 hcp2 hmk1 hmk2 hi2 hiB2 hb2 hb4 hA hB
  refine (cost10 (some ⟨w'.heap.size, 0, none⟩) w'.heap.size 0 na na A W4 HnA hiA4 (fun _ => rfl) (by omega)).mono ?_
  rintro e w5 ⟨⟨va, rfl, hva1, hva2⟩, rfl⟩
  go_wp2_with fail
  refine (cost10 (some ⟨w'.heap.size + 1, 0, none⟩) (w'.heap.size + 1) 0 nb nb B _ HnB hi4 (fun _ => rfl) (by omega)).mono ?_
  rintro e w5 ⟨⟨vb, rfl, hvb1, hvb2⟩, rfl⟩
  have HvA : Hid (0 ≤ va → ∀ x ∈ A, x ≤ 4096) := hva2
  have HvB : Hid (0 ≤ vb → ∀ x ∈ B, x ≤ 4096) := hvb2
  clear hva2 hvb2
  by_cases hv1 : va < 0
  · go_wp2_with fail
    go_ret
    exact ⟨rfl, hbe4⟩
  by_cases hv2 : vb < 0
  · go_wp2_with fail
    go_ret
    exact ⟨rfl, hbe4⟩
  by_cases hv3 : 65536 < va + vb
  · go_wp2_with fail
    go_ret
    exact ⟨rfl, hbe4⟩
  by_cases ha1 : na = 0
  · have hz : ((na : Int) == 0) = true := by simp [ha1]
    clear ha1
    go_wp2_with fail
    go_ret
    exact ⟨rfl, hbe4⟩
  have hza : ((na : Int) == 0) = false := by simp [ha1]
  by_cases hb1 : nb = 0
  · have hz : ((nb : Int) == 0) = true := by simp [hb1]
    clear hb1
    go_wp2_with fail
    go_ret
    exact ⟨rfl, hbe4⟩
  have hzb : ((nb : Int) == 0) = false := by simp [hb1]
  have hmk := make_room na nb w5 (by omega) (by omega)
  rw [hz4] at hmk
  have hown := own_fresh w5 (na + nb) (w'.heap.size + 1 + 1) (by omega) (by omega)
  rw [hz4] at hown
  have hiA6 : Ints (w5.alloc (.cells (madeCells #[.int .i64 0] (na + nb)) 3)) w'.heap.size 0 A := hiA4.later ((Below.refl _ w5).alloc (Nat.le_refl _) _) (by omega)
  have hiB6 : Ints (w5.alloc (.cells (madeCells #[.int .i64 0] (na + nb)) 3)) (w'.heap.size + 1) 0 B := hi4.later ((Below.refl _ w5).alloc (Nat.le_refl _) _) (by omega)
  have hb6 : Below w'.heap.size w' (w5.alloc (.cells (madeCells #[.int .i64 0] (na + nb)) 3)) := hbe4.alloc (by omega) _
  have hz6 : (w5.alloc (.cells (madeCells #[.int .i64 0] (na + nb)) 3)).heap.size = w'.heap.size + 1 + 1 + 1 := by simp [hz4]
  obtain ⟨i0, ki, kz0, kz1, kz2⟩ := info_parts info3
  have HlA : Hid ((A.map (Value.int .i64)).length = na * 1) := by show _ = _; rw [List.length_map, ← HnA.out, Nat.mul_one]
  have HlB : Hid ((B.map (Value.int .i64)).length = nb * 1) := by show _ = _; rw [List.length_map, ← HnB.out, Nat.mul_one]
  have Hz6 : Hid ((w5.alloc (.cells (madeCells #[.int .i64 0] (na + nb)) 3)).heap.size = w'.heap.size + 1 + 1 + 1) := hz6
  clear hz6
  go_wp2_with (first
    | (at_builtin; refine wpList_append_lies _ rfl (.tmp 73) (.tmp 74) 30 rfl (w'.heap.size + 1 + 1) 3 i0 (.int .i64 0) 1 8 Try.underlying30 ki kz0 kz1 kz2 rfl (by decide) _ 0 [] rfl hown ⟨w'.heap.size, 0, none⟩ na na (A.map (Value.int .i64)) rfl HlA.out (news_ints hiA6) (ints_one A) (by omega) (by unfold maxLen; omega) (by omega) (by rw [Hz6.out]; omega) _ rfl ?_; intro g1 c1 w7 hown7 hgrow7 hat7 hlt7; simp only [Nat.zero_add, List.nil_append] at hown7; have hb7 := below_append hown hgrow7 (by rw [Hz6.out]; omega); have hz7 : w'.heap.size + 1 + 1 + 1 ≤ w7.heap.size := by (have := hgrow7.size; rw [Hz6.out] at this; exact this))
    | (at_builtin; refine wpList_append_lies _ rfl (.tmp 76) (.tmp 77) 30 rfl (w'.heap.size + 1 + 1) 3 i0 (.int .i64 0) 1 8 Try.underlying30 ki kz0 kz1 kz2 rfl (by decide) _ na (A.map (Value.int .i64)) rfl hown7 ⟨w'.heap.size + 1, 0, none⟩ nb nb (B.map (Value.int .i64)) rfl HlB.out (news_ints (hiB6.later hb7 (by omega))) (ints_one B) (by omega) (by unfold maxLen; omega) (by omega) (by omega) _ rfl ?_; intro g2 c2 w8 hown8 hgrow8 hat8 hlt8))
  have hb8 := below_append hown7 hgrow8 (by omega)
  have hiAB : Ints w8 g2 0 (A ++ B) := by
    rw [← List.map_append] at hown8
    exact own_ints hown8
  have hiA8 : Ints w8 w'.heap.size 0 A := (hiA6.later hb7 (by omega)).later hb8 (by omega)
  have hiB8 : Ints w8 (w'.heap.size + 1) 0 B := (hiB6.later hb7 (by omega)).later hb8 (by omega)
  have hbe8 : Below w'.heap.size w' w8 := (hb6.trans (hb7.mono (by omega))).trans (hb8.mono (by omega))
  have hz8 : w'.heap.size + 1 + 1 + 1 ≤ w8.heap.size := by have := hgrow8.size; omega
  have HnAB : Hid (na + nb = (A ++ B).length) := by show _ = _; rw [List.length_append, ← HnA.out, ← HnB.out]
  have HxA : Hid (∀ x ∈ A, x ≤ 4096) := HvA.out hv1
  have HxB : Hid (∀ x ∈ B, x ≤ 4096) := HvB.out hv2
  have HxAB : Hid (∀ x ∈ A ++ B, x ≤ 4096) := by
    intro x hx
    rcases List.mem_append.1 hx with h | h
    · exact HxA.out x h
    · exact HxB.out x h
  clear hown hown7 hown8 hgrow7 hgrow8 hat7 hat8 hlt7 hb7 hb8 hiA6 hiB6 hb6 hmk Hz6 hz7 hiA4 hi4 hbe4 HlA HlB ki kz0 kz1 kz2
  refine (distinct11 (some ⟨g2, 0, none⟩) g2 0 c2 (na + nb) (A ++ B) w8 HnAB hiAB (fun _ => ⟨rfl, hlt8⟩) (by omega)).mono ?_
  rintro e w9 ⟨hor, hb9⟩
  have hbe9 : Below w'.heap.size w' w9 := hbe8.trans (hb9.mono (by omega))
  rcases hor with rfl | rfl
  case inr =>
    go_wp2_with fail
    go_ret
    exact ⟨rfl, hbe9⟩
  have hiA9 : Ints w9 w'.heap.size 0 A := hiA8.later hb9 (by omega)
  have hiB9 : Ints w9 (w'.heap.size + 1) 0 B := hiB8.later hb9 (by omega)
  have hiAB9 : Ints w9 g2 0 (A ++ B) := hiAB.later hb9 hlt8
  have hz9 : w'.heap.size + 1 + 1 + 1 ≤ w9.heap.size := by have := hb9.size; omega
  have hg9 : g2 < w9.heap.size := by have := hb9.size; omega
  clear hiA8 hiB8 hiAB hb9 hbe8 hz8 hlt8
  go_wp2_with fail
  refine (disj12 (some ⟨w'.heap.size, 0, none⟩) w'.heap.size 0 na na A w9 HnA hiA9 (fun _ => ⟨rfl, by omega⟩) (by omega) HxA).mono ?_
  rintro e w10 ⟨rfl, hb10, v10, hcv10, ms10, hown10, hmem10⟩
  obtain ⟨g10, cp10, rfl, _, _⟩ := hown10.form (by omega)
  have Hc10 : Hid (∀ j u, ms10[j]? = some u → w10.cell? ⟨g10, j, none⟩ = some u) := own_cells hown10
  have hbe10 : Below w'.heap.size w' w10 := hbe9.trans (hb10.mono (by omega))
  have hiB10 : Ints w10 (w'.heap.size + 1) 0 B := hiB9.later hb10 (by omega)
  have hiAB10 : Ints w10 g2 0 (A ++ B) := hiAB9.later hb10 hg9
  have hz10 : w'.heap.size + 1 + 1 + 1 ≤ w10.heap.size := by have := hb10.size; omega
  have hg10 : g2 < w10.heap.size := by have := hb10.size; omega
  clear hiA9 hiB9 hiAB9 hb10 hbe9 hown10
  go_wp2_with fail
  refine (kinds13 w9.heap.size g10 na cp10 A ms10 w10 HnA (by omega) hcv10 Hc10 hmem10).mono ?_
  rintro e w11 ⟨rfl, rfl⟩
  clear hcv10 Hc10 hmem10
  go_wp2_with fail
  refine (disj12 (some ⟨w'.heap.size + 1, 0, none⟩) (w'.heap.size + 1) 0 nb nb B w11 HnB hiB10 (fun _ => ⟨rfl, by omega⟩) (by omega) HxB).mono ?_
  rintro e w12 ⟨rfl, hb12, v12, hcv12, ms12, hown12, hmem12⟩
  obtain ⟨g12, cp12, rfl, _, _⟩ := hown12.form (by omega)
  have Hc12 : Hid (∀ j u, ms12[j]? = some u → w12.cell? ⟨g12, j, none⟩ = some u) := own_cells hown12
  have hbe12 : Below w'.heap.size w' w12 := hbe10.trans (hb12.mono (by omega))
  have hiAB12 : Ints w12 g2 0 (A ++ B) := hiAB10.later hb12 hg10
  have hz12 : w'.heap.size + 1 + 1 + 1 ≤ w12.heap.size := by have := hb12.size; omega
  have hg12 : g2 < w12.heap.size := by have := hb12.size; omega
  clear hiB10 hiAB10 hb12 hbe10 hown12
  go_wp2_with fail
  refine (kinds13 w11.heap.size g12 nb cp12 B ms12 w12 HnB (by omega) hcv12 Hc12 hmem12).mono ?_
  rintro e w13 ⟨rfl, rfl⟩
  clear hcv12 Hc12 hmem12
  go_wp2_with fail
  refine (disj12 (some ⟨g2, 0, none⟩) g2 0 c2 (na + nb) (A ++ B) w13 HnAB hiAB12 (fun _ => ⟨rfl, hg12⟩) (by omega) HxAB).mono ?_
  rintro e w14 ⟨rfl, hb14, v14, hcv14, ms14, hown14, hmem14⟩
  obtain ⟨g14, cp14, rfl, _, _⟩ := hown14.form (by omega)
  have Hc14 : Hid (∀ j u, ms14[j]? = some u → w14.cell? ⟨g14, j, none⟩ = some u) := own_cells hown14
  have hbe14 : Below w'.heap.size w' w14 := hbe12.trans (hb14.mono (by omega))
  clear hiAB12 hb14 hbe12 hown14
  go_wp2_with fail
  refine (kinds13 w13.heap.size g14 (na + nb) cp14 (A ++ B) ms14 w14 HnAB (by omega) hcv14 Hc14 hmem14).mono ?_
  rintro e w15 ⟨rfl, rfl⟩
  clear hcv14 Hc14 hmem14
  have hor := K_append A B
  have hne : (K (A ++ B) != 0) = true := by
    rw [bne_iff_ne]
    refine K_ne _ ?_
    intro h
    have := HnAB.out
    rw [h] at this
    simp at this
    omega
  have hin := K_in (A ++ B)
  clear HnA HnB HnAB HxA HxB HxAB HvA HvB
  generalize K (A ++ B) = kab at *
  generalize K A = ka at *
  generalize K B = kb at *
  go_wp2_with fail
  go_ret
  exact ⟨rfl, hbe14⟩

end Go.Proofs.Qxb6609229a
