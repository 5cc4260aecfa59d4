/-
  PLAIN LAWS for FnReleaseOneRequestMatchesModel: the rest of the stops, the last of them, what is shared, what is kept.
-/
import Derived.Test.Qxb6609224aGet
import Derived.Test.Qxb6609224aDistinct
namespace Go.Proofs.Qxb6609224a
open Go.RowKit Go.Maps

/-- The first n values of f. -/
def mk (n : Nat) (f : Nat → Int) : List Int := (List.range n).map f
theorem mk_length (n : Nat) (f : Nat → Int) : (mk n f).length = n := by simp [mk]
theorem mk_succ (n : Nat) (f : Nat → Int) : mk (n + 1) f = mk n f ++ [f n] := by simp [mk, List.range_succ]
theorem mk_get {n : Nat} {f : Nat → Int} {j : Nat} (h : j < n) : (mk n f)[j]? = some (f j) := by simp [mk, h]
theorem mem_mk {n : Nat} {f : Nat → Int} {x : Int} : x ∈ mk n f ↔ ∃ j, j < n ∧ f j = x := by simp [mk]
theorem mk_sorted {n : Nat} {f : Nat → Int} (h : ∀ j, 1 ≤ j → j < n → f (j - 1) ≤ f j) : (mk n f).Pairwise (· ≤ ·) := by
  have mono : ∀ i j, i ≤ j → j < n → f i ≤ f j := by
    intro i j hij
    induction j with
    | zero => intro _; rw [show i = 0 from by omega]; exact Int.le_refl _
    | succ j ih =>
      intro hj
      by_cases e : i = j + 1
      · rw [e]; exact Int.le_refl _
      · have h1 := ih (by omega) (by omega)
        have h2 := h (j + 1) (by omega) hj
        simp at h2
        omega
  rw [List.pairwise_iff_getElem]
  intro i j hi hj hij
  simp [mk] at hi hj ⊢
  exact mono i j (by omega) hj

/-- One stop struck: the first that is i, or the last: the same. -/
theorem del_erase {ss : List Int} {i : Int} (hs : ss.Pairwise (· ≤ ·)) (hi : i ∈ ss) : del ss i = ss.erase i := by
  induction ss with
  | nil => cases hi
  | cons x l ih =>
    obtain ⟨h1, h2⟩ := List.pairwise_cons.1 hs
    by_cases hxi : x = i
    · subst hxi
      rw [List.erase_cons_head]
      have hc : cnt (x :: l) x = cnt l x + 1 := by unfold cnt; rw [List.countP_cons_of_pos (by simp; omega)]
      unfold del
      rw [hc]
      by_cases hl : x ∈ l
      · have ih' := ih h2 hl
        have hp := cnt_pos hl
        obtain ⟨q, hq⟩ : ∃ q, cnt l x = q + 1 := ⟨cnt l x - 1, by omega⟩
        unfold del at ih'
        rw [hq] at ih' ⊢
        simp only [Nat.add_sub_cancel, List.take_succ_cons, List.drop_succ_cons, List.cons_append] at ih' ⊢
        rw [ih']
        cases l with
        | nil => cases hl
        | cons y l' =>
          have hy : y = x := by
            rcases List.mem_cons.1 hl with e | e
            · exact e.symm
            · have a := h1 y (by simp)
              have b := (List.pairwise_cons.1 h2).1 x e
              omega
          subst hy
          rw [List.erase_cons_head]
      · have hc0 : cnt l x = 0 := by
          unfold cnt
          rw [List.countP_eq_zero]
          intro y hy
          have := h1 y hy
          have hne : y ≠ x := fun e => hl (e ▸ hy)
          simp; omega
        rw [hc0]; simp
    · have hl : i ∈ l := by
        rcases List.mem_cons.1 hi with e | e
        · exact absurd e.symm hxi
        · exact e
      have hlt : x < i + 1 := by have := h1 i hl; omega
      have ih' := ih h2 hl
      have hp := cnt_pos hl
      have hc : cnt (x :: l) i = cnt l i + 1 := by unfold cnt; rw [List.countP_cons_of_pos (by simp; omega)]
      obtain ⟨q, hq⟩ : ∃ q, cnt l i = q + 1 := ⟨cnt l i - 1, by omega⟩
      rw [List.erase_cons_tail (by simpa using hxi), ← ih']
      unfold del
      rw [hc, hq]
      simp

/-- The stops that stay, round by round. -/
theorem rest_skip {f : Nat → Int} {j : Nat} {i : Int} (h : i ∉ mk j f) (hj : f j = i) : (mk (j + 1) f).erase i = (mk j f).erase i := by
  rw [mk_succ, List.erase_append_right _ h, hj, List.erase_of_not_mem h]
  simp
theorem rest_take {f : Nat → Int} {j : Nat} {i : Int} (h : i ∈ mk j f ∨ f j ≠ i) : (mk (j + 1) f).erase i = (mk j f).erase i ++ [f j] := by
  rw [mk_succ]
  by_cases hm : i ∈ mk j f
  · rw [List.erase_append_left _ hm]
  · have hne : f j ≠ i := h.resolve_left hm
    rw [List.erase_of_not_mem hm, List.erase_of_not_mem]
    simp only [List.mem_append, List.mem_singleton]
    rintro (h' | h')
    · exact hm h'
    · exact hne h'.symm

/-- The greatest of the first j: the last of them. -/
theorem hd_step {r : List Int} {j : Nat} {x : Int} (hx : r[j]? = some x) : hd (r.take (j + 1)) = x := by
  have hl : 0 < (r.take (j + 1)).length := by rw [List.length_take]; have := (List.getElem?_eq_some_iff.1 hx).1; omega
  have h1 := hd_last hl
  have hlen : (r.take (j + 1)).length = j + 1 := by rw [List.length_take]; have := (List.getElem?_eq_some_iff.1 hx).1; omega
  rw [hlen, List.getElem?_take, if_pos (by omega)] at h1
  simp at h1
  rw [hx] at h1
  exact (Option.some.inj h1).symm
theorem hd_le {r : List Int} {j : Nat} {x : Int} (hs : r.Pairwise (· ≤ ·)) (h0 : ∀ y ∈ r, 0 ≤ y) (hx : r[j]? = some x) : hd (r.take j) ≤ x := by
  have hj := (List.getElem?_eq_some_iff.1 hx).1
  cases j with
  | zero =>
    have := h0 x (List.mem_of_getElem? hx)
    simp [hd]; omega
  | succ j =>
    obtain ⟨y, hy⟩ : ∃ y, r[j]? = some y := ⟨_, List.getElem?_eq_getElem (by omega)⟩
    rw [hd_step hy]
    have := List.pairwise_iff_getElem.1 hs j (j + 1) (by omega) hj (by omega)
    rw [List.getElem?_eq_getElem hj] at hx
    rw [List.getElem?_eq_getElem (by omega)] at hy
    have := Option.some.inj hx
    have := Option.some.inj hy
    omega

end Go.Proofs.Qxb6609224a
