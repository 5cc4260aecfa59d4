/-
  PLAIN LAWS, more: the blocks as the law makes them; what is kept; what is shared.
-/
import Derived.Test.Qxb6609224aPlain
namespace Go.Proofs.Qxb6609224a
open Go.RowKit Go.Maps

def mkb (k : Nat) (fi fe : Nat → Int) : List (Int × Int × Int) := (List.range k).map fun j => (fi j, fe j, 0)
theorem mkb_length (k : Nat) (fi fe : Nat → Int) : (mkb k fi fe).length = k := by simp [mkb]
theorem mkb_succ (k : Nat) (fi fe : Nat → Int) : mkb (k + 1) fi fe = mkb k fi fe ++ [(fi k, fe k, 0)] := by simp [mkb, List.range_succ]
theorem mkb_get {k : Nat} {fi fe : Nat → Int} {j : Nat} (h : j < k) : (mkb k fi fe)[j]? = some (fi j, fe j, 0) := by simp [mkb, h]
theorem mkb_end {k : Nat} {fi fe : Nat → Int} {j : Nat} (h : j < k) : endOf (mkb k fi fe) j = fe j := by unfold endOf; rw [mkb_get h]; rfl
theorem mkb_ids (k : Nat) (fi fe : Nat → Int) : (mkb k fi fe).map Prod.fst = mk k fi := by simp [mkb, mk]
theorem mk_nodup {k : Nat} {f : Nat → Int} (h : Inj k f) : (mk k f).Nodup := by
  rw [List.nodup_iff_pairwise_ne, List.pairwise_iff_getElem]
  intro i j hi hj hij
  simp [mk] at hi hj ⊢
  intro e
  have := h i j hi hj e
  omega
theorem tok_mkb {k : Nat} {fi fe : Nat → Int} {m : Nat} (h : m ≤ k) : tok (mkb k fi fe) m = if m = 0 then 0 else fe (m - 1) := by
  unfold tok
  split
  · rfl
  · exact mkb_end (by omega)

theorem HasD.put {D : DataW Unit} {bl : List (Int × Int × Int)} {id en : Int} (h : HasD D bl) (hm : IsMap D) : HasD (D.put (.int .i64 id) (.agg [])) (bl ++ [(id, en, 0)]) := by
  intro x
  by_cases e : x = id
  · subst e
    rw [Maps.has_put_same hm (by trivial)]
    simp
  · rw [Maps.has_put_other (fun e' => e (by cases e'; rfl)), h x]
    simp [e]
theorem HasD.nil : HasD (.map []) [] := by
  intro x
  simp [Maps.has]

theorem keep_eq {fe : Nat → Int} {k ft m : Nat} {c h : Int} {T : Nat → Int} (hT : ∀ m, m ≤ k → T m = if m = 0 then 0 else fe (m - 1)) (hft : ft ≤ k) (h1 : ∀ t, t < ft → fe t ≤ c) (h2 : ∀ t, ft ≤ t → t < k → c < fe t) (hh : -1 ≤ h) (hhk : h < k) (hm : m ≤ k)
    (A : T m ≤ c ∨ ¬ h + 1 < m) (B : m = k ∨ (c < T (m + 1) ∧ h + 1 < m + 1)) : (m : Int) = if (ft : Int) < h + 1 then h + 1 else ft := by
  have up : 0 < m → T m ≤ c → m ≤ ft := by
    intro h0 hc
    rw [hT m hm, if_neg (by omega)] at hc
    rcases Nat.lt_or_ge ft m with h' | h'
    · have := h2 (m - 1) (by omega) (by omega); omega
    · exact h'
  rcases B with rfl | ⟨B1, B2⟩
  · rcases A with A | A
    · by_cases h0 : m = 0
      · subst h0; split <;> omega
      · have := up (by omega) A
        rw [if_neg (by omega)]; omega
    · split <;> omega
  · have hmk : m < k ∨ m = k := by omega
    rcases hmk with hmk | hmk
    · rw [hT (m + 1) (by omega), if_neg (by omega), Nat.add_sub_cancel] at B1
      have hftm : ft ≤ m := by
        rcases Nat.lt_or_ge m ft with h' | h'
        · have := h1 m h'; omega
        · exact h'
      rcases A with A | A
      · by_cases h0 : m = 0
        · subst h0; split <;> omega
        · have := up (by omega) A
          rw [if_neg (by omega)]; omega
      · split <;> omega
    · subst hmk
      rcases A with A | A
      · by_cases h0 : m = 0
        · subst h0; split <;> omega
        · have := up (by omega) A
          rw [if_neg (by omega)]; omega
      · split <;> omega

theorem shared_eq {k i m : Nat} {fi fe : Nat → Int} {r : List Int} (hik : i < k) (hr : ∀ x ∈ r, 0 ≤ x ∧ x < k) (h1 : m ≤ i + 1) (h2 : (m : Int) ≤ hd r + 1) (h3 : ¬ (m ≤ i ∧ (m : Int) ≤ hd r)) :
    (if m = 0 then 0 else fe (m - 1)) = tokens (mkb k fi fe) r i := by
  unfold tokens
  by_cases h0 : r.length = 0
  · rw [if_pos h0]
    have := hd_nil h0
    rw [if_pos (by omega)]
  · rw [if_neg h0]
    have hb := hr _ (hd_mem (ss := r) (by omega))
    by_cases hi : (i : Int) ≤ hd r
    · rw [if_pos hi, mkb_end hik, if_neg (by omega), show m - 1 = i from by omega]
    · rw [if_neg hi, mkb_end (by omega), if_neg (by omega), show m - 1 = (hd r).toNat from by omega]

end Go.Proofs.Qxb6609224a
