/-
  zzB1Sift (43): sifting down; its plain laws.
-/
import Derived.Test.Qxb6609224aMem
import Derived.Deep.QuietTactic
import Derived.BigQuiet
namespace Go.Proofs.Qxb6609224a
open Go.RowKit

/-! ### the plain laws: a row is a function of the place -/
def sw (f : Nat → Int) (a b : Nat) : Nat → Int := fun j => if j = a then f b else if j = b then f a else f j
def Inj (m : Nat) (f : Nat → Int) : Prop := ∀ i j, i < m → j < m → f i = f j → i = j
/-- g is f, its first n elements shuffled. -/
structure Shuf (n : Nat) (f g : Nat → Int) : Prop where
  same : ∀ j, n ≤ j → g j = f j
  inj : ∀ m, n ≤ m → Inj m g → Inj m f
  bound : ∀ v, (∀ j, j < n → f j ≤ v) → ∀ j, j < n → g j ≤ v
theorem Shuf.refl (n : Nat) (f : Nat → Int) : Shuf n f f := ⟨fun _ _ => rfl, fun _ _ h => h, fun _ h => h⟩
theorem Shuf.trans {n : Nat} {f g h : Nat → Int} (a : Shuf n f g) (b : Shuf n g h) : Shuf n f h :=
  ⟨fun j hj => (b.same j hj).trans (a.same j hj), fun m hm hi => a.inj m hm (b.inj m hm hi), fun v hv => b.bound v (a.bound v hv)⟩
theorem Shuf.mono {n n' : Nat} {f g : Nat → Int} (a : Shuf n f g) (h : n ≤ n') : Shuf n' f g := by
  refine ⟨fun j hj => a.same j (by omega), fun m hm => a.inj m (by omega), fun v hv j hj => ?_⟩
  by_cases hjn : j < n
  · exact a.bound v (fun i hi => hv i (by omega)) j hjn
  · rw [a.same j (by omega)]; exact hv j hj
theorem Shuf.sw (n : Nat) (f : Nat → Int) (a b : Nat) (ha : a < n) (hb : b < n) : Shuf n f (sw f a b) := by
  refine ⟨fun j hj => ?_, fun m hm hi i j hi' hj' he => ?_, fun v hv j hj => ?_⟩
  · unfold Qxb6609224a.sw; rw [if_neg (by omega), if_neg (by omega)]
  · have key : ∀ i, i < m → ∃ i', i' < m ∧ Qxb6609224a.sw f a b i' = f i ∧ i' = (if i = a then b else if i = b then a else i) := by
      intro i hi'
      by_cases h1 : i = a
      · subst h1
        refine ⟨b, by omega, ?_, by simp⟩
        unfold Qxb6609224a.sw
        by_cases hba : b = i
        · simp [hba]
        · simp [hba]
      · by_cases h2 : i = b
        · subst h2
          exact ⟨a, by omega, by unfold Qxb6609224a.sw; simp, by simp [h1]⟩
        · exact ⟨i, hi', by unfold Qxb6609224a.sw; simp [h1, h2], by simp [h1, h2]⟩
    obtain ⟨i', hi1, hi2, hi3⟩ := key i hi'
    obtain ⟨j', hj1, hj2, hj3⟩ := key j hj'
    have := hi i' j' hi1 hj1 (by rw [hi2, hj2, he])
    rw [hi3, hj3] at this
    split at this <;> split at this <;> (try split at this) <;> (try split at this) <;> omega
  · unfold Qxb6609224a.sw
    split
    · exact hv b hb
    · split
      · exact hv a ha
      · exact hv j hj

/-- Every parent from r on is no less than its children (below n). -/
def Hp (f : Nat → Int) (r n : Nat) : Prop := ∀ i j, r ≤ i → (j = 2 * i + 1 ∨ j = 2 * i + 2) → j < n → f j ≤ f i
/-- .. but for the children of x; and x's parent is no less than x's children. -/
def HpBut (f : Nat → Int) (r n x : Nat) : Prop :=
  (∀ i j, r ≤ i → i ≠ x → (j = 2 * i + 1 ∨ j = 2 * i + 2) → j < n → f j ≤ f i) ∧
  (∀ i j, r ≤ i → (x = 2 * i + 1 ∨ x = 2 * i + 2) → (j = 2 * x + 1 ∨ j = 2 * x + 2) → j < n → f j ≤ f i)
theorem Hp.but {f : Nat → Int} {r n : Nat} (h : Hp f (r + 1) n) : HpBut f r n r :=
  ⟨fun i j hi hne hj hn => h i j (by omega) hj hn, fun i j hi hx hj hn => by omega⟩
theorem HpBut.done {f : Nat → Int} {r n x : Nat} (h : HpBut f r n x) (hx : ∀ j, (j = 2 * x + 1 ∨ j = 2 * x + 2) → j < n → f j ≤ f x) : Hp f r n := by
  intro i j hi hj hn
  by_cases e : i = x
  · subst e; exact hx j hj hn
  · exact h.1 i j hi e hj hn
theorem HpBut.step {f : Nat → Int} {r n x c : Nat} (h : HpBut f r n x) (hr : r ≤ x) (hc : c = 2 * x + 1 ∨ c = 2 * x + 2) (hn : c < n) (hlt : f x < f c) (hmax : ∀ j, (j = 2 * x + 1 ∨ j = 2 * x + 2) → j < n → f j ≤ f c) :
    HpBut (sw f x c) r n c := by
  have hxc : x ≠ c := by omega
  have s1 : sw f x c x = f c := by simp [sw]
  have s2 : sw f x c c = f x := by simp [sw, Ne.symm hxc]
  have s3 : ∀ j, j ≠ x → j ≠ c → sw f x c j = f j := fun j h1 h2 => by simp [sw, h1, h2]
  refine ⟨fun i j hi hne hj hjn => ?_, fun i j hi hx hj hjn => ?_⟩
  · by_cases hix : i = x
    · subst hix
      rw [s1]
      by_cases hjc : j = c
      · subst hjc; rw [s2]; omega
      · rw [s3 j (by omega) hjc]; exact hmax j hj hjn
    · rw [s3 i hix hne]
      by_cases hjx : j = x
      · subst hjx
        rw [s1]
        exact h.2 i c hi hj hc hn
      · by_cases hjc : j = c
        · subst hjc; omega
        · rw [s3 j hjx hjc]; exact h.1 i j hi hix hj hjn
  · have hix : i = x := by omega
    subst hix
    rw [s1, s3 j (by omega) (by omega)]
    exact h.1 c j (by omega) (by omega) hj hjn
theorem Hp.top {f : Nat → Int} {n : Nat} (h : Hp f 0 n) : ∀ j, j < n → f j ≤ f 0 := by
  intro j
  induction j using Nat.strongRecOn with
  | ind j ih =>
    intro hj
    by_cases h0 : j = 0
    · subst h0; exact Int.le_refl _
    · have h1 := h ((j - 1) / 2) j (by omega) (by omega) hj
      have h2 := ih ((j - 1) / 2) (by omega) (by omega)
      omega

/-! ### the row in memory -/
/-- The first N cells of block G hold f's values, and may be written. -/
def Row (w : World) (G N : Nat) (f : Nat → Int) : Prop := ∀ j, j < N → w.cell? ⟨G, j, none⟩ = some (.int .i64 (f j)) ∧ w.frozen? ⟨G, j, none⟩ = false
theorem Row.swap {w : World} {G N a b : Nat} {f : Nat → Int} (h : Row w G N f) (ha : a < N) (hb : b < N) : Row ((w.setCell ⟨G, a, none⟩ (.int .i64 (f b))).setCell ⟨G, b, none⟩ (.int .i64 (f a))) G N (sw f a b) := by
  intro j hj
  obtain ⟨h1, h2⟩ := h j hj
  refine ⟨?_, by rw [World.frozen?_setCell, World.frozen?_setCell]; exact h2⟩
  by_cases hjb : j = b
  · subst hjb
    have hsome : (w.setCell ⟨G, a, none⟩ (.int .i64 (f j))).cell? ⟨G, j, none⟩ = some (.int .i64 (f j)) := by
      by_cases e : j = a
      · subst e; exact World.cell?_setCell_same _ _ _ h1
      · rw [World.cell?_setCell_other _ _ _ _ (by intro e'; cases e'; exact e rfl)]; exact h1
    rw [World.cell?_setCell_same _ _ _ hsome]
    by_cases e : j = a
    · subst e; simp [sw]
    · simp [sw, e]
  · rw [World.cell?_setCell_other _ _ _ _ (by intro e'; cases e'; exact hjb rfl)]
    by_cases e : j = a
    · subst e; rw [World.cell?_setCell_same _ _ _ h1]; simp [sw]
    · rw [World.cell?_setCell_other _ _ _ _ (by intro e'; cases e'; exact e rfl), h1]; simp [sw, e, hjb]

end Go.Proofs.Qxb6609224a
