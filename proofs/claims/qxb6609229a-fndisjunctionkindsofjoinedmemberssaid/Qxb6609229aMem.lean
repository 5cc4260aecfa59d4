/-
  MEMORY: rows of ints that the law makes: 'make', 'copy', what an owned row holds.
-/
import Derived.Test.Qxb6609229aKinds
import Derived.Laws.CopyOwn
import Derived.Lib.SmallJoins
import Derived.Lib.JoinLaws
namespace Go.Proofs.Qxb6609229a
open Go.RowKit

theorem info3 : (Try.prog.info? 3).map (fun i => (i.zero, i.size, i.bytes)) = some (some (.int .i64 0), 1, 8) := by kernel_rfl
theorem size3 : (Try.prog.info? 3).map (·.size) = some 1 := by kernel_rfl

theorem make_ints (n : Nat) (w : World) (hn : n ≤ 1048576) :
    (Instr.makeSlice 30 (.int .i64 (n : Int)) (.int .i64 (n : Int))).run Try.prog w = .ok (.slice (some ⟨w.heap.size, 0, none⟩) n n) (w.alloc (.cells (madeCells #[.int .i64 0] n) 3)) :=
  run_make_row' 30 3 (.int .i64 0) 8 Try.underlying30 info3 rfl .i64 .i64 n (by omega) (by omega) w
theorem make_room (n m : Nat) (w : World) (hn : n ≤ 1048576) (hm : m ≤ 1048576) :
    (Instr.makeSlice 30 (.int .i64 0) (.int .i64 ((n : Int) + (m : Int)))).run Try.prog w = .ok (.slice (some ⟨w.heap.size, 0, none⟩) 0 (n + m)) (w.alloc (.cells (madeCells #[.int .i64 0] (n + m)) 3)) := by
  have h := run_make_room (P := Try.prog) 30 3 (.int .i64 0) 8 Try.underlying30 info3 rfl .i64 .i64 (n + m) (by omega) (by omega) w
  rw [show ((n + m : Nat) : Int) = (n : Int) + (m : Int) from by omega] at h
  exact h

theorem copy_run (w : World) (bk o c n : Nat) (L : List Int) (hn : n = L.length) (hs : Ints w bk o L) :
    ∃ W2, (Builtin.copy_ #[30, 30] 3 #[.slice (some ⟨w.heap.size, 0, none⟩) n n, .slice (some ⟨bk, o, none⟩) n c]).run Try.prog (w.alloc (.cells (madeCells #[.int .i64 0] n) 3)) = .ok (.int .i64 (n : Int)) W2 ∧
      Ints W2 w.heap.size 0 L ∧ Below w.heap.size w W2 ∧ W2.heap.size = w.heap.size + 1 := by
  have hg : (w.alloc (.cells (madeCells #[.int .i64 0] n) 3)).heap[w.heap.size]? = some (.cells (madeCells #[.int .i64 0] n) 3 (0, 0)) := by
    show (w.heap.push (.cells (madeCells #[.int .i64 0] n) 3))[w.heap.size]? = _
    simp
  have hrun := run_copy_row (P := Try.prog) (w.alloc (.cells (madeCells #[.int .i64 0] n) 3)) 30 30 3 3 w.heap.size 0 n n ⟨bk, o, none⟩ n c (madeCells #[.int .i64 0] n) 3 (L.map (Value.int .i64))
    Try.underlying30 size3 hg (by rw [List.length_map, ← hn]; exact (Nat.min_self n).symm)
    (by
      intro j v hj
      rw [List.getElem?_map] at hj
      obtain ⟨x, hx, rfl⟩ := Option.map_eq_some_iff.1 hj
      have hplain : (⟨bk, o, none⟩ : Addr).add j = ⟨bk, o + j, none⟩ := by unfold Addr.add; split <;> simp_all
      rw [hplain]
      exact cell_later ((Below.refl _ w).alloc (Nat.le_refl _) _) (hs j x hx))
    (by rw [List.length_map, size_madeCells]; omega)
    (by
      intro v hv
      obtain ⟨x, _, rfl⟩ := List.mem_map.1 hv
      rfl)
  have hrow := setRow_heap (w.alloc (.cells (madeCells #[.int .i64 0] n) 3)) w.heap.size _ (List.take 0 (madeCells #[.int .i64 0] n).toList ++ L.map (Value.int .i64) ++ List.drop (0 + (L.map (Value.int .i64)).length) (madeCells #[.int .i64 0] n).toList).toArray 3 _ hg
  refine ⟨_, by rw [List.length_map, ← hn] at hrun; exact hrun, ?_, ?_, ?_⟩
  · intro j x hx
    have hlt : j < L.length := (List.getElem?_eq_some_iff.1 hx).1
    rw [List.length_map, ← hn] at hrow
    rw [Joins.cell_of_block hrow, Nat.zero_add j]
    simp only [List.take_zero, List.nil_append, List.getElem?_toArray]
    rw [List.getElem?_append_left (by rw [List.length_map]; exact hlt), List.getElem?_map, hx]
    rfl
  · exact below_setRow ((Below.refl _ w).alloc (Nat.le_refl _) _) (Nat.le_refl _) _
  · simp [World.setRow]

/-- The same, of a source whose address counts only where it has an element. -/
theorem copy_run' (w : World) (a : Addr) (bk o c n : Nat) (L : List Int) (hn : n = L.length) (ha : 0 < n → a = ⟨bk, o, none⟩) (hs : Ints w bk o L) :
    ∃ W2, (Builtin.copy_ #[30, 30] 3 #[.slice (some ⟨w.heap.size, 0, none⟩) n n, .slice (some a) n c]).run Try.prog (w.alloc (.cells (madeCells #[.int .i64 0] n) 3)) = .ok (.int .i64 (n : Int)) W2 ∧
      Ints W2 w.heap.size 0 L ∧ Below w.heap.size w W2 ∧ W2.heap.size = w.heap.size + 1 := by
  by_cases h0 : 0 < n
  · rw [ha h0]
    exact copy_run w bk o c n L hn hs
  · have hn0 : n = 0 := by omega
    subst hn0
    obtain rfl : L = [] := List.eq_nil_of_length_eq_zero hn.symm
    exact ⟨_, run_copy_none (P := Try.prog) _ 30 30 3 3 (some ⟨w.heap.size, 0, none⟩) (some a) 0 0 0 c Try.underlying30 size3 rfl, (by intro j x hx; cases hx), (Below.refl _ w).alloc (Nat.le_refl _) _, by simp⟩

/-- What an owned row's cells hold. -/
theorem own_cells {w : World} {B : Nat} {e : TypeId} {g n cap : Nat} {xs : List Value} (h : w.ownsRow B e 1 (.slice (some ⟨g, 0, none⟩) n cap) n xs) : ∀ j u, xs[j]? = some u → w.cell? ⟨g, j, none⟩ = some u := by
  intro j u hu
  rcases h.2 with ⟨h0, _⟩ | ⟨g', cap', cur, hv, hB, hg, _, _, _, ht⟩
  · cases h0
  · simp only [Value.slice.injEq, Option.some.injEq, Addr.mk.injEq] at hv
    obtain ⟨⟨rfl, _⟩, _⟩ := hv
    rw [Joins.cell_of_block hg j]
    rw [← ht] at hu
    rw [List.getElem?_take] at hu
    split at hu
    · simpa using hu
    · cases hu

theorem own_ints {w : World} {B g n cap : Nat} {L : List Int} (h : w.ownsRow B 3 1 (.slice (some ⟨g, 0, none⟩) n cap) n (L.map (Value.int .i64))) : Ints w g 0 L := by
  intro j x hx
  rw [Nat.zero_add]
  exact own_cells h j _ (by rw [List.getElem?_map, hx]; rfl)

/-- A made row without an element yet is owned. -/
theorem own_fresh (w : World) (n B : Nat) (hn : n ≤ 1048576) (hB : B ≤ w.heap.size) : (w.alloc (.cells (madeCells #[.int .i64 0] n) 3)).ownsRow B 3 1 (.slice (some ⟨w.heap.size, 0, none⟩) 0 n) 0 [] := by
  refine ⟨rfl, Or.inr ⟨w.heap.size, n, madeCells #[.int .i64 0] n, rfl, hB, ?_, Nat.zero_le _, by unfold maxLen; omega, by rw [size_madeCells]; omega, by simp⟩⟩
  show (w.heap.push (.cells (madeCells #[.int .i64 0] n) 3))[w.heap.size]? = _
  simp

/-- The cells of a row of ints, as what is appended. -/
theorem news_ints {w : World} {bk : Nat} {L : List Int} (h : Ints w bk 0 L) : ∀ j u, (L.map (Value.int .i64))[j]? = some u → w.cell? ((⟨bk, 0, none⟩ : Addr).add j) = some u := by
  intro j u hj
  rw [List.getElem?_map] at hj
  obtain ⟨x, hx, rfl⟩ := Option.map_eq_some_iff.1 hj
  have hplain : (⟨bk, 0, none⟩ : Addr).add j = ⟨bk, 0 + j, none⟩ := by unfold Addr.add; split <;> simp_all
  rw [hplain]
  exact h j x hx
theorem ints_one (L : List Int) : ∀ u ∈ L.map (Value.int .i64), u.oneCell' = true := by
  intro u hu
  obtain ⟨x, _, rfl⟩ := List.mem_map.1 hu
  rfl
/-- An append to a row from B on leaves what lies below B. -/
theorem below_append {B : Nat} {w w' : World} {v : Value} {e : TypeId} {k n : Nat} {xs : List Value} (hown : w.ownsRow B e k v n xs) (hg : w.grownBy w' v.ownBlock) (hB : B ≤ w.heap.size) : Below B w w' := by
  refine Below.grown (Below.refl B w) hg hB ?_
  intro r hr
  rcases hown.2 with ⟨rfl, _⟩ | ⟨g, cap, cur, rfl, hB', _⟩
  · simp [Value.ownBlock] at hr
  · simp [Value.ownBlock] at hr; omega

end Go.Proofs.Qxb6609229a
