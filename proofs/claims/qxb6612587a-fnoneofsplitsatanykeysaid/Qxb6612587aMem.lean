/-
  MEMORY: a row of strings that the call makes: 'make', 'copy', a store into it.
-/
import Derived.Test.Qxb6612587aOneLaws
import Derived.Laws.CopyOwn
import Derived.Deep.OwnRows
import Derived.Lib.SmallJoins
namespace Go.Proofs.Qxb6612587a
open Go.RowKit

theorem info9 : (Try.prog.info? 9).map (fun i => (i.zero, i.size, i.bytes)) = some (some (.string ⟨#[]⟩), 1, 16) := by kernel_rfl
theorem size9 : (Try.prog.info? 9).map (·.size) = some 1 := by kernel_rfl

/-- The first n cells of block G are there, and may be written. -/
def Room (w : World) (G n : Nat) : Prop := ∀ j, j < n → (∃ v, w.cell? ⟨G, j, none⟩ = some v) ∧ w.frozen? ⟨G, j, none⟩ = false

theorem room_made (w : World) (n : Nat) : Room (w.alloc (.cells (madeCells #[.string ⟨#[]⟩] n) 9)) w.heap.size n := by
  intro j hj
  refine ⟨?_, World.frozen?_alloc_new _ _ _ _⟩
  rw [World.cell?_alloc_mark w _ 9 _ j]
  exact ⟨_, Array.getElem?_eq_getElem (by rw [size_madeCells]; exact hj)⟩

theorem make_run (n : Nat) (w : World) (hn : n ≤ 1048577) :
    (Instr.makeSlice 22 (.int .i64 (n : Int)) (.int .i64 (n : Int))).run Try.prog w = .ok (.slice (some ⟨w.heap.size, 0, none⟩) n n) (w.alloc (.cells (madeCells #[.string ⟨#[]⟩] n) 9)) :=
  run_make_row' 22 9 (.string ⟨#[]⟩) 16 Try.underlying22 info9 rfl .i64 .i64 n (by omega) (by omega) w
theorem make_run1 (n : Nat) (w : World) (hn : n ≤ 1048576) :
    (Instr.makeSlice 22 (.int .i64 ((n : Int) + 1)) (.int .i64 ((n : Int) + 1))).run Try.prog w = .ok (.slice (some ⟨w.heap.size, 0, none⟩) (n + 1) (n + 1)) (w.alloc (.cells (madeCells #[.string ⟨#[]⟩] (n + 1)) 9)) := by
  have h := make_run (n + 1) w (by omega)
  rw [show ((n + 1 : Nat) : Int) = (n : Int) + 1 from by omega] at h
  exact h

theorem copy_run (w : World) (bk o c n : Nat) (L : List ByteArray) (hn : n = L.length) (hs : Strs w bk o L) :
    ∃ W2, (Builtin.copy_ #[22, 22] 3 #[.slice (some ⟨w.heap.size, 0, none⟩) n n, .slice (some ⟨bk, o, none⟩) n c]).run Try.prog (w.alloc (.cells (madeCells #[.string ⟨#[]⟩] n) 9)) = .ok (.int .i64 (n : Int)) W2 ∧
      Strs W2 w.heap.size 0 L ∧ Below w.heap.size w W2 ∧ W2.heap.size = w.heap.size + 1 := by
  have hg : (w.alloc (.cells (madeCells #[.string ⟨#[]⟩] n) 9)).heap[w.heap.size]? = some (.cells (madeCells #[.string ⟨#[]⟩] n) 9 (0, 0)) := by
    show (w.heap.push (.cells (madeCells #[.string ⟨#[]⟩] n) 9))[w.heap.size]? = _
    simp
  have hrun := run_copy_row (P := Try.prog) (w.alloc (.cells (madeCells #[.string ⟨#[]⟩] n) 9)) 22 22 3 9 w.heap.size 0 n n ⟨bk, o, none⟩ n c (madeCells #[.string ⟨#[]⟩] n) 9 (L.map Value.string)
    Try.underlying22 size9 hg (by rw [List.length_map, ← hn]; exact (Nat.min_self n).symm)
    (by
      intro j v hj
      rw [List.getElem?_map] at hj
      obtain ⟨x, hx, rfl⟩ := Option.map_eq_some_iff.1 hj
      have hplain : (⟨bk, o, none⟩ : Addr).add j = ⟨bk, o + j, none⟩ := by unfold Addr.add; split <;> simp_all
      rw [hplain]
      exact cell_later ((Below.refl _ w).alloc (Nat.le_refl _) _) (hs j x hx))
    (by rw [List.length_map, size_madeCells]; omega)
    (by
      intro v hv
      obtain ⟨x, _, rfl⟩ := List.mem_map.1 hv
      rfl)
  have hrow := setRow_heap (w.alloc (.cells (madeCells #[.string ⟨#[]⟩] n) 9)) w.heap.size _ (List.take 0 (madeCells #[.string ⟨#[]⟩] n).toList ++ L.map Value.string ++ List.drop (0 + (L.map Value.string).length) (madeCells #[.string ⟨#[]⟩] n).toList).toArray 9 _ hg
  refine ⟨_, by rw [List.length_map, ← hn] at hrun; exact hrun, ?_, ?_, ?_⟩
  · intro j x hx
    have hlt : j < L.length := (List.getElem?_eq_some_iff.1 hx).1
    rw [List.length_map, ← hn] at hrow
    rw [Joins.cell_of_block hrow, Nat.zero_add j]
    simp only [List.take_zero, List.nil_append, List.getElem?_toArray]
    rw [List.getElem?_append_left (by rw [List.length_map]; exact hlt), List.getElem?_map, hx]
    rfl
  · exact below_setRow ((Below.refl _ w).alloc (Nat.le_refl _) _) (Nat.le_refl _) _
  · simp [World.setRow]

/-- The same, of a source whose address counts only where it has an element. -/
theorem copy_run' (w : World) (a : Addr) (bk o c n : Nat) (L : List ByteArray) (hn : n = L.length) (ha : 0 < n → a = ⟨bk, o, none⟩) (hs : Strs w bk o L) :
    ∃ W2, (Builtin.copy_ #[22, 22] 3 #[.slice (some ⟨w.heap.size, 0, none⟩) n n, .slice (some a) n c]).run Try.prog (w.alloc (.cells (madeCells #[.string ⟨#[]⟩] n) 9)) = .ok (.int .i64 (n : Int)) W2 ∧
      Strs W2 w.heap.size 0 L ∧ Below w.heap.size w W2 ∧ W2.heap.size = w.heap.size + 1 := by
  by_cases h0 : 0 < n
  · rw [ha h0]
    exact copy_run w bk o c n L hn hs
  · have hn0 : n = 0 := by omega
    subst hn0
    obtain rfl : L = [] := List.eq_nil_of_length_eq_zero hn.symm
    exact ⟨_, run_copy_none (P := Try.prog) _ 22 22 3 9 (some ⟨w.heap.size, 0, none⟩) (some a) 0 0 0 c Try.underlying22 size9 rfl, (by intro j x hx; cases hx), (Below.refl _ w).alloc (Nat.le_refl _) _, by simp⟩

theorem Strs.later {w w' : World} {bk o B : Nat} {xs : List ByteArray} (h : Strs w bk o xs) (hb : Below B w w') (hB : bk < B) : Strs w' bk o xs :=
  fun j x hx => (hb.cell (p := ⟨bk, o + j, none⟩) hB).trans (h j x hx)
theorem Strs.take {w : World} {bk o : Nat} {xs : List ByteArray} (h : Strs w bk o xs) (k : Nat) : Strs w bk o (xs.take k) := by
  intro j x hx
  rw [List.getElem?_take] at hx
  split at hx
  · exact h j x hx
  · cases hx
theorem Strs.drop {w : World} {bk o : Nat} {xs : List ByteArray} (h : Strs w bk o xs) (k : Nat) : Strs w bk (o + k) (xs.drop k) := by
  intro j x hx
  rw [List.getElem?_drop] at hx
  have := h (k + j) x hx
  rwa [show o + k + j = o + (k + j) from by omega]
theorem Strs.init {w : World} {bk o : Nat} {xs : List ByteArray} {y : ByteArray} (h : Strs w bk o (xs ++ [y])) : Strs w bk o xs := by
  intro j x hx
  have hlt : j < xs.length := (List.getElem?_eq_some_iff.1 hx).1
  exact h j x (by rw [List.getElem?_append_left hlt]; exact hx)
theorem Strs.last {w : World} {bk o : Nat} {xs : List ByteArray} {y : ByteArray} (h : Strs w bk o (xs ++ [y])) : w.cell? ⟨bk, o + xs.length, none⟩ = some (.string y) :=
  h xs.length y (by simp)

/-- One string more is stored behind those that lie there. -/
theorem Strs.store {w : World} {G n k : Nat} {xs : List ByteArray} {x : ByteArray} (h : Strs w G 0 (xs.take k)) (hr : Room w G n) (hk : k < n) (hx : xs[k]? = some x) : Strs (w.setCell ⟨G, k, none⟩ (.string x)) G 0 (xs.take (k + 1)) := by
  intro j y hy
  rw [Nat.zero_add]
  by_cases hj : j = k
  · subst hj
    rw [List.getElem?_take, if_pos (by omega), hx] at hy
    cases hy
    obtain ⟨⟨v, hv⟩, _⟩ := hr j hk
    exact World.cell?_setCell_same _ _ _ hv
  · rw [World.cell?_setCell_other _ _ _ _ (by intro e; cases e; exact hj rfl)]
    have hlt : j < (xs.take (k + 1)).length := (List.getElem?_eq_some_iff.1 hy).1
    have hlt2 : j < k := by rw [List.length_take] at hlt; omega
    have := h j y (by rw [List.getElem?_take, if_pos hlt2]; rw [List.getElem?_take, if_pos (by omega)] at hy; exact hy)
    rwa [Nat.zero_add] at this
theorem Strs.apart {w : World} {bk o G k : Nat} {xs : List ByteArray} {v : Value} (h : Strs w bk o xs) (hne : G ≠ bk) : Strs (w.setCell ⟨G, k, none⟩ v) bk o xs := by
  intro j x hx
  rw [World.cell?_setCell_other _ _ _ _ (by intro e; cases e; exact hne rfl)]
  exact h j x hx
theorem Room.store {w : World} {G n k : Nat} {v : Value} (hr : Room w G n) : Room (w.setCell ⟨G, k, none⟩ v) G n := by
  intro j hj
  obtain ⟨⟨u, hu⟩, hf⟩ := hr j hj
  refine ⟨?_, by rw [World.frozen?_setCell]; exact hf⟩
  exact RowKit.cell?_setCell_some hu

end Go.Proofs.Qxb6612587a
