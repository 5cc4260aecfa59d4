/-
  INTS IN A ROW OF MEMORY; zzBytes (9), memberCost (10), distinctMembers (11).
-/
import Derived.Test.Qxb6609229aRows
import Derived.WalkKit
import Derived.WalkSpells
import Derived.WalkLawsBesides
import Derived.Deep.OwnRows
import Derived.Laws.IdiomStrings
namespace Go.Proofs.Qxb6609229a
open Go.RowKit

/-- The cells from ⟨bk, o⟩ on hold the ints L. -/
def Ints (w : World) (bk o : Nat) (L : List Int) : Prop := ∀ (j : Nat) (x : Int), L[j]? = some x → w.cell? ⟨bk, o + j, none⟩ = some (.int .i64 x)

theorem at_lt (L : List Int) (k : Nat) (h : k < L.length) : ∃ x, L[k]? = some x := ⟨L[k], List.getElem?_eq_getElem h⟩
theorem Ints.later {w w' : World} {bk o B : Nat} {L : List Int} (h : Ints w bk o L) (hb : Below B w w') (hB : bk < B) : Ints w' bk o L :=
  fun j x hx => (hb.cell (p := ⟨bk, o + j, none⟩) hB).trans (h j x hx)

set_option maxHeartbeats 400000 in
theorem bytes9 (p q : Option Addr) (n m c d : Nat) (w : World) (hn : n ≤ 9223372036854775807) (hm : m ≤ 9223372036854775807) :
    Calls Try.prog 9 #[.slice p n c, .slice q m d] w fun e w' => (e = .returned (.bool true) ∨ e = .returned (.bool false)) ∧ w' = w := by
  go_enter Try.func9, Try.ntmps9
  go_wp2
  all_goals go_ret
  all_goals first | exact ⟨Or.inr rfl, rfl⟩ | exact ⟨Or.inl rfl, rfl⟩

/-- What memberCost tells: no code beyond 4096, unless the answer is negative. -/
def Told (L : List Int) (v : Int) : Prop := v ≤ 16777216 ∧ (0 ≤ v → ∀ x ∈ L, x ≤ 4096)

set_option maxHeartbeats 400000 in
theorem cost10 (p : Option Addr) (bk o c n : Nat) (L : List Int) (w : World) (hn : Hid (n = L.length)) (hs : Ints w bk o L) (hp : Hid (0 < n → p = some ⟨bk, o, none⟩)) (hm : n ≤ 4096) :
    Calls Try.prog 10 #[.slice p n c] w fun e w' => (∃ v : Int, e = .returned (.int .i64 v) ∧ Told L v) ∧ w' = w := by
  go_enter Try.func10, Try.ntmps10
  go_wp2
  go_loop [3, 4] (fun t i => ∃ (k : Nat) (u : Int), k ≤ n ∧ i = .int .i64 k ∧ t = .int .i64 u ∧ 0 ≤ u ∧ u ≤ 4096 * k ∧ Hid (∀ x ∈ L.take k, x ≤ 4096)) (fun _ i => n - (intOf i).toNat)
  case atStart => exact ⟨0, 0, Nat.zero_le _, rfl, rfl, by omega, by omega, by intro x hx; simp at hx⟩
  case round =>
    obtain ⟨k, u, hk, rfl, rfl, hu0, hu1, HL⟩ := hrel
    by_cases hlt : k < n
    · obtain ⟨x, hx⟩ := at_lt L k (by rw [← hn.out]; exact hlt)
      have hcx := hs k x hx
      obtain rfl := hp.out (by omega)
      by_cases h1 : 4096 < x
      · clear hx hs
        go_wp2
        go_ret
        exact ⟨⟨_, rfl, by omega, fun h => absurd h (by omega)⟩, rfl⟩
      have HL' : Hid (∀ y ∈ L.take (k + 1), y ≤ 4096) := by
        intro y hy
        rw [List.take_add_one, hx] at hy
        rcases List.mem_append.1 hy with h | h
        · exact HL.out y h
        · simp at h; omega
      clear hx hs
      by_cases h2 : 0 < x
      · go_wp2
        go_round
        case rel => exact ⟨k + 1, _, by omega, by go_num, rfl, by omega, by omega, HL'⟩
        case measure => simp [intOf]; omega
      · go_wp2
        go_round
        case rel => exact ⟨k + 1, u, by omega, by go_num, rfl, by omega, by omega, HL'⟩
        case measure => simp [intOf]; omega
    · go_wp2
      go_ret
      refine ⟨⟨u, rfl, by omega, fun _ => ?_⟩, rfl⟩
      have := HL.out
      rw [List.take_of_length_le (by rw [← hn.out]; omega)] at this
      exact this

/-- The first n cells of block G hold bools, and may be written. -/
def Bools (w : World) (G n : Nat) : Prop := ∀ j, j < n → (∃ b, w.cell? ⟨G, j, none⟩ = some (.bool b)) ∧ w.frozen? ⟨G, j, none⟩ = false

theorem info4 : (Try.prog.info? 4).map (fun i => (i.zero, i.size, i.bytes)) = some (some (.bool false), 1, 1) := by kernel_rfl
theorem make_bools (w : World) :
    (Instr.makeSlice 39 (.int .i64 4097) (.int .i64 4097)).run Try.prog w = .ok (.slice (some ⟨w.heap.size, 0, none⟩) 4097 4097) (w.alloc (.cells (madeCells #[.bool false] 4097) 4)) :=
  run_make_row' 39 4 (.bool false) 1 Try.underlying39 info4 rfl .i64 .i64 4097 (by omega) (by omega) w
theorem bools_made (w : World) : Bools (w.alloc (.cells (madeCells #[.bool false] 4097) 4)) w.heap.size 4097 := by
  intro j hj
  refine ⟨⟨false, ?_⟩, World.frozen?_alloc_new _ _ _ _⟩
  rw [World.cell?_alloc_mark w _ 4 _ j, Array.getElem?_eq_getElem (by rw [size_madeCells]; exact hj)]
  simp [madeCells, Nat.mod_one]
theorem Bools.store {w : World} {G n k : Nat} {b : Bool} (hr : Bools w G n) : Bools (w.setCell ⟨G, k, none⟩ (.bool b)) G n := by
  intro j hj
  obtain ⟨⟨u, hu⟩, hf⟩ := hr j hj
  refine ⟨?_, by rw [World.frozen?_setCell]; exact hf⟩
  by_cases h : j = k
  · subst h; exact ⟨b, World.cell?_setCell_same _ _ _ hu⟩
  · exact ⟨u, by rw [World.cell?_setCell_other _ _ _ _ (by intro e; cases e; exact h rfl)]; exact hu⟩

set_option maxHeartbeats 1000000 in
theorem distinct11 (p : Option Addr) (bk o c n : Nat) (L : List Int) (w : World) (hn : Hid (n = L.length)) (hs : Ints w bk o L) (hp : Hid (0 < n → p = some ⟨bk, o, none⟩ ∧ bk < w.heap.size)) (hm : n ≤ 8192) :
    Calls Try.prog 11 #[.slice p n c] w fun e w' => (e = .returned (.bool true) ∨ e = .returned (.bool false)) ∧ Below w.heap.size w w' := by
  have hmk := make_bools w
  have hr3 := bools_made w
  have hb3 : Below w.heap.size w (w.alloc (.cells (madeCells #[.bool false] 4097) 4)) := (Below.refl _ w).alloc (Nat.le_refl _) _
  go_enter Try.func11, Try.ntmps11
  go_wp2_with fail
  generalize w.alloc (.cells (madeCells #[.bool false] 4097) 4) = W3 at *
  go_loopw [4, 5] (fun s i wr => ∃ (m : Nat) (b : Bool), m ≤ n ∧ s = .bool b ∧ i = .int .i64 m ∧ Bools wr w.heap.size 4097 ∧ Below w.heap.size w wr) (fun _ i _ => n - (intOf i).toNat)
  case atStart => exact ⟨0, false, Nat.zero_le _, rfl, rfl, hr3, hb3⟩
  case round =>
    clear hmk hr3 hb3
    obtain ⟨m, b, hmn, rfl, rfl, hr3, hb3⟩ := hrel
    by_cases hlt : m < n
    · obtain ⟨x, hx⟩ := at_lt L m (by rw [← hn.out]; exact hlt)
      obtain ⟨rfl, hbk⟩ := hp.out (by omega)
      have hcx : wr.cell? ⟨bk, o + m, none⟩ = some (.int .i64 x) := (hb3.cell (p := ⟨bk, o + m, none⟩) hbk).trans (hs m x hx)
      clear hx hs
      by_cases hx0 : x < 0
      · cases b
        · go_wp2_with fail
          go_roundw
          case rel => exact ⟨m + 1, true, by omega, rfl, by go_num, hr3, hb3⟩
          case measure => simp [intOf]; omega
        · go_wp2_with fail
          go_ret
          first | exact ⟨Or.inl rfl, hb3⟩ | exact ⟨Or.inr rfl, hb3⟩
      by_cases hx1 : 4096 < x
      · go_wp2_with fail
        go_ret
        first | exact ⟨Or.inl rfl, hb3⟩ | exact ⟨Or.inr rfl, hb3⟩
      obtain ⟨y, rfl⟩ := Int.eq_ofNat_of_zero_le (show 0 ≤ x by omega)
      obtain ⟨⟨u, hcu⟩, hfu⟩ := hr3 y (by omega)
      have Hr : Hid (Bools (wr.setCell ⟨w.heap.size, y, none⟩ (.bool true)) w.heap.size 4097) := hr3.store
      clear hr3
      cases u
      · go_wp2_with fail
        go_roundw
        case rel => exact ⟨m + 1, b, by omega, rfl, by go_num, Hr.out, hb3.setCell (Nat.le_refl _) _⟩
        case measure => simp [intOf]; omega
      · go_wp2_with fail
        go_ret
        first | exact ⟨Or.inl rfl, hb3⟩ | exact ⟨Or.inr rfl, hb3⟩
    · go_wp2_with fail
      go_ret
      first | exact ⟨Or.inl rfl, hb3⟩ | exact ⟨Or.inr rfl, hb3⟩

end Go.Proofs.Qxb6609229a
