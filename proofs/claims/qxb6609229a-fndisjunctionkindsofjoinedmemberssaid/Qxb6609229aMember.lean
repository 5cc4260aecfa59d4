/-
  zzMember (15), the two Kinds (36, 41).
-/
import Derived.Test.Qxb6609229aBase
namespace Go.Proofs.Qxb6609229a
open Go.RowKit

/-- The first n cells of block G are there, and may be written. -/
def Room (w : World) (G n : Nat) : Prop := G < w.heap.size ∧ ∀ j, j < n → (∃ v, w.cell? ⟨G, j, none⟩ = some v) ∧ w.frozen? ⟨G, j, none⟩ = false
theorem Room.store {w : World} {G n k : Nat} {v : Value} (hr : Room w G n) : Room (w.setCell ⟨G, k, none⟩ v) G n := by
  refine ⟨by rw [World.size_setCell]; exact hr.1, fun j hj => ?_⟩
  obtain ⟨⟨u, hu⟩, hf⟩ := hr.2 j hj
  refine ⟨?_, by rw [World.frozen?_setCell]; exact hf⟩
  exact RowKit.cell?_setCell_some hu
theorem Room.later {w w' : World} {G n : Nat} (hr : Room w G n) (hb : Below w.heap.size w w') : Room w' G n := by
  refine ⟨Nat.lt_of_lt_of_le hr.1 hb.size, fun j hj => ?_⟩
  obtain ⟨⟨u, hu⟩, hf⟩ := hr.2 j hj
  exact ⟨⟨u, (hb.cell (p := ⟨G, j, none⟩) hr.1).trans hu⟩, (hb.frozen (p := ⟨G, j, none⟩) hr.1).trans hf⟩
theorem room_made (w : World) (n : Nat) : Room (w.alloc (.cells (madeCells #[.nilIface] n) 51)) w.heap.size n := by
  refine ⟨by simp, fun j hj => ⟨?_, World.frozen?_alloc_new _ _ _ _⟩⟩
  rw [World.cell?_alloc_mark w _ 51 _ j]
  exact ⟨_, Array.getElem?_eq_getElem (by rw [size_madeCells]; exact hj)⟩
theorem info51 : (Try.prog.info? 51).map (fun i => (i.zero, i.size, i.bytes)) = some (some .nilIface, 1, 16) := by kernel_rfl
theorem make_vals (n : Nat) (w : World) (hn : n ≤ 4096) :
    (Instr.makeSlice 40 (.int .i64 (n : Int)) (.int .i64 (n : Int))).run Try.prog w = .ok (.slice (some ⟨w.heap.size, 0, none⟩) n n) (w.alloc (.cells (madeCells #[.nilIface] n) 51)) :=
  run_make_row' 40 51 .nilIface 16 Try.underlying40 info51 rfl .i64 .i64 n (by omega) (by omega) w

/-- A member of code c: the empty struct's pointer, or a list's, in an interface value. -/
def IsMem (c : Int) (v : Value) : Prop := ∃ q, v = .iface (if c < 0 then 53 else 66) (.pointer (some q))

set_option maxRecDepth 100000 in
set_option maxHeartbeats 1000000 in
theorem member_neg (c : Int) (w : World) (h : c < 0) :
    Calls Try.prog 15 #[.int .i64 c] w fun e w' => (∃ q, e = .returned (.iface 53 (.pointer (some q)))) ∧ Below w.heap.size w w' := by
  go_enter Try.func15, Try.ntmps15
  go_wp2
  go_ret
  exact ⟨⟨_, rfl⟩, (Below.refl _ _).alloc (Nat.le_refl _) _⟩

set_option maxRecDepth 100000 in
set_option maxHeartbeats 1000000 in
theorem member_pos (n : Nat) (w : World) (h : n ≤ 4096) :
    Calls Try.prog 15 #[.int .i64 (n : Int)] w fun e w' => (∃ q, e = .returned (.iface 66 (.pointer (some q)))) ∧ Below w.heap.size w w' := by
  have hmk := make_vals n w h
  have hr3 := room_made w n
  have hb3 : Below w.heap.size w (w.alloc (.cells (madeCells #[.nilIface] n) 51)) := (Below.refl _ w).alloc (Nat.le_refl _) _
  go_enter Try.func15, Try.ntmps15
  go_wp2_with fail
  generalize w.alloc (.cells (madeCells #[.nilIface] n) 51) = W3 at *
  go_loopw [14] (fun i wr => ∃ m : Nat, m ≤ n ∧ i = .int .i64 m ∧ Room wr w.heap.size n ∧ Below w.heap.size w wr) (fun i _ => n - (intOf i).toNat)
  case atStart => exact ⟨0, Nat.zero_le _, rfl, hr3, hb3⟩
  case round =>
    clear hmk hr3 hb3
    obtain ⟨m, hm, rfl, hr3, hb3⟩ := hrel
    have hlt0 := hr3.1
    by_cases hlt : m < n
    · obtain ⟨⟨u, hcu⟩, hfu⟩ := hr3.2 m hlt
      have Hr : Hid (∀ v, Room (wr.setCell ⟨w.heap.size, m, none⟩ v) w.heap.size n) := fun v => hr3.store
      clear hr3
      go_wp2_with fail
      go_roundw
      case rel => exact ⟨m + 1, by omega, by go_num, (Hr.out _).later ((Below.refl _ _).alloc (Nat.le_refl _) _), (hb3.setCell (Nat.le_refl _) _).alloc (by simp; omega) _⟩
      case measure => simp [intOf]; omega
    · go_wp2_with fail
      go_ret
      exact ⟨⟨_, rfl⟩, hb3.alloc hb3.size _⟩

theorem member15 (c : Int) (w : World) (h : c ≤ 4096) :
    Calls Try.prog 15 #[.int .i64 c] w fun e w' => (∃ q, e = .returned (.iface (if c < 0 then 53 else 66) (.pointer (some q)))) ∧ Below w.heap.size w w' := by
  by_cases h0 : c < 0
  · rw [if_pos h0]; exact member_neg c w h0
  · rw [if_neg h0]
    obtain ⟨n, rfl⟩ := Int.eq_ofNat_of_zero_le (show 0 ≤ c by omega)
    exact member_pos n w (by omega)

set_option maxHeartbeats 400000 in
theorem kinds36 (p : Option Addr) (w : World) : Calls Try.prog 36 #[.pointer p] w fun e w' => e = .returned (.int .u8 32) ∧ w' = w := by
  go_enter Try.func36, Try.ntmps36
  go_wp2
  go_ret
  exact ⟨rfl, rfl⟩
set_option maxHeartbeats 400000 in
theorem kinds41 (p : Option Addr) (w : World) : Calls Try.prog 41 #[.pointer p] w fun e w' => e = .returned (.int .u8 64) ∧ w' = w := by
  go_enter Try.func41, Try.ntmps41
  go_wp2
  go_ret
  exact ⟨rfl, rfl⟩

end Go.Proofs.Qxb6609229a
