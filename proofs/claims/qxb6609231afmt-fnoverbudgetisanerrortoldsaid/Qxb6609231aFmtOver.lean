/-
  overBudget (8), ZZOverBudget (7), ZZNewDecoder (6), zzBytes (4), zzClone (5).
-/
import Derived.Test.Qxb6609231aFmtErr
import Derived.Deep.RegionWith
import Derived.Deep.OwnRows
import Derived.Laws.IdiomStrings
import Derived.Lib.SliceRun
namespace Go.Proofs.Qxb6609231aFmt
open Go.RowKit Go.Extern.Stop Go.Stop Go.Extern

theorem cell_new (w : World) (C : Array Value) (t : TypeId) (j : Nat) (v : Value) (h : C[j]? = some v) : ((w.alloc (.cells C t)).drew).cell? ⟨w.heap.size, j, none⟩ = some v :=
  (World.cell?_alloc_mark w C t _ j).trans h

set_option maxHeartbeats 1000000 in
theorem over8 (F : Interp) (D G : Nat) (left size off n : Int) (what : ByteArray) (w : World) (hF : F.answers w.tape)
    (hd2 : w.cell? ⟨D, 2, none⟩ = some (.pointer (some ⟨G, 0, none⟩)))
    (hg0 : w.cell? ⟨G, 0, none⟩ = some (.int .i64 left)) (hg1 : w.cell? ⟨G, 1, none⟩ = some (.int .i64 size)) :
    Calls Tryf.prog 8 #[.pointer (some ⟨D, 0, none⟩), .int .i64 off, .int .i64 n, .string what] w fun e w' => (∃ q, e = .returned (.iface 42 (.pointer (some q)))) ∧ Below w.heap.size w w' := by
  go_enter Tryf.func8, Tryf.ntmps8
  go_wp2_with fail
  go_region_with (go_at_call 9; refine (errorAt9 F _ off n left size _ what w.heap.size _ ?_ ?_ ?_ ?_ ?_ ?_).mono ?_; exact hF; kernel_rfl; exact cell_new w _ 20 0 _ rfl; exact cell_new w _ 20 1 _ rfl; exact cell_new w _ 20 2 _ rfl; exact cell_new w _ 20 3 _ rfl; rintro e w1 ⟨⟨q, rfl⟩, hb⟩)
  all_goals
    go_wp2
    go_ret
    exact ⟨⟨_, rfl⟩, (((Below.refl _ w).alloc (Nat.le_refl _) _).drew).trans (hb.mono (by simp))⟩

set_option maxHeartbeats 400000 in
theorem over7 (F : Interp) (D G : Nat) (left size off n : Int) (what : ByteArray) (w : World) (hF : F.answers w.tape)
    (hd2 : w.cell? ⟨D, 2, none⟩ = some (.pointer (some ⟨G, 0, none⟩)))
    (hg0 : w.cell? ⟨G, 0, none⟩ = some (.int .i64 left)) (hg1 : w.cell? ⟨G, 1, none⟩ = some (.int .i64 size)) :
    Calls Tryf.prog 7 #[.pointer (some ⟨D, 0, none⟩), .int .i64 off, .int .i64 n, .string what] w fun e w' => (∃ q, e = .returned (.iface 42 (.pointer (some q)))) ∧ Below w.heap.size w w' := by
  go_enter Tryf.func7, Tryf.ntmps7
  go_wp2_with fail
  refine (over8 F D G left size off n what w hF hd2 hg0 hg1).mono ?_
  rintro e w1 ⟨⟨q, rfl⟩, hb⟩
  go_wp2_with fail
  go_ret
  exact ⟨⟨_, rfl⟩, hb⟩

set_option maxHeartbeats 400000 in
theorem dec6 (sl : Option Addr) (l c : Nat) (dOff left size : Int) (w : World) :
    Calls Tryf.prog 6 #[.slice sl l c, .int .i64 dOff, .int .i64 left, .int .i64 size] w fun e w' => e = .returned (.pointer (some ⟨w.heap.size + 1, 0, none⟩)) ∧
      w' = (w.alloc (.cells #[.int .i64 left, .int .i64 size] 32)).alloc (.cells #[.slice sl l c, .int .i64 dOff, .pointer (some ⟨w.heap.size, 0, none⟩)] 34) := by
  go_enter Tryf.func6, Tryf.ntmps6
  go_wp2
  go_ret
  exact ⟨rfl, rfl⟩

set_option maxHeartbeats 400000 in
theorem bytes4 (sl : Option Addr) (l c : Nat) (a1 a2 a3 a4 a5 : Int) (s : ByteArray) (w : World) (hl : l ≤ 9223372036854775807) (hs : s.size ≤ 9223372036854775807) :
    Calls Tryf.prog 4 #[.slice sl l c, .int .i64 a1, .int .i64 a2, .int .i64 a3, .int .i64 a4, .int .i64 a5, .string s] w fun e w' => (e = .returned (.bool true) ∨ e = .returned (.bool false)) ∧ w' = w := by
  go_enter Tryf.func4, Tryf.ntmps4
  go_wp2
  all_goals go_ret
  all_goals first | exact ⟨Or.inr rfl, rfl⟩ | exact ⟨Or.inl rfl, rfl⟩

/-- The first n cells of block G are there, and may be written. -/
def Room (w : World) (G n : Nat) : Prop := ∀ j, j < n → (∃ v, w.cell? ⟨G, j, none⟩ = some v) ∧ w.frozen? ⟨G, j, none⟩ = false
theorem Room.store {w : World} {G n k : Nat} {v : Value} (hr : Room w G n) : Room (w.setCell ⟨G, k, none⟩ v) G n := by
  intro j hj
  obtain ⟨⟨u, hu⟩, hf⟩ := hr j hj
  refine ⟨?_, by rw [World.frozen?_setCell]; exact hf⟩
  exact RowKit.cell?_setCell_some hu
theorem room_made (w : World) (n : Nat) : Room (w.alloc (.cells (madeCells #[.int .u8 0] n) 5)) w.heap.size n := by
  intro j hj
  refine ⟨?_, World.frozen?_alloc_new _ _ _ _⟩
  rw [World.cell?_alloc_mark w _ 5 _ j]
  exact ⟨_, Array.getElem?_eq_getElem (by rw [size_madeCells]; exact hj)⟩
theorem info5 : (Tryf.prog.info? 5).map (fun i => (i.zero, i.size, i.bytes)) = some (some (.int .u8 0), 1, 1) := by kernel_rfl
theorem make_run (n : Nat) (w : World) (hn : n ≤ 1048576) :
    (Instr.makeSlice 22 (.int .i64 (n : Int)) (.int .i64 (n : Int))).run Tryf.prog w = .ok (.slice (some ⟨w.heap.size, 0, none⟩) n n) (w.alloc (.cells (madeCells #[.int .u8 0] n) 5)) :=
  run_make_row' 22 5 (.int .u8 0) 1 Tryf.underlying22 info5 rfl .i64 .i64 n (by omega) (by omega) w

theorem eql_nil (a : Option Addr) (n c : Nat) (w : World) : (binOp .eql 22 (.slice a n c) (.slice none 0 0)).run Tryf.prog w = .ok (.bool a.isNone) w :=
  Lib.run_eql_slice_nil w 22 5 a n c 0 0 Tryf.underlying22
attribute [local go_sem] eql_nil

set_option maxHeartbeats 400000 in
theorem clone_nil (l c : Nat) (w : World) :
    Calls Tryf.prog 5 #[.slice none l c] w fun e w' => (∃ p m d, e = .returned (.slice p m d)) ∧ Below w.heap.size w w' := by
  go_enter Tryf.func5, Tryf.ntmps5
  go_wp2
  go_ret
  exact ⟨⟨_, _, _, rfl⟩, Below.refl _ _⟩

set_option maxHeartbeats 400000 in
theorem clone_some (a : Addr) (bk o n c : Nat) (zs : Nat → Int) (w : World) (hn : n ≤ 1048576) (ha : Hid (0 < n → a = ⟨bk, o, none⟩ ∧ bk < w.heap.size)) (hc : Hid (∀ j, j < n → w.cell? ⟨bk, o + j, none⟩ = some (.int .u8 (zs j)))) :
    Calls Tryf.prog 5 #[.slice (some a) n c] w fun e w' => (∃ p m d, e = .returned (.slice p m d)) ∧ Below w.heap.size w w' := by
  have hmk := make_run n w hn
  have hr3 := room_made w n
  have hb3 : Below w.heap.size w (w.alloc (.cells (madeCells #[.int .u8 0] n) 5)) := (Below.refl _ w).alloc (Nat.le_refl _) _
  go_enter Tryf.func5, Tryf.ntmps5
  go_wp2_with fail
  generalize w.alloc (.cells (madeCells #[.int .u8 0] n) 5) = W3 at *
  go_loopw [4] (fun i wr => ∃ m : Nat, m ≤ n ∧ i = .int .i64 m ∧ Room wr w.heap.size n ∧ Below w.heap.size w wr) (fun i _ => n - (intOf i).toNat)
  case atStart => exact ⟨0, Nat.zero_le _, rfl, hr3, hb3⟩
  case round =>
    clear hmk hr3 hb3
    obtain ⟨m, hm, rfl, hr3, hb3⟩ := hrel
    by_cases hlt : m < n
    · obtain ⟨rfl, hbk⟩ := ha.out (by omega)
      have hcx : wr.cell? ⟨bk, o + m, none⟩ = some (.int .u8 (zs m)) := (hb3.cell (p := ⟨bk, o + m, none⟩) hbk).trans (hc.out m hlt)
      obtain ⟨⟨u, hcu⟩, hfu⟩ := hr3 m hlt
      have Hr : Hid (Room (wr.setCell ⟨w.heap.size, m, none⟩ (.int .u8 (zs m))) w.heap.size n) := hr3.store
      clear hr3
      go_wp2_with fail
      go_roundw
      case rel => exact ⟨m + 1, by omega, by go_num, Hr.out, hb3.setCell (Nat.le_refl _) _⟩
      case measure => simp [intOf]; omega
    · go_wp2_with fail
      go_ret
      exact ⟨⟨_, _, _, rfl⟩, hb3⟩

end Go.Proofs.Qxb6609231aFmt
