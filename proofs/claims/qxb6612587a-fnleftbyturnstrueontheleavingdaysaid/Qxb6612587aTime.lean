/-
  PACKAGE time AND date, as the law FnLeftByTurnsTrueOnTheLeavingDay comes to them: Add (16), After (23), date.After (17), ZZfromDays (13), LeftBy (14).
-/
import Derived.Test.Qxb6612587aRows
import Derived.WalkKit
import Derived.WalkSpells
import Derived.WalkLawsBesides
namespace Go.Proofs.Qxb6612587a
open Go.RowKit

theorem band1 : bits BinOp.and IntKind.u64 0 1073741823 = 0 := by decide +kernel
theorem band2 : bits BinOp.and IntKind.u64 0 9223372036854775808 = 0 := by decide +kernel
theorem band3 : bits BinOp.and IntKind.u64 0 0 = 0 := by decide +kernel
theorem bor0 : bits BinOp.or IntKind.u64 0 0 = 0 := by decide +kernel
theorem bnot0 : bits BinOp.andNot IntKind.u64 0 1073741823 = 0 := by decide +kernel
attribute [local go_sem] band1 band2 band3 bor0 bnot0

set_option maxHeartbeats 1000000 in
theorem add16 (s : Int) (w : World) (h0 : 0 ≤ s) (h1 : s ≤ 9223372036) :
    Calls Try.prog 16 #[.agg #[.int .u64 0, .int .i64 0, .pointer none], .int .i64 (1000000000 * s)] w fun e w' => e = .returned (.agg #[.int .u64 0, .int .i64 s, .pointer none]) ∧ Below w.heap.size w w' := by
  go_enter Try.func16, Try.ntmps16
  go_wp2
  go_end0
  go_wp2
  exact bodyPost_ret (v := .agg #[.int .u64 0, .int .i64 s, .pointer none]) (by simp [results, Try.results16, go_sem]) rfl ⟨rfl, ((Below.refl _ _).alloc (Nat.le_refl _) _).alloc (by simp) _⟩

theorem ret_bool {a b : Bool} (h : a = b) : Ending.returned (.bool a) = .returned (.bool b) := by rw [h]

set_option maxHeartbeats 1000000 in
theorem after23 (a b : Int) (w : World) :
    Calls Try.prog 23 #[.agg #[.int .u64 0, .int .i64 a, .pointer none], .agg #[.int .u64 0, .int .i64 b, .pointer none]] w fun e w' => e = .returned (.bool (decide (b < a))) ∧ Below w.heap.size w w' := by
  go_enter Try.func23, Try.ntmps23
  go_wp2
  all_goals go_ret
  all_goals exact ⟨ret_bool (by first | rfl | (simp; done) | (simp; omega)), ((Below.refl _ _).alloc (Nat.le_refl _) _).alloc (by simp) _⟩

set_option maxHeartbeats 1000000 in
theorem after17 (a b : Int) (w : World) :
    Calls Try.prog 17 #[.agg #[.int .u64 0, .int .i64 a, .pointer none], .agg #[.int .u64 0, .int .i64 b, .pointer none]] w fun e w' => e = .returned (.bool (decide (b < a))) ∧ Below w.heap.size w w' := by
  go_enter Try.func17, Try.ntmps17
  go_wp2_with (first | (go_at_call 23; refine (after23 a b _).mono ?_; rintro e w' ⟨rfl, hb⟩))
  go_ret
  exact ⟨rfl, (((Below.refl _ _).alloc (Nat.le_refl _) _).alloc (by simp) _).trans (hb.mono (by simp; omega))⟩

set_option maxHeartbeats 1000000 in
theorem left14 (p c k : ByteArray) (a b : Int) (w : World) :
    Calls Try.prog 14 #[.agg #[.string p, .int .u64 0, .int .i64 a, .pointer none, .string c, .string k], .agg #[.int .u64 0, .int .i64 b, .pointer none]] w fun e w' => e = .returned (.bool (!decide (b < a))) ∧ Below w.heap.size w w' := by
  go_enter Try.func14, Try.ntmps14
  go_wp2_with (first | (go_at_call 17; refine (after17 a b _).mono ?_; rintro e w' ⟨rfl, hb⟩))
  go_ret
  exact ⟨rfl, (((Below.refl _ _).alloc (Nat.le_refl _) _).alloc (by simp) _).trans (hb.mono (by simp; omega))⟩

theorem bcell {W w1 : World} (hb : Below W.heap.size W w1) : (∀ b o, b < W.heap.size → w1.cell? ⟨b, o, none⟩ = W.cell? ⟨b, o, none⟩) ∧ (∀ b o, b < W.heap.size → w1.frozen? ⟨b, o, none⟩ = W.frozen? ⟨b, o, none⟩) :=
  ⟨fun b o h => hb.cell (p := ⟨b, o, none⟩) h, fun b o h => hb.frozen (p := ⟨b, o, none⟩) h⟩

set_option maxHeartbeats 1000000 in
theorem days13 (d : Int) (w : World) (h0 : 0 ≤ d) (h1 : d ≤ 106751) :
    Calls Try.prog 13 #[.int .i64 d] w fun e w' => e = .returned (.agg #[.int .u64 0, .int .i64 (86400 * d), .pointer none]) ∧ Below w.heap.size w w' := by
  go_enter Try.func13, Try.ntmps13
  go_wp2_with fail
  rw [show d * 24 * 3600000000000 = 1000000000 * (86400 * d) from by omega]
  refine (add16 (86400 * d) _ (by omega) (by omega)).mono ?_
  rintro e w1 ⟨rfl, hb⟩
  obtain ⟨hc, hf⟩ := bcell hb
  have hz : w.heap.size < w1.heap.size := by have := hb.size; simp at this; omega
  go_wp2_with fail
  exact bodyPost_ret (v := .agg #[.int .u64 0, .int .i64 (86400 * d), .pointer none]) (by simp [results, Try.results13, go_sem, hc]) rfl
    ⟨rfl, (((((Below.refl _ _).alloc (Nat.le_refl _) _).trans (hb.mono (by simp))).setCell (Nat.le_refl _) _).setCell (Nat.le_refl _) _).setCell (Nat.le_refl _) _⟩

end Go.Proofs.Qxb6612587a
