/-
  THE WALK OF FnLeftByTurnsTrueOnTheLeavingDay (function 5).
-/
import Derived.Test.Qxb6612587aTime
import Derived.Deep.RegionWith
import Derived.Deep.DeepCutAuto
import Derived.Deep.QuietTactic
import Derived.BigQuiet
import Derived.WalkSmall
namespace Go.Proofs.Qxb6612587a
open Go.RowKit

set_option maxHeartbeats 400000 in
theorem bytes12 (p c k : ByteArray) (a b : Int) (w : World) (hp : p.size ≤ maxLen) (hc : c.size ≤ maxLen) (hk : k.size ≤ maxLen) :
    Calls Try.prog 12 #[.string p, .int .i64 a, .string c, .string k, .int .i64 b] w fun e w' => (e = .returned (.bool true) ∨ e = .returned (.bool false)) ∧ w' = w := by
  unfold maxLen at hp hc hk
  go_enter Try.func12, Try.ntmps12
  go_wp2
  all_goals go_ret
  all_goals first | exact ⟨Or.inr rfl, rfl⟩ | exact ⟨Or.inl rfl, rfl⟩

/-- The block B of the world w holds the cells cs. -/
def Lv (B : Nat) (cs : Array Value) (w : World) : Prop := B < w.heap.size ∧ ∀ o, w.cell? ⟨B, o, none⟩ = cs[o]?

theorem Lv.keep {B : Nat} {cs : Array Value} {w w' : World} (h : Lv B cs w) (hb : Below w.heap.size w w') : Lv B cs w' :=
  ⟨Nat.lt_of_lt_of_le h.1 hb.size, fun o => by rw [hb.cell (p := ⟨B, o, none⟩) h.1]; exact h.2 o⟩

theorem not_lt_days (a b : Int) : (!decide (b < a)) = decide (a ≤ b) := by
  rw [← decide_not]; exact decide_eq_decide.2 (by omega)
theorem turns (a b : Int) : ((decide (a ≤ b) != decide (a ≤ b + 1)) == (b + 1 == a)) = true := by
  by_cases h1 : a ≤ b
  · have h2 : a ≤ b + 1 := by omega
    have h3 : ¬ b + 1 = a := by omega
    rw [decide_eq_true h1, decide_eq_true h2, beq_eq_false_iff_ne.2 h3]; rfl
  · by_cases h2 : a ≤ b + 1
    · have h3 : b + 1 = a := by omega
      rw [decide_eq_false h1, decide_eq_true h2, beq_iff_eq.2 h3]; rfl
    · have h3 : ¬ b + 1 = a := by omega
      rw [decide_eq_false h1, decide_eq_false h2, beq_eq_false_iff_ne.2 h3]; rfl
theorem val_bool {a b : Bool} (h : a = b) : Value.bool a = .bool b := by rw [h]

/-- The six cells of a Leaver. -/
theorem Lv.six {B : Nat} {c0 c1 c2 c3 c4 c5 : Value} {w : World} (h : Lv B #[c0, c1, c2, c3, c4, c5] w) :
    w.cell? ⟨B, 0, none⟩ = some c0 ∧ w.cell? ⟨B, 1, none⟩ = some c1 ∧ w.cell? ⟨B, 2, none⟩ = some c2 ∧ w.cell? ⟨B, 3, none⟩ = some c3 ∧ w.cell? ⟨B, 4, none⟩ = some c4 ∧ w.cell? ⟨B, 5, none⟩ = some c5 :=
  ⟨h.2 0, h.2 1, h.2 2, h.2 3, h.2 4, h.2 5⟩

set_option maxRecDepth 100000 in
set_option maxHeartbeats 4000000 in
theorem left_walk (p c k : ByteArray) (a b : Int) (w : World) (hp : p.size ≤ maxLen) (hc : c.size ≤ maxLen) (hk : k.size ≤ maxLen) :
    Calls Try.prog 5 #[.string p, .int .i64 a, .string c, .string k, .int .i64 b] w fun e w' => e = .returned (.bool true) ∧ Below w.heap.size w w' := by
  unfold maxLen at hp hc hk
  go_enter Try.func5, Try.ntmps5
  go_wp2_with fail
  refine (bytes12 p c k a b w (by unfold maxLen; omega) (by unfold maxLen; omega) (by unfold maxLen; omega)).mono ?_
  rintro e w' ⟨rfl | rfl, rfl⟩
  case inr =>
    go_wp2_with fail
    go_ret
    exact ⟨rfl, Below.refl _ _⟩
  case inl =>
    go_wp2_with fail
    all_goals first | (go_ret; exact ⟨rfl, Below.refl _ _⟩) | skip
    refine (days13 a _ (by omega) (by omega)).mono ?_
    rintro e w1 ⟨rfl, hb1⟩
    go_upto_region 10 with fail
    have hL : Lv w1.heap.size #[.string p, .int .u64 0, .int .i64 (86400 * a), .pointer none, .string c, .string k] (w1.alloc (.cells #[.string p, .int .u64 0, .int .i64 (86400 * a), .pointer none, .string c, .string k] 38)) :=
      ⟨by simp, fun o => World.cell?_alloc_mark w1 _ 38 _ o⟩
    have hB : Below w'.heap.size w' (w1.alloc (.cells #[.string p, .int .u64 0, .int .i64 (86400 * a), .pointer none, .string c, .string k] 38)) := hb1.alloc hb1.size _
    clear hb1
    generalize (w1.alloc (.cells #[.string p, .int .u64 0, .int .i64 (86400 * a), .pointer none, .string c, .string k] 38)) = W at *
    generalize w1.heap.size = B at *
    have hw1 : IntKind.i64.wrap (b + 1) = b + 1 := IntWalk.i64_in _ (by omega)
    have hw2 : IntKind.i64.wrap (a - 1) = a - 1 := IntWalk.i64_in _ (by omega)
    go_cut [12] (fun v wx => v = .bool (decide (a ≤ b)) ∧ Lv B #[.string p, .int .u64 0, .int .i64 (86400 * a), .pointer none, .string c, .string k] wx ∧ Below w'.heap.size w' wx)
    case first =>
      obtain ⟨x0, x1, x2, x3, x4, x5⟩ := hL.six
      go_region_with (first
        | (go_at_call 13; refine (days13 (b) _ (by omega) (by omega)).mono ?_; rintro e w3 ⟨rfl, hb3⟩; have hl3 := Lv.keep (w := W.drew) hL hb3; obtain ⟨y0, y1, y2, y3, y4, y5⟩ := hl3.six)
        | (go_at_call 14; refine (left14 p c k (86400 * a) (86400 * (b)) _).mono ?_; rintro e w4 ⟨rfl, hb4⟩; have hl4 := hl3.keep hb4))
      all_goals
        go_wp2_with fail
        go_meet
        case rel => exact ⟨val_bool (by first | rfl | exact not_lt_days _ _), hl4, (hB.drew.trans (hb3.mono hB.size)).trans (hb4.mono (Nat.le_trans hB.size hb3.size))⟩
    case rest =>
      obtain ⟨rfl, hL, hB⟩ := hcut
      go_upto_region 11 with fail
      go_cut [13] (fun v wx => v = .bool (decide (a ≤ b + 1)) ∧ Lv B #[.string p, .int .u64 0, .int .i64 (86400 * a), .pointer none, .string c, .string k] wx ∧ Below w'.heap.size w' wx)
      case first =>
        obtain ⟨x0, x1, x2, x3, x4, x5⟩ := hL.six
        go_region_with (first
          | (go_at_call 13; refine (days13 (b + 1) _ (by omega) (by omega)).mono ?_; rintro e w3 ⟨rfl, hb3⟩; have hl3 := Lv.keep (w := wc.drew) hL hb3; obtain ⟨y0, y1, y2, y3, y4, y5⟩ := hl3.six)
          | (go_at_call 14; refine (left14 p c k (86400 * a) (86400 * (b + 1)) _).mono ?_; rintro e w4 ⟨rfl, hb4⟩; have hl4 := hl3.keep hb4))
        all_goals
          go_wp2_with fail
          go_meet
          case rel => exact ⟨val_bool (by first | rfl | exact not_lt_days _ _), hl4, (hB.drew.trans (hb3.mono hB.size)).trans (hb4.mono (Nat.le_trans hB.size hb3.size))⟩
      case rest =>
        obtain ⟨rfl, hL, hB⟩ := hcut
        go_upto_region 12 with fail
        go_cut [14] (fun v wx => v = .bool (true) ∧ Lv B #[.string p, .int .u64 0, .int .i64 (86400 * a), .pointer none, .string c, .string k] wx ∧ Below w'.heap.size w' wx)
        case first =>
          obtain ⟨x0, x1, x2, x3, x4, x5⟩ := hL.six
          go_region_with (first
            | (go_at_call 13; refine (days13 (a) _ (by omega) (by omega)).mono ?_; rintro e w3 ⟨rfl, hb3⟩; have hl3 := Lv.keep (w := wc.drew) hL hb3; obtain ⟨y0, y1, y2, y3, y4, y5⟩ := hl3.six)
            | (go_at_call 14; refine (left14 p c k (86400 * a) (86400 * (a)) _).mono ?_; rintro e w4 ⟨rfl, hb4⟩; have hl4 := hl3.keep hb4))
          all_goals
            go_wp2_with fail
            go_meet
            case rel => exact ⟨val_bool (by first | rfl | (simp; done)), hl4, (hB.drew.trans (hb3.mono hB.size)).trans (hb4.mono (Nat.le_trans hB.size hb3.size))⟩
        case rest =>
          obtain ⟨rfl, hL, hB⟩ := hcut
          go_upto_region 13 with fail
          go_cut [15] (fun v wx => v = .bool true ∧ Below w'.heap.size w' wx)
          case first =>
            obtain ⟨x0, x1, x2, x3, x4, x5⟩ := hL.six
            by_cases hz : a = 0
            · have hz1 : (a == 0) = true := by simp [hz]
              clear hz
              go_quiet (fail)
              go_wp2_with fail
              go_meet
              case rel => exact ⟨rfl, below_drewN hB _⟩
            · have hz1 : (a == 0) = false := by simp [hz]
              go_region_with (first
                | (go_at_call 13; refine (days13 (a - 1) _ (by omega) (by omega)).mono ?_; rintro e w3 ⟨rfl, hb3⟩; have hl3 := Lv.keep (w := wc.drew) hL hb3; obtain ⟨y0, y1, y2, y3, y4, y5⟩ := hl3.six)
                | (go_at_call 14; refine (left14 p c k (86400 * a) (86400 * (a - 1)) _).mono ?_; rintro e w4 ⟨rfl, hb4⟩))
              all_goals
                go_wp2_with fail
                go_meet
                case rel => exact ⟨val_bool (by first | rfl | (simp; done) | (simp; omega)), (hB.drew.trans (hb3.mono hB.size)).trans (hb4.mono (Nat.le_trans hB.size hb3.size))⟩
          case rest =>
            obtain ⟨rfl, hB⟩ := hcut
            go_wp2_with fail
            go_ret
            exact ⟨ret_bool (turns _ _), hB⟩

end Go.Proofs.Qxb6612587a
