/-
  heldTokens (53), (*path).start (60), slices.Clone at []recordedBlock (61).
-/
import Derived.Test.Qxb6609224aRel
namespace Go.Proofs.Qxb6609224a
open Go.RowKit Go.Maps

/-- The tokens up to block j. -/
def endOf (bl : List (Int × Int × Int)) (j : Nat) : Int := ((bl[j]?).getD (0, 0, 0)).2.1
def tokens (bl : List (Int × Int × Int)) (ss : List Int) (i : Nat) : Int := if ss.length = 0 then 0 else if (i : Int) ≤ hd ss then endOf bl i else endOf bl (hd ss).toNat

section
variable {Z : World} {B : Nat} {K : List (Nat × Array Value × TypeId)} {R M P : Nat} {c : Int} {w : World} {t e : Int} {sp : Nat} {lf : Int} {nl : Nat} {lv : List Value} {bl : List (Int × Int × Int)} {ss : List Int} {D : DataW Unit} {nm : Nat}

theorem end_cell {gb cap : Nat} (ho : w.ownsRow B 86 4 (.slice (some ⟨gb, 0, none⟩) bl.length cap) bl.length (flat bl)) (j : Nat) (hj : j < bl.length) : w.cell? ⟨gb, j * 4 + 1, none⟩ = some (.int .i64 (endOf bl j)) := by
  obtain ⟨x, hx⟩ : ∃ x, bl[j]? = some x := ⟨_, List.getElem?_eq_getElem hj⟩
  rw [(blk_cells ho j x hx).2.1]
  unfold endOf
  rw [hx]
  rfl

set_option maxRecDepth 100000 in
set_option maxHeartbeats 2000000 in
theorem start60 (vb vs vl vsp : Value) (h : StAt Z B K R M P c w t e sp lf nl lv bl ss D nm vb vs vl vsp) (m : Nat) (hm : m ≤ bl.length) (hl : bl.length ≤ 65536) :
    Calls Try.prog 60 #[.pointer (some ⟨P, 0, none⟩), .int .i64 (m : Int)] w fun x w' => x = .returned (.int .i64 (if m = 0 then 0 else endOf bl (m - 1))) ∧ w' = w := by
  by_cases h0 : m = 0
  · subst h0
    have c0 := h.p0
    clear h
    go_enter Try.func60, Try.ntmps60
    go_wp2_with fail
    go_ret
    exact ⟨rfl, rfl⟩
  · rw [if_neg h0]
    obtain ⟨gb, cap, rfl, _, _⟩ := h.ob.form (by omega)
    have c2 := h.p2
    have ce := end_cell h.ob (m - 1) (by omega)
    generalize endOf bl (m - 1) = en at *
    obtain ⟨p, hp⟩ : ∃ p, m - 1 = p := ⟨_, rfl⟩
    rw [hp] at ce
    have e1 : IntKind.i64.wrap ((m : Int) - 1) = (p : Int) := by rw [IntWalk.i64_in _ (by omega)]; omega
    have e2 : (m : Int) - 1 = (p : Int) := by omega
    have hpb : p < bl.length := by omega
    have hm0 : 0 < m := by omega
    clear h hp h0
    generalize bl.length = n at *
    go_enter Try.func60, Try.ntmps60
    go_wp2_with fail
    go_ret
    exact ⟨rfl, rfl⟩

set_option maxRecDepth 100000 in
set_option maxHeartbeats 2000000 in
theorem held53 (vb vs vl vsp : Value) (h : StAt Z B K R M P c w t e sp lf nl lv bl ss D nm vb vs vl vsp) (i : Nat) (hi : i < bl.length) (hl : bl.length ≤ 65536) (hs : ss.length ≤ 65536) (hh : 0 < ss.length → 0 ≤ hd ss ∧ hd ss < bl.length) :
    Calls Try.prog 53 #[.agg #[.pointer (some ⟨P, 0, none⟩), .int .i64 (i : Int)]] w fun x w' => x = .returned (.int .i64 (tokens bl ss i)) ∧ Below w.heap.size w w' := by
  have hb0 := below_alloc w (.cells #[.pointer (some ⟨P, 0, none⟩), .int .i64 (i : Int)] 88)
  have h1 := h.later hb0
  have c0 := h1.p0
  have c1 := h1.p1
  have c3 := h1.p3
  have c2 := h1.p2
  obtain ⟨gb, cb, rfl, _, _⟩ := h.ob.form (by omega)
  have hPne : P ≠ w.heap.size := by have := h.ltP; omega
  have d0 : (w.alloc (.cells #[.pointer (some ⟨P, 0, none⟩), .int .i64 (i : Int)] 88)).cell? ⟨w.heap.size, 0, none⟩ = some (.pointer (some ⟨P, 0, none⟩)) := World.cell?_alloc_mark w _ 88 _ 0
  have d1 : (w.alloc (.cells #[.pointer (some ⟨P, 0, none⟩), .int .i64 (i : Int)] 88)).cell? ⟨w.heap.size, 1, none⟩ = some (.int .i64 (i : Int)) := World.cell?_alloc_mark w _ 88 _ 1
  by_cases h0 : ss.length = 0
  · obtain ⟨a, cap, rfl⟩ : ∃ a cap, vs = .slice a 0 cap := by
      rcases h.os.2 with ⟨e, _⟩ | ⟨g, cap, cur, e, _⟩
      · exact ⟨none, 0, e⟩
      · exact ⟨_, cap, by rw [e, h0]⟩
    have ht : tokens bl ss i = 0 := by unfold tokens; rw [if_pos h0]
    rw [ht]
    clear h1 h ht
    go_enter Try.func53, Try.ntmps53
    go_wp2_with fail
    generalize w.alloc (.cells #[.pointer (some ⟨P, 0, none⟩), .int .i64 (i : Int)] 88) = W at *
    go_quiet (fail)
    go_wp2_with fail
    go_loopw [3, 4] (fun p i' wr => (p = .pointer (some ⟨P, 0, none⟩) ∧ i' = .int .i64 (i : Int) ∧ ∃ q, wr = W.drewN q) ∨ (p = .pointer none ∧ ∃ q, wr = W.drewN q)) (fun p _ _ => isPtr p)
    case atStart => exact Or.inl ⟨rfl, rfl, _, rfl⟩
    case round =>
      rcases hrel with ⟨rfl, rfl, q, rfl⟩ | ⟨rfl, q, rfl⟩
      · go_wp2_with fail
        go_quiet (fail)
        go_wp2_with fail
        go_roundw
        case rel => exact Or.inr ⟨rfl, _, by first | rfl | (simp; rfl)⟩
        case measure => simp [isPtr]
      · go_wp2_with fail
        go_ret
        exact ⟨rfl, below_drewN hb0 _⟩
  · obtain ⟨gs, cs, rfl, _, _⟩ := h.os.form (by omega)
    have cl := stop_cell h1.os _ _ (hd_last (ss := ss) (by omega))
    obtain ⟨hh0, hh1⟩ := hh (by omega)
    obtain ⟨y, hy⟩ : ∃ y : Nat, hd ss = (y : Int) := ⟨(hd ss).toNat, by omega⟩
    have ci := end_cell h1.ob i (by omega)
    have cy := end_cell h1.ob y (by omega)
    have ht : tokens bl ss i = if (i : Int) ≤ (y : Int) then endOf bl i else endOf bl y := by
      unfold tokens
      rw [if_neg h0, hy]
      simp
    rw [ht]
    rw [hy] at cl hh1
    obtain ⟨p, hp⟩ : ∃ p, ss.length - 1 = p := ⟨_, rfl⟩
    rw [hp] at cl
    obtain ⟨n, hn⟩ : ∃ n, ss.length = n := ⟨_, rfl⟩
    rw [hn] at c3 hs
    have e1 : IntKind.i64.wrap ((n : Int) - 1) = (p : Int) := by rw [IntWalk.i64_in _ (by omega)]; omega
    have e2 : (n : Int) - 1 = (p : Int) := by omega
    have hpb : p < n := by omega
    have hn0 : 0 < n := by omega
    have hpb2 : p ≤ 65536 := by omega
    have hyb : y < bl.length := by omega
    generalize endOf bl i = ei at *
    generalize endOf bl y = ey at *
    clear h1 h ht hp hn h0 hh hy hh0 hh1
    generalize bl.length = N at *
    have hib : i ≤ 65536 := by omega
    have hyb2 : y ≤ 65536 := by omega
    obtain ⟨z, hz⟩ : ∃ z, z = if (i : Int) ≤ (y : Int) then ei else ey := ⟨_, rfl⟩
    have Hz : Hid (z = if (i : Int) ≤ (y : Int) then ei else ey) := hz
    rw [← hz]
    clear hz
    go_enter Try.func53, Try.ntmps53
    go_wp2_with fail
    generalize w.alloc (.cells #[.pointer (some ⟨P, 0, none⟩), .int .i64 (i : Int)] 88) = W at *
    go_quiet (fail)
    go_wp2_with fail
    go_loopw [3, 4] (fun p i' wr => p = .pointer (some ⟨P, 0, none⟩) ∧ i' = .int .i64 (i : Int) ∧ ∃ q, wr = W.drewN q) (fun p _ _ => isPtr p)
    case atStart => exact ⟨rfl, rfl, _, rfl⟩
    case round =>
      obtain ⟨rfl, rfl, q, rfl⟩ := hrel
      by_cases hiy : i ≤ y
      · obtain rfl : z = ei := by rw [Hz.out, if_pos (by omega)]
        have hmin : min (i : Int) (y : Int) = (i : Int) := by omega
        go_wp2_with fail
        go_region
        go_wp2_with fail
        go_ret
        exact ⟨rfl, below_drewN hb0 _⟩
      · obtain rfl : z = ey := by rw [Hz.out, if_neg (by omega)]
        have hmin : min (i : Int) (y : Int) = (y : Int) := by omega
        go_wp2_with fail
        go_region
        go_wp2_with fail
        go_ret
        exact ⟨rfl, below_drewN hb0 _⟩

end

end Go.Proofs.Qxb6609224a
