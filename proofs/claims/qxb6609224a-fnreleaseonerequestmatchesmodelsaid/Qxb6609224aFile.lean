/-
  (*path).holds (49), (*record).file (44), ZZfile (16).
-/
import Derived.Test.Qxb6609224aHeap
namespace Go.Proofs.Qxb6609224a
open Go.RowKit Go.Maps

/-- The last stop; -1 where there is none. -/
def hd (ss : List Int) : Int := ss.getLastD (-1)

section
variable {Z : World} {B : Nat} {K : List (Nat × Array Value × TypeId)} {R M P : Nat} {c : Int} {w : World} {t e : Int} {sp : Nat} {lf : Int} {nl : Nat} {lv : List Value} {bl : List (Int × Int × Int)} {ss : List Int} {D : DataW Unit} {nm : Nat}

theorem hd_last {ss : List Int} (h : 0 < ss.length) : ss[ss.length - 1]? = some (hd ss) := by
  unfold hd
  rw [List.getLastD_eq_getLast?, ← List.getLast?_eq_getElem?]
  cases ss with
  | nil => simp at h
  | cons a l => simp [List.getLast?_cons]
theorem hd_nil {ss : List Int} (h : ss.length = 0) : hd ss = -1 := by
  rw [List.eq_nil_of_length_eq_zero h]; rfl

theorem stop_cell {gs cap : Nat} (ho : w.ownsRow B 3 1 (.slice (some ⟨gs, 0, none⟩) ss.length cap) ss.length (ss.map (Value.int .i64))) (j : Nat) (x : Int) (hx : ss[j]? = some x) : w.cell? ⟨gs, j, none⟩ = some (.int .i64 x) := by
  rw [ho.cellAt j (by have := (List.getElem?_eq_some_iff.1 hx).1; omega), List.getElem?_map, hx]; rfl

set_option maxRecDepth 100000 in
set_option maxHeartbeats 2000000 in
theorem holds49 (vb vs vl vsp : Value) (h : StAt Z B K R M P c w t e sp lf nl lv bl ss D nm vb vs vl vsp) (i : Int) (hi : 0 ≤ i) (hs : ss.length ≤ 65536) :
    Calls Try.prog 49 #[.pointer (some ⟨P, 0, none⟩), .int .i64 i] w fun x w' => x = .returned (.bool (decide (i ≤ hd ss))) ∧ w' = w := by
  have c3 := h.p3
  by_cases h0 : ss.length = 0
  · obtain ⟨a, cap, rfl⟩ : ∃ a cap, vs = .slice a 0 cap := by
      rcases h.os.2 with ⟨e, _⟩ | ⟨g, cap, cur, e, _⟩
      · exact ⟨none, 0, e⟩
      · exact ⟨_, cap, by rw [e, h0]⟩
    have hh := hd_nil h0
    go_enter Try.func49, Try.ntmps49
    go_wp2_with fail
    go_ret
    refine ⟨?_, rfl⟩
    rw [hh, decide_eq_false (by omega)]
    rfl
  · obtain ⟨gs, cap, rfl, _, _⟩ := h.os.form (by omega)
    have cl := stop_cell h.os _ _ (hd_last (ss := ss) (by omega))
    obtain ⟨p, hp⟩ : ∃ p, ss.length - 1 = p := ⟨_, rfl⟩
    rw [hp] at cl
    obtain ⟨n, hn⟩ : ∃ n, ss.length = n := ⟨_, rfl⟩
    have e1 : IntKind.i64.wrap ((n : Int) - 1) = (p : Int) := by rw [IntWalk.i64_in _ (by omega)]; omega
    have e2 : (n : Int) - 1 = (p : Int) := by omega
    have hpn : p < n := by omega
    have hn0 : 0 < n := by omega
    have hnb : n ≤ 65536 := by omega
    have hpb : p ≤ 65536 := by omega
    rw [hn] at c3
    clear h hp hn h0
    generalize hd ss = q at *
    go_enter Try.func49, Try.ntmps49
    go_wp2_with fail
    go_ret
    exact ⟨rfl, rfl⟩

/-- The state with the path among the leaves (b) or not. -/
def StL (Z : World) (B : Nat) (K : List (Nat × Array Value × TypeId)) (R M P : Nat) (c : Int) (w : World) (t e : Int) (sp : Nat) (b : Bool) (bl : List (Int × Int × Int)) (ss : List Int) (D : DataW Unit) (nm : Nat) : Prop :=
  St Z B K R M P c w t e sp (if b then 0 else -1) (if b then 1 else 0) (if b then [.pointer (some ⟨P, 0, none⟩)] else []) bl ss D nm

theorem blk_cells {gb cap : Nat} (ho : w.ownsRow B 86 4 (.slice (some ⟨gb, 0, none⟩) bl.length cap) bl.length (flat bl)) (j : Nat) (x : Int × Int × Int) (hx : bl[j]? = some x) :
    w.cell? ⟨gb, j * 4, none⟩ = some (.int .i64 x.1) ∧ w.cell? ⟨gb, j * 4 + 1, none⟩ = some (.int .i64 x.2.1) ∧ w.cell? ⟨gb, j * 4 + 2, none⟩ = some (.int .u64 x.2.2) ∧ w.cell? ⟨gb, j * 4 + 3, none⟩ = some (.int .i64 0) := by
  have hj := (List.getElem?_eq_some_iff.1 hx).1
  obtain ⟨h0, h1, h2, h3⟩ := flat_get bl j x hx
  exact ⟨by rw [ho.cellAt _ (by omega), h0], by rw [ho.cellAt _ (by omega), h1], by rw [ho.cellAt _ (by omega), h2], by rw [ho.cellAt _ (by omega), h3]⟩

set_option maxRecDepth 100000 in
set_option maxHeartbeats 4000000 in
theorem file44 (b : Bool) (h : StL Z B K R M P c w t e sp b bl ss D nm) (hb : b = true → hd ss + 1 < bl.length) (h0 : 0 < bl.length) (hl : bl.length ≤ 65536) (hs : ss.length ≤ 65536) :
    Calls Try.prog 44 #[.pointer (some ⟨R, 0, none⟩), .pointer (some ⟨P, 0, none⟩)] w fun x w' => x = .returned (.tuple #[]) ∧ StL Z B K R M P c w' t e sp (decide (hd ss + 1 < bl.length)) bl ss D nm := by
  obtain ⟨vb, vs, vl, vsp, h⟩ := h
  obtain ⟨gb, cap, rfl, _, _⟩ := h.ob.form h0
  obtain ⟨x, hx⟩ : ∃ x, bl[bl.length - 1]? = some x := ⟨_, List.getElem?_eq_getElem (by omega)⟩
  obtain ⟨_, _, _, c3⟩ := blk_cells h.ob _ x hx
  have c2 := h.p2
  have c4 := h.p4
  have Hh := fun i hi => holds49 _ _ _ _ h i hi hs
  obtain ⟨p, hp⟩ : ∃ p, bl.length - 1 = p := ⟨_, rfl⟩
  rw [hp] at c3
  obtain ⟨n, hn⟩ : ∃ n, bl.length = n := ⟨_, rfl⟩
  have e1 : IntKind.i64.wrap ((n : Int) - 1) = (p : Int) := by rw [IntWalk.i64_in _ (by omega)]; omega
  have e2 : (n : Int) - 1 = (p : Int) := by omega
  have hpn : p < n := by omega
  have hn0 : 0 < n := by omega
  have hnb : n ≤ 65536 := by omega
  have hpb : p ≤ 65536 := by omega
  have HE : Hid (StL Z B K R M P c w t e sp b bl ss D nm) := ⟨_, _, _, _, h⟩
  have H0 : Hid (b = false → St Z B K R M P c w t e sp (-1) 0 [] bl ss D nm) := fun hb => by subst hb; exact ⟨_, _, _, _, h⟩
  rw [hn] at c2 hb
  rw [hn]
  clear h hx hp hn h0 hl
  by_cases hq : (p : Int) ≤ hd ss
  · have hd1 : decide ((p : Int) ≤ hd ss) = true := by simp; omega
    have hd2 : decide (hd ss + 1 < (n : Int)) = false := by simp; omega
    cases b with
    | true => exact absurd (hb rfl) (by omega)
    | false =>
      simp only [Bool.false_eq_true, if_false] at c4
      rw [hd2]
      go_enter Try.func44, Try.ntmps44
      go_wp2_with fail
      refine (Hh p (by omega)).mono ?_
      rintro x w1 ⟨rfl, rfl⟩
      go_wp2_with fail
      go_end0
      exact ⟨rfl, HE.out⟩
  · have hd1 : decide ((p : Int) ≤ hd ss) = false := by simp; omega
    have hd2 : decide (hd ss + 1 < (n : Int)) = true := by simp; omega
    rw [hd2]
    cases b with
    | true =>
      simp only [if_true] at c4
      go_enter Try.func44, Try.ntmps44
      go_wp2_with fail
      refine (Hh p (by omega)).mono ?_
      rintro x w1 ⟨rfl, rfl⟩
      go_wp2_with fail
      go_end0
      exact ⟨rfl, HE.out⟩
    | false =>
      simp only [Bool.false_eq_true, if_false] at c4
      go_enter Try.func44, Try.ntmps44
      go_wp2_with fail
      refine (Hh p (by omega)).mono ?_
      rintro x w1 ⟨rfl, rfl⟩
      go_wp2_with fail
      refine (Push50 (H0.out trivial)).mono ?_
      rintro x w1 ⟨rfl, h1⟩
      go_wp2_with fail
      go_end0
      exact ⟨rfl, h1⟩

set_option maxHeartbeats 1000000 in
theorem ZZfile16 (b : Bool) (h : StL Z B K R M P c w t e sp b bl ss D nm) (hb : b = true → hd ss + 1 < bl.length) (h0 : 0 < bl.length) (hl : bl.length ≤ 65536) (hs : ss.length ≤ 65536) :
    Calls Try.prog 16 #[.pointer (some ⟨R, 0, none⟩), .pointer (some ⟨P, 0, none⟩)] w fun x w' => x = .returned (.tuple #[]) ∧ StL Z B K R M P c w' t e sp (decide (hd ss + 1 < bl.length)) bl ss D nm := by
  go_enter Try.func16, Try.ntmps16
  go_wp2_with fail
  refine (file44 b h hb h0 hl hs).mono ?_
  rintro x w1 ⟨rfl, h1⟩
  go_wp2_with fail
  go_end0
  exact ⟨rfl, h1⟩

end

end Go.Proofs.Qxb6609224a
