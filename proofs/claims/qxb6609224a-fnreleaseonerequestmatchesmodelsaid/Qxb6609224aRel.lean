/-
  (*path).release (52), heldTokens (53), (*path).start (60), slices.Clone at []recordedBlock (61).
-/
import Derived.Test.Qxb6609224aFile
import Derived.Test.Qxb6609224aShelf
import Derived.Lib.OwnBridge
import Derived.Lib.SliceRun
namespace Go.Proofs.Qxb6609224a
open Go.RowKit Go.Maps

/-! ### one stop struck -/
def cnt (ss : List Int) (i : Int) : Nat := ss.countP (· < i + 1)
def del (ss : List Int) (i : Int) : List Int := ss.take (cnt ss i - 1) ++ ss.drop (cnt ss i)
theorem cnt_pos {ss : List Int} {i : Int} (h : i ∈ ss) : 0 < cnt ss i := List.countP_pos_iff.2 ⟨i, h, by simp; omega⟩
theorem cnt_le (ss : List Int) (i : Int) : cnt ss i ≤ ss.length := List.countP_le_length
theorem del_length {ss : List Int} {i : Int} (h : i ∈ ss) : (del ss i).length = ss.length - 1 := by
  have h1 := cnt_pos h
  have h2 := cnt_le ss i
  unfold del
  rw [List.length_append, List.length_take, List.length_drop]
  omega

theorem grown_putRow {α : Type} [Inhabited α] (enc : α → Value) (w : World) (g q : Nat) (d : Array α) : w.grownBy (Sort.putRow enc (Sort.ahead w q) g 0 d) (some g) :=
  ⟨rfl, rfl, rfl, by simp [Sort.putRow, Sort.mapBlock, Sort.ahead], fun k _ hne => by
    simp [Sort.putRow, Sort.mapBlock, Sort.ahead, Array.getElem?_modify, show g ≠ k from fun e => hne (by rw [e])]⟩

def isPtr : Value → Nat
  | .pointer (some _) => 1
  | _ => 0

section
variable {Z : World} {B : Nat} {K : List (Nat × Array Value × TypeId)} {R M P : Nat} {c : Int} {w : World} {t e : Int} {sp : Nat} {lf : Int} {nl : Nat} {lv : List Value} {bl : List (Int × Int × Int)} {ss : List Int} {D : DataW Unit} {nm : Nat}

theorem StAt.drewN {vb vs vl vsp : Value} (h : StAt Z B K R M P c w t e sp lf nl lv bl ss D nm vb vs vl vsp) (n : Nat) : StAt Z B K R M P c (w.drewN n) t e sp lf nl lv bl ss D nm vb vs vl vsp := h.later (below_drewN (Below.refl _ _) n)

theorem search57 {gs cap : Nat} (ho : w.ownsRow B 3 1 (.slice (some ⟨gs, 0, none⟩) ss.length cap) ss.length (ss.map (Value.int .i64))) (i : Int) (hs : ss.length ≤ 65536) (hsort : ss.Pairwise (· ≤ ·)) :
    Calls Try.prog 57 #[.slice (some ⟨gs, 0, none⟩) ss.length cap, .int .i64 (i + 1)] w fun x w' => (∃ b, x = .returned (.tuple #[.int .i64 (cnt ss i : Nat), .bool b])) ∧ ∃ q, w' = w.drewN q := by
  refine (Try.slices_BinarySearch_int gs 0 ss.length cap ss (i + 1) w (Nat.le_refl _) (by omega) ?_ (by rw [List.take_length]; exact hsort)).mono ?_
  · intro j hj
    rw [Nat.zero_add]
    refine stop_cell ho j _ ?_
    rw [List.getD_eq_getElem?_getD, List.getElem?_eq_getElem hj]
    rfl
  · rintro x w' ⟨rfl, q, rfl⟩
    rw [List.take_length]
    exact ⟨⟨_, rfl⟩, q, rfl⟩

theorem delete58 {gs cap q : Nat} {i : Int} (ho : w.ownsRow B 3 1 (.slice (some ⟨gs, 0, none⟩) ss.length cap) ss.length (ss.map (Value.int .i64))) (hi : i ∈ ss) (hq : cnt ss i = q + 1) :
    Calls Try.prog 58 #[.slice (some ⟨gs, 0, none⟩) ss.length cap, .int .i64 (q : Int), .int .i64 ((q + 1 : Nat) : Int)] w fun x w' => x = .returned (.slice (some ⟨gs, 0, none⟩) (del ss i).length cap) ∧
      w'.ownsRow B 3 1 (.slice (some ⟨gs, 0, none⟩) (del ss i).length cap) (del ss i).length ((del ss i).map (Value.int .i64)) ∧ w.grownBy w' (some gs) := by
  obtain ⟨g, cap', hv, _, _, h1, h2, _, hH⟩ := Lib.holds_of_ownsRow ho (by simp)
  cases hv
  have hle := cnt_le ss i
  have hdl := del_length hi
  refine (Try.slices_Delete_int gs 0 cap q (q + 1) ss w hH h1 h2 (by omega) (by omega)).mono ?_
  rintro x w' ⟨rfl, q', rfl⟩
  refine ⟨by rw [hdl, show q + 1 - q = 1 from by omega], ?_, grown_putRow _ _ _ _ _⟩
  have hlen : (ss.take q ++ ss.drop (q + 1) ++ List.replicate (q + 1 - q) (0 : Int)).length = ss.length := by
    simp only [List.length_append, List.length_take, List.length_drop, List.length_replicate]
    omega
  have h3 := Lib.ownsRow_putRow (q := q') (k := (del ss i).length) (ys := ss.take q ++ ss.drop (q + 1) ++ List.replicate (q + 1 - q) (0 : Int)) ho hlen (by omega)
  have h4 : (ss.take q ++ ss.drop (q + 1) ++ List.replicate (q + 1 - q) (0 : Int)).take (del ss i).length = del ss i := by
    have : del ss i = ss.take q ++ ss.drop (q + 1) := by unfold del; rw [hq]; rfl
    rw [this, List.take_left']
    rfl
  rw [h4] at h3
  exact h3

set_option maxRecDepth 100000 in
set_option maxHeartbeats 4000000 in
theorem release52 (h : St Z B K R M P c w t e sp lf nl lv bl ss D nm) (i : Int) (hi : i ∈ ss) (hb : -1 ≤ i ∧ i ≤ 65536) (hs : ss.length ≤ 65536) (hsort : ss.Pairwise (· ≤ ·)) :
    Calls Try.prog 52 #[.pointer (some ⟨P, 0, none⟩), .int .i64 i] w fun x w' => x = .returned (.tuple #[]) ∧ St Z B K R M P c w' t e sp lf nl lv bl (del ss i) D nm := by
  obtain ⟨vb, vs, vl, vsp, h⟩ := h
  have hpos : 0 < ss.length := List.length_pos_of_mem hi
  obtain ⟨gs, cap, rfl, hgB, hglt⟩ := h.os.form hpos
  obtain ⟨hb1, hb2⟩ := hb
  go_enter Try.func52, Try.ntmps52
  go_wp2_with fail
  go_loopw [0, 1] (fun p i' wr => (p = .pointer (some ⟨P, 0, none⟩) ∧ i' = .int .i64 i ∧ wr = w) ∨ (p = .pointer none ∧ St Z B K R M P c wr t e sp lf nl lv bl (del ss i) D nm)) (fun p _ _ => isPtr p)
  case atStart => exact Or.inl ⟨rfl, rfl, rfl⟩
  case round =>
    rcases hrel with ⟨rfl, rfl, rfl⟩ | ⟨rfl, hst⟩
    · have c3 := h.p3
      have f3 := h.fP 3
      have e1 : IntKind.i64.wrap (i + 1) = i + 1 := IntWalk.i64_in _ (by omega)
      have hcl := cnt_le ss i
      obtain ⟨q, hq⟩ : ∃ q, cnt ss i = q + 1 := ⟨cnt ss i - 1, by have := cnt_pos hi; omega⟩
      have hqb : q ≤ 65536 := by omega
      go_wp2_with fail
      refine (search57 h.os i hs hsort).mono ?_
      rintro x w1 ⟨⟨b, rfl⟩, q1, rfl⟩
      have h1 := h.drewN q1
      rw [hq]
      have e2 : IntKind.i64.wrap (((q + 1 : Nat) : Int) - 1) = (q : Int) := by rw [IntWalk.i64_in _ (by omega)]; omega
      have e3 : ((q + 1 : Nat) : Int) - 1 = (q : Int) := by omega
      generalize hk : ((q + 1 : Nat) : Int) = k at *
      go_wp2_with fail
      have hdel := delete58 (w := wr.drewN q1) h1.os hi hq
      rw [hk] at hdel
      refine hdel.mono ?_
      rintro x w2 ⟨rfl, ho2, hg2⟩
      have hp2 := blk_kept hg2 h1.hp (own_label h1.os h1.hp (by decide))
      have c3' : w2.cell? ⟨P, 3, none⟩ = some (.slice (some ⟨gs, 0, none⟩) ss.length cap) := by rw [cell_of_row w2 P 3 _ 84 (0, 0) hp2]; rfl
      have f3' : w2.frozen? ⟨P, 3, none⟩ = false := frozen_of_row _ _ _ _ 84 hp2
      have h3 := h1.newS hg2 ho2 (Or.inl rfl)
      have c0 := h3.p0
      have c1 := h3.p1
      have HE : Hid (St Z B K R M P c (w2.setCell ⟨P, 3, none⟩ (.slice (some ⟨gs, 0, none⟩) (del ss i).length cap)) t e sp lf nl lv bl (del ss i) D nm) := ⟨_, _, _, _, h3⟩
      clear hdel ho2 hg2 hp2 h3 h1 h c3 f3 hk e2 e3 hq hi hsort hcl
      by_cases hd0 : (del ss i).length = 0
      · generalize (del ss i).length = dl at *
        subst hd0
        go_wp2_with fail
        go_quiet (fail)
        go_wp2_with fail
        go_roundw
        case rel =>
          obtain ⟨vb, vs, vl, vsp, h⟩ := HE.out
          exact Or.inr ⟨rfl, _, _, _, _, h.drewN _⟩
        case measure => simp [isPtr]
      · have hd1 : 0 < (del ss i).length := by omega
        generalize (del ss i).length = dl at *
        clear hd0
        go_wp2_with fail
        first | go_end0 | refine bodyPost_ret (results_none rfl _ _ _) rfl ?_
        exact ⟨rfl, HE.out⟩
    · go_wp2_with fail
      go_end0
      exact ⟨rfl, hst⟩

end

end Go.Proofs.Qxb6609224a
