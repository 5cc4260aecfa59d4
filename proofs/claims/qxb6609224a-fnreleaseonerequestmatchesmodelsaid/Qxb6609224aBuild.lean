/-
  ZZnewRecord (11), ZZnewPath (12), ZZappendBlock (13), ZZplaceBlock (14), ZZappendStop (15).
-/
import Derived.Test.Qxb6609224aMem
namespace Go.Proofs.Qxb6609224a
open Go.RowKit Go.Maps

theorem law2 : Keyed Try.prog 2 := int_keyed Try.underlying2
theorem zero88 (w : World) : (zeroValue 88).run Try.prog w = .ok (.agg #[.pointer none, .int .i64 0]) w := by kernel_rfl
theorem info86 : (Try.prog.info? 86).map (fun i => (i.zero, i.size, i.bytes)) = some (some (.agg #[.int .i64 0, .int .i64 0, .int .u64 0, .int .i64 0]), 4, 32) := by kernel_rfl
theorem info3 : (Try.prog.info? 3).map (fun i => (i.zero, i.size, i.bytes)) = some (some (.int .i64 0), 1, 8) := by kernel_rfl
theorem info29 : (Try.prog.info? 29).map (fun i => (i.zero, i.size, i.bytes)) = some (some (.pointer none), 1, 8) := by kernel_rfl

set_option maxHeartbeats 1000000 in
theorem newRecord11 (c t e : Int) (w : World) :
    Calls Try.prog 11 #[.int .i64 c, .int .i64 t, .int .u64 e] w fun x w' => x = .returned (.pointer (some ⟨w.heap.size + 1, 0, none⟩)) ∧
      w' = (w.alloc (.map #[] 0)).alloc (.cells #[.int .i64 c, .int .i64 t, .map (some w.heap.size), .slice none 0 0, .int .u64 e, .slice none 0 0] 81) := by
  have hmm := @run_makeMap Try.prog
  go_enter Try.func11, Try.ntmps11
  go_wp2_with fail
  go_ret
  exact ⟨rfl, rfl⟩

set_option maxHeartbeats 1000000 in
theorem newPath12 (w : World) :
    Calls Try.prog 12 #[] w fun x w' => x = .returned (.pointer (some ⟨w.heap.size, 0, none⟩)) ∧ w' = w.alloc (.cells #[.pointer none, .int .i64 0, .slice none 0 0, .slice none 0 0, .int .i64 (-1)] 84) := by
  go_enter Try.func12, Try.ntmps12
  go_wp2_with fail
  go_ret
  exact ⟨rfl, rfl⟩

/-- What the two make, as the state. -/
theorem made (c t e : Int) (w : World) : StAt w w.heap.size [] (w.heap.size + 1) w.heap.size (w.heap.size + 2) c
    (((w.alloc (.map #[] 0)).alloc (.cells #[.int .i64 c, .int .i64 t, .map (some w.heap.size), .slice none 0 0, .int .u64 e, .slice none 0 0] 81)).alloc (.cells #[.pointer none, .int .i64 0, .slice none 0 0, .slice none 0 0, .int .i64 (-1)] 84))
    t e 0 (-1) 0 [] [] [] (.map []) 0 (.slice none 0 0) (.slice none 0 0) (.slice none 0 0) (.slice none 0 0) where
  hr := by
    show (((w.heap.push _).push _).push _)[w.heap.size + 1]? = _
    rw [Array.getElem?_push, if_neg (by simp), Array.getElem?_push, if_pos (by simp)]
  hp := by
    show (((w.heap.push _).push _).push _)[w.heap.size + 2]? = _
    rw [Array.getElem?_push, if_pos (by simp)]
  ob := World.ownsRow_nil _ _ _ _
  os := World.ownsRow_nil _ _ _ _
  ol := World.ownsRow_nil _ _ _ _
  om := ((World.ownsMap_made w Try.prog 2 placeElem).alloc _).alloc _
  spare := ⟨none, 0, rfl, fun _ => ⟨rfl, rfl⟩⟩
  below := (((Below.refl _ w).alloc (Nat.le_refl _) _).alloc (by simp) _).alloc (by simp; omega) _
  base := ⟨by omega, by omega, Nat.le_refl _⟩
  kept := fun X cur ty h => by cases h

/-- The state, the rows' slices let go. -/
def St (Z : World) (B : Nat) (K : List (Nat × Array Value × TypeId)) (R M P : Nat) (c : Int) (w : World) (t e : Int) (sp : Nat) (lf : Int) (nl : Nat) (lv : List Value)
    (bl : List (Int × Int × Int)) (ss : List Int) (D : DataW Unit) (nm : Nat) : Prop := ∃ vb vs vl vsp, StAt Z B K R M P c w t e sp lf nl lv bl ss D nm vb vs vl vsp

theorem news_block (w : World) (cs : Array Value) (t : TypeId) : ∀ j u, cs.toList[j]? = some u → (w.alloc (.cells cs t)).cell? ((⟨w.heap.size, 0, none⟩ : Addr).add j) = some u :=
  World.news_of_block (t := t) (fr := (0, 0)) (by show (w.heap.push _)[w.heap.size]? = _; simp)
theorem below_alloc (w : World) (o : Obj) : Below w.heap.size w (w.alloc o) := (Below.refl _ w).alloc (Nat.le_refl _) o

section
variable {Z : World} {B : Nat} {K : List (Nat × Array Value × TypeId)} {R M P : Nat} {c : Int} {w : World} {t e : Int} {sp : Nat} {lf : Int} {nl : Nat} {lv : List Value} {bl : List (Int × Int × Int)} {ss : List Int} {D : DataW Unit} {nm : Nat}

set_option maxRecDepth 100000 in
set_option maxHeartbeats 1000000 in
theorem appendBlock13 (h : St Z B K R M P c w t e sp lf nl lv bl ss D nm) (hl : bl.length ≤ 65536) (id en : Int) :
    Calls Try.prog 13 #[.pointer (some ⟨P, 0, none⟩), .int .i64 id, .int .i64 en] w fun x w' => x = .returned (.tuple #[]) ∧ St Z B K R M P c w' t e sp lf nl lv (bl ++ [(id, en, 0)]) ss D nm := by
  obtain ⟨vb, vs, vl, vsp, h⟩ := h
  have c2 := h.p2
  have f2 := h.fP 2
  obtain ⟨i0, hi, hz0, hz1, hz2⟩ := info_parts info86
  have h1 := h.later (below_alloc w (.cells #[.int .i64 id, .int .i64 en, .int .u64 0, .int .i64 0] 86))
  have hsz := h1.size
  go_enter Try.func13, Try.ntmps13
  go_wp2_with (first
    | (at_builtin; refine wpList_append_lies _ rfl (.tmp 10) (.tmp 14) 82 rfl B 86 i0 _ 4 32 Try.underlying82 hi hz0 hz1 hz2 rfl (by decide) vb bl.length (flat bl) rfl h1.ob ⟨w.heap.size, 0, none⟩ 1 1 [.int .i64 id, .int .i64 en, .int .u64 0, .int .i64 0] rfl rfl (news_block w _ 86) (by intro u hu; simp at hu; rcases hu with rfl | rfl | rfl | rfl <;> rfl) (by decide) (by unfold maxLen; omega) (by omega) hsz _ rfl ?_; intro g cap w4 hown4 hgrow4 hat4 hlt4; have hcv4 : w4.cell? ⟨P, 2, none⟩ = some vb := hgrow4.cell h1.p2 (Ne.symm (own_label h1.ob h1.hp (by decide))); have hfv4 : w4.frozen? ⟨P, 2, none⟩ = false := frozen_of_row _ _ _ _ 84 (blk_kept hgrow4 h1.hp (own_label h1.ob h1.hp (by decide)))))
  go_end0
  refine ⟨rfl, _, _, _, _, h1.newB (bl' := bl ++ [(id, en, 0)]) hgrow4 ?_⟩
  rw [flat_append, List.length_append]
  exact hown4

set_option maxRecDepth 100000 in
set_option maxHeartbeats 1000000 in
theorem appendStop15 (h : St Z B K R M P c w t e sp lf nl lv bl ss D nm) (hl : ss.length ≤ 65536) (i : Int) :
    Calls Try.prog 15 #[.pointer (some ⟨P, 0, none⟩), .int .i64 i] w fun x w' => x = .returned (.tuple #[]) ∧ St Z B K R M P c w' t e sp lf nl lv bl (ss ++ [i]) D nm := by
  obtain ⟨vb, vs, vl, vsp, h⟩ := h
  have c2 := h.p3
  have f2 := h.fP 3
  obtain ⟨i0, hi, hz0, hz1, hz2⟩ := info_parts info3
  have h1 := h.later (below_alloc w (.cells #[.int .i64 i] 3))
  have hsz := h1.size
  go_enter Try.func15, Try.ntmps15
  go_wp2_with (first
    | (at_builtin; refine wpList_append_lies _ rfl (.tmp 8) (.tmp 10) 24 rfl B 3 i0 _ 1 8 Try.underlying24 hi hz0 hz1 hz2 rfl (by decide) vs ss.length (ss.map (Value.int .i64)) rfl h1.os ⟨w.heap.size, 0, none⟩ 1 1 [.int .i64 i] rfl rfl (news_block w _ 3) (by intro u hu; simp at hu; subst hu; rfl) (by decide) (by unfold maxLen; omega) (by omega) hsz _ rfl ?_; intro g cap w4 hown4 hgrow4 hat4 hlt4; have hcv4 : w4.cell? ⟨P, 3, none⟩ = some vs := hgrow4.cell h1.p3 (Ne.symm (own_label h1.os h1.hp (by decide))); have hfv4 : w4.frozen? ⟨P, 3, none⟩ = false := frozen_of_row _ _ _ _ 84 (blk_kept hgrow4 h1.hp (own_label h1.os h1.hp (by decide)))))
  go_end0
  refine ⟨rfl, _, _, _, _, h1.newS (ss' := ss ++ [i]) hgrow4 ?_ ?_⟩
  · rw [List.map_append, List.length_append]
    exact hown4
  · rcases hat4 with h4 | h4
    · exact Or.inl (h4.symm ▸ rfl)
    · exact Or.inr (Or.inr ⟨g, rfl, by rw [h4]; exact Nat.le_refl _⟩)

set_option maxHeartbeats 1000000 in
theorem placeBlock14 (h : St Z B K R M P c w t e sp lf nl lv bl ss D nm) (hl : nm ≤ 65536) (id j : Int) (p : Option Addr) (hid : (Lit.int .i64 id).wf = true) :
    Calls Try.prog 14 #[.pointer (some ⟨R, 0, none⟩), .int .i64 id, .pointer p, .int .i64 j] w fun x w' => x = .returned (.tuple #[]) ∧ St Z B K R M P c w' t e sp lf nl lv bl ss (D.put (.int .i64 id) (.agg [])) (nm + 1) := by
  obtain ⟨vb, vs, vl, vsp, h⟩ := h
  have c2 := h.r2
  go_enter Try.func14, Try.ntmps14
  go_wp2_with (first
    | (at_mapUpdate; refine wpList_mapUpdate_own _ rfl _ _ _ 77 rfl 2 88 law2 Try.underlying77 placeElem M nm D rfl h.om (by unfold maxLen; omega) _ _ _ rfl rfl (keyOf_int_mk Try.underlying2 hid) (.agg []) [] rfl ?_; intro w1 hown1 hgrow1))
  go_end0
  exact ⟨rfl, _, _, _, _, h.turnM hgrow1 hown1⟩
end

end Go.Proofs.Qxb6609224a
