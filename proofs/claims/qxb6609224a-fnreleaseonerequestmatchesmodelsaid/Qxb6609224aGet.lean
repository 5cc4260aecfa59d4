/-
  The getters (18..25, 27), zzBytes (26).
-/
import Derived.Test.Qxb6609224aRec
namespace Go.Proofs.Qxb6609224a
open Go.RowKit Go.Maps

section
variable {Z : World} {B : Nat} {K : List (Nat × Array Value × TypeId)} {R M P : Nat} {c : Int} {w : World} {t e : Int} {sp : Nat} {lf : Int} {nl : Nat} {lv : List Value} {bl : List (Int × Int × Int)} {ss : List Int} {D : DataW Unit} {nm : Nat}

set_option maxHeartbeats 400000 in
theorem bytes26 (a0 a1 a5 : Int) (p2 p3 p4 : Option Addr) (n2 c2 n3 c3 n4 c4 : Nat) (w : World) (h2 : n2 ≤ 9223372036854775807) (h3 : n3 ≤ 9223372036854775807) (h4 : n4 ≤ 9223372036854775807) :
    Calls Try.prog 26 #[.int .i64 a0, .int .u64 a1, .slice p2 n2 c2, .slice p3 n3 c3, .slice p4 n4 c4, .int .i64 a5] w fun x w' => (x = .returned (.bool true) ∨ x = .returned (.bool false)) ∧ w' = w := by
  go_enter Try.func26, Try.ntmps26
  go_wp2
  all_goals go_ret
  all_goals first | exact ⟨Or.inr rfl, rfl⟩ | exact ⟨Or.inl rfl, rfl⟩

theorem slice_form {w : World} {B : Nat} {e : TypeId} {k : Nat} {v : Value} {n : Nat} {xs : List Value} (h : w.ownsRow B e k v n xs) : ∃ a cap, v = .slice a n cap := by
  rcases h.2 with ⟨e, h0⟩ | ⟨g, cap, cur, e, _⟩
  · exact ⟨none, 0, by rw [e, h0]⟩
  · exact ⟨_, cap, e⟩

set_option maxHeartbeats 1000000 in
theorem ended18 (h : St Z B K R M P c w t e sp lf nl lv bl ss D nm) : Calls Try.prog 18 #[.pointer (some ⟨R, 0, none⟩)] w fun x w' => x = .returned (.int .u64 e) ∧ w' = w := by
  obtain ⟨vb, vs, vl, vsp, h⟩ := h
  have r4 := h.r4
  go_enter Try.func18, Try.ntmps18
  go_wp2_with fail
  go_ret
  exact ⟨rfl, rfl⟩
set_option maxHeartbeats 1000000 in
theorem len19 (h : St Z B K R M P c w t e sp lf nl lv bl ss D nm) : Calls Try.prog 19 #[.pointer (some ⟨P, 0, none⟩)] w fun x w' => x = .returned (.int .i64 (bl.length : Int)) ∧ w' = w := by
  obtain ⟨vb, vs, vl, vsp, h⟩ := h
  obtain ⟨a, cap, rfl⟩ := slice_form h.ob
  have p2 := h.p2
  go_enter Try.func19, Try.ntmps19
  go_wp2_with fail
  go_ret
  exact ⟨rfl, rfl⟩
set_option maxHeartbeats 1000000 in
theorem tokens20 (h : St Z B K R M P c w t e sp lf nl lv bl ss D nm) : Calls Try.prog 20 #[.pointer (some ⟨R, 0, none⟩)] w fun x w' => x = .returned (.int .i64 t) ∧ w' = w := by
  obtain ⟨vb, vs, vl, vsp, h⟩ := h
  have r1 := h.r1
  go_enter Try.func20, Try.ntmps20
  go_wp2_with fail
  go_ret
  exact ⟨rfl, rfl⟩
set_option maxHeartbeats 1000000 in
theorem stops21 (h : St Z B K R M P c w t e sp lf nl lv bl ss D nm) : Calls Try.prog 21 #[.pointer (some ⟨P, 0, none⟩)] w fun x w' => x = .returned (.int .i64 (ss.length : Int)) ∧ w' = w := by
  obtain ⟨vb, vs, vl, vsp, h⟩ := h
  obtain ⟨a, cap, rfl⟩ := slice_form h.os
  have p3 := h.p3
  go_enter Try.func21, Try.ntmps21
  go_wp2_with fail
  go_ret
  exact ⟨rfl, rfl⟩
set_option maxHeartbeats 1000000 in
theorem leaves22 (h : St Z B K R M P c w t e sp lf nl lv bl ss D nm) : Calls Try.prog 22 #[.pointer (some ⟨R, 0, none⟩)] w fun x w' => x = .returned (.int .i64 (nl : Int)) ∧ w' = w := by
  obtain ⟨vb, vs, vl, vsp, h⟩ := h
  obtain ⟨a, cap, rfl⟩ := slice_form h.ol
  have r3 := h.r3
  go_enter Try.func22, Try.ntmps22
  go_wp2_with fail
  go_ret
  exact ⟨rfl, rfl⟩
set_option maxHeartbeats 1000000 in
theorem spare23 (h : St Z B K R M P c w t e sp lf nl lv bl ss D nm) : Calls Try.prog 23 #[.pointer (some ⟨R, 0, none⟩)] w fun x w' => x = .returned (.int .i64 (sp : Int)) ∧ w' = w := by
  obtain ⟨vb, vs, vl, vsp, h⟩ := h
  obtain ⟨a, cap, rfl, _⟩ := h.spare
  have r5 := h.r5
  go_enter Try.func23, Try.ntmps23
  go_wp2_with fail
  go_ret
  exact ⟨rfl, rfl⟩
set_option maxHeartbeats 1000000 in
theorem stop27 (h : St Z B K R M P c w t e sp lf nl lv bl ss D nm) (hs : ss.length ≤ 65536) (j : Nat) (x : Int) (hx : ss[j]? = some x) : Calls Try.prog 27 #[.pointer (some ⟨P, 0, none⟩), .int .i64 (j : Int)] w fun y w' => y = .returned (.int .i64 x) ∧ w' = w := by
  obtain ⟨vb, vs, vl, vsp, h⟩ := h
  have hj := (List.getElem?_eq_some_iff.1 hx).1
  obtain ⟨gs, cap, rfl, _, _⟩ := h.os.form (by omega)
  have p3 := h.p3
  have cj := stop_cell h.os j x hx
  clear hx h
  generalize ss.length = n at *
  go_enter Try.func27, Try.ntmps27
  go_wp2_with fail
  go_ret
  exact ⟨rfl, rfl⟩
set_option maxHeartbeats 1000000 in
theorem used25 (h : St Z B K R M P c w t e sp lf nl lv bl ss D nm) (hb : bl.length ≤ 65536) (j : Nat) (x : Int × Int × Int) (hx : bl[j]? = some x) : Calls Try.prog 25 #[.pointer (some ⟨P, 0, none⟩), .int .i64 (j : Int)] w fun y w' => y = .returned (.int .u64 x.2.2) ∧ w' = w := by
  obtain ⟨vb, vs, vl, vsp, h⟩ := h
  have hj := (List.getElem?_eq_some_iff.1 hx).1
  obtain ⟨gb, cap, rfl, _, _⟩ := h.ob.form (by omega)
  have p2 := h.p2
  obtain ⟨_, _, cj, _⟩ := blk_cells h.ob j x hx
  clear hx h
  generalize bl.length = n at *
  go_enter Try.func25, Try.ntmps25
  go_wp2_with fail
  go_ret
  exact ⟨rfl, rfl⟩

set_option maxRecDepth 100000 in
set_option maxHeartbeats 1000000 in
theorem has24 (h : St Z B K R M P c w t e sp lf nl lv bl ss D nm) (id : Int) (hid : (Lit.int .i64 id).wf = true) :
    Calls Try.prog 24 #[.pointer (some ⟨R, 0, none⟩), .int .i64 id] w fun y w' => y = .returned (.bool (Maps.has D (.int .i64 id))) ∧ St Z B K R M P c w' t e sp lf nl lv bl ss D nm := by
  obtain ⟨vb, vs, vl, vsp, h⟩ := h
  have r2 := h.r2
  have hom := h.om
  obtain ⟨v, ps, hrun, hv⟩ := hom.look_ok law2 Try.underlying77 (zero88 w) (placeElem_mk none 0) (keyOf_int_mk Try.underlying2 hid)
  obtain ⟨p, i, rfl⟩ := placeElem_inv hv
  go_enter Try.func24, Try.ntmps24
  go_wp2_with fail
  go_ret
  exact ⟨rfl, _, _, _, _, h.later (below_alloc w _)⟩

end

end Go.Proofs.Qxb6609224a
