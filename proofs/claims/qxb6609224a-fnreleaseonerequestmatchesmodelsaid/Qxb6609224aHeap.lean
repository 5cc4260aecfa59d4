/-
  container/heap over the record's leaves: (leaves).Len (97), Swap (99), (*leaves).Push (105), Pop (104), heap.up (55), down (56), Push (50), Pop (59).
-/
import Derived.Test.Qxb6609224aBuild
import Derived.Deep.QuietTactic
import Derived.BigQuiet
import Derived.Deep.DeepCutAuto
namespace Go.Proofs.Qxb6609224a
open Go.RowKit Go.Maps

section
variable {Z : World} {B : Nat} {K : List (Nat × Array Value × TypeId)} {R M P : Nat} {c : Int} {w : World} {t e : Int} {sp : Nat} {lf : Int} {nl : Nat} {lv : List Value} {bl : List (Int × Int × Int)} {ss : List Int} {D : DataW Unit} {nm : Nat}

theorem news_at (w : World) (cs : Array Value) (t : TypeId) (H : Nat) (hH : w.heap.size = H) : ∀ j u, cs.toList[j]? = some u → (w.alloc (.cells cs t)).cell? ((⟨H, 0, none⟩ : Addr).add j) = some u := by
  subst hH
  exact news_block w cs t
theorem as29 (a : Addr) (w : World) : (Instr.typeAssert (.iface 29 (.pointer (some a))) 20 29 false).run Try.prog w = .ok (.pointer (some a)) w := by kernel_rfl

set_option maxRecDepth 100000 in
set_option maxHeartbeats 1000000 in
theorem push105 (h : St Z B K R M P c w t e sp lf 0 [] bl ss D nm) :
    Calls Try.prog 105 #[.pointer (some ⟨R, 3, none⟩), .iface 29 (.pointer (some ⟨P, 0, none⟩))] w fun x w' => x = .returned (.tuple #[]) ∧ St Z B K R M P c w' t e sp 0 1 [.pointer (some ⟨P, 0, none⟩)] bl ss D nm := by
  obtain ⟨vb, vs, vl, vsp, h⟩ := h
  have c3 := h.r3
  have f3 := h.fR 3
  have c4 := h.p4
  have f4 := h.fP 4
  obtain ⟨a, cap, rfl⟩ : ∃ a cap, vl = .slice a 0 cap := by
    rcases h.ol.2 with ⟨e, _⟩ | ⟨g, cap, cur, e, _⟩
    · exact ⟨none, 0, e⟩
    · exact ⟨_, cap, e⟩
  obtain ⟨i0, hi, hz0, hz1, hz2⟩ := info_parts info29
  have h1 := (h.setP (i := 4) (u := .int .i64 0) 0 rfl rfl)
  have c3' : (w.setCell ⟨P, 4, none⟩ (.int .i64 0)).cell? ⟨R, 3, none⟩ = some (.slice a 0 cap) := h1.r3
  have h2 := h1.later (below_alloc _ (.cells #[.pointer (some ⟨P, 0, none⟩)] 29))
  have hsz := h2.size
  have hne := h.RP
  have has := as29 ⟨P, 0, none⟩
  go_enter Try.func105, Try.ntmps105
  go_wp2_with (first
    | (at_builtin; refine wpList_append_lies _ rfl (.tmp 17) (.tmp 19) 79 rfl B 29 i0 _ 1 8 Try.underlying79 hi hz0 hz1 hz2 rfl (by decide) (.slice a 0 cap) 0 [] rfl h2.ol ⟨w.heap.size, 0, none⟩ 1 1 [.pointer (some ⟨P, 0, none⟩)] rfl rfl (news_at _ _ 29 _ (World.size_setCell _ _ _)) (by intro u hu; simp at hu; subst hu; rfl) (by decide) (by unfold maxLen; omega) (by omega) hsz _ rfl ?_; intro g cap4 w4 hown4 hgrow4 hat4 hlt4; have hcv4 : w4.cell? ⟨R, 3, none⟩ = some (.slice a 0 cap) := hgrow4.cell h2.r3 (Ne.symm (own_label h2.ol h2.hr (by decide))); have hfv4 : w4.frozen? ⟨R, 3, none⟩ = false := frozen_of_row _ _ _ _ 81 (blk_kept hgrow4 h2.hr (own_label h2.ol h2.hr (by decide)))))
  go_end0
  exact ⟨rfl, _, _, _, _, h2.newL hgrow4 hown4⟩

theorem StAt.drew {vb vs vl vsp : Value} (h : StAt Z B K R M P c w t e sp lf nl lv bl ss D nm vb vs vl vsp) : StAt Z B K R M P c w.drew t e sp lf nl lv bl ss D nm vb vs vl vsp := h.later (Below.refl _ _).drew
theorem StAt.same {vb vs vsp : Value} {gl cap : Nat} {p : Value} (h : StAt Z B K R M P c w t e sp lf 1 [p] bl ss D nm vb vs (.slice (some ⟨gl, 0, none⟩) 1 cap) vsp) :
    StAt Z B K R M P c (w.setCell ⟨gl, 0, none⟩ p) t e sp lf 1 [p] bl ss D nm vb vs (.slice (some ⟨gl, 0, none⟩) 1 cap) vsp := by
  obtain ⟨h1, h2⟩ := h.ol.stored 0 p
  exact h.turnL h2 h1

set_option maxRecDepth 100000 in
set_option maxHeartbeats 2000000 in
theorem swap99 (gl cap : Nat) (vb vs vsp : Value) (h : StAt Z B K R M P c w t e sp 0 1 [.pointer (some ⟨P, 0, none⟩)] bl ss D nm vb vs (.slice (some ⟨gl, 0, none⟩) 1 cap) vsp) :
    Calls Try.prog 99 #[.slice (some ⟨gl, 0, none⟩) 1 cap, .int .i64 0, .int .i64 0] w fun x w' => x = .returned (.tuple #[]) ∧ StAt Z B K R M P c w' t e sp 0 1 [.pointer (some ⟨P, 0, none⟩)] bl ss D nm vb vs (.slice (some ⟨gl, 0, none⟩) 1 cap) vsp := by
  have h2 := h.same.same.drew
  have HE : Hid (StAt Z B K R M P c (((((w.setCell ⟨gl, 0, none⟩ (.pointer (some ⟨P, 0, none⟩))).setCell ⟨gl, 0, none⟩ (.pointer (some ⟨P, 0, none⟩))).drew.setCell ⟨P, 4, none⟩ (.int .i64 0)).setCell ⟨P, 4, none⟩ (.int .i64 0)).drew) t e sp 0 1 [.pointer (some ⟨P, 0, none⟩)] bl ss D nm vb vs (.slice (some ⟨gl, 0, none⟩) 1 cap) vsp) :=
    ((h2.setP 0 rfl rfl).setP 0 rfl rfl).drew
  have c0 : w.cell? ⟨gl, 0, none⟩ = some (.pointer (some ⟨P, 0, none⟩)) := h.ol.cellAt 0 (by decide)
  have f0 := h.ol.frozenAt 0
  have d0 : ((w.setCell ⟨gl, 0, none⟩ (.pointer (some ⟨P, 0, none⟩))).setCell ⟨gl, 0, none⟩ (.pointer (some ⟨P, 0, none⟩))).drew.cell? ⟨gl, 0, none⟩ = some (.pointer (some ⟨P, 0, none⟩)) := h2.ol.cellAt 0 (by decide)
  have c4 := h.p4
  have f4 := h.fP 4
  have hne : P ≠ gl := fun e => (own_label h.ol h.hp (by decide)) (by rw [e]; rfl)
  clear h h2
  go_enter Try.func99, Try.ntmps99
  go_wp2_with fail
  go_region
  go_wp2_with fail
  go_region
  go_end0
  exact ⟨rfl, HE.out⟩

theorem own_shrink {w : World} {B : Nat} {e : TypeId} {k g n cap m : Nat} {xs : List Value} (h : w.ownsRow B e k (.slice (some ⟨g, 0, none⟩) n cap) n xs) (hm : m ≤ n) : w.ownsRow B e k (.slice (some ⟨g, 0, none⟩) m cap) m (xs.take (m * k)) := by
  have hmk : m * k ≤ n * k := Nat.mul_le_mul_right k hm
  refine ⟨by rw [List.length_take, h.1]; omega, ?_⟩
  rcases h.2 with ⟨h0, _⟩ | ⟨g', cap', cur, hv, hB, hg, hnc, hcm, hcs, ht⟩
  · cases h0
  · cases hv
    exact Or.inr ⟨g, cap, cur, rfl, hB, hg, by omega, hcm, hcs, by rw [← ht, List.take_take, Nat.min_eq_left hmk]⟩

set_option maxRecDepth 100000 in
set_option maxHeartbeats 2000000 in
theorem pop104 (gl cap : Nat) (vb vs vsp : Value) (h : StAt Z B K R M P c w t e sp 0 1 [.pointer (some ⟨P, 0, none⟩)] bl ss D nm vb vs (.slice (some ⟨gl, 0, none⟩) 1 cap) vsp) :
    Calls Try.prog 104 #[.pointer (some ⟨R, 3, none⟩)] w fun x w' => x = .returned (.iface 29 (.pointer (some ⟨P, 0, none⟩))) ∧ St Z B K R M P c w' t e sp (-1) 0 [] bl ss D nm := by
  have h1 := h.setP (i := 4) (-1) rfl rfl
  have HE : Hid (St Z B K R M P c ((w.setCell ⟨P, 4, none⟩ (.int .i64 (-1))).setCell ⟨R, 3, none⟩ (.slice (some ⟨gl, 0, none⟩) 0 cap)) t e sp (-1) 0 [] bl ss D nm) :=
    ⟨_, _, _, _, h1.newL (grown_refl _ _) (own_shrink h1.ol (Nat.zero_le _))⟩
  have c0 : w.cell? ⟨gl, 0, none⟩ = some (.pointer (some ⟨P, 0, none⟩)) := h.ol.cellAt 0 (by decide)
  have c4 := h.p4
  have f4 := h.fP 4
  have c3 := h.r3
  have f3 := h.fR 3
  have hne := h.RP
  have hcap : 1 ≤ cap ∧ cap ≤ 9223372036854775807 := by
    rcases h.ol.2 with ⟨h0, _⟩ | ⟨g', cap', cur, hv, hB, hg, hnc, hcm, hcs, ht⟩
    · cases h0
    · cases hv; exact ⟨hnc, hcm⟩
  obtain ⟨hcap1, hcap2⟩ := hcap
  clear h h1
  go_enter Try.func104, Try.ntmps104
  go_wp2_with fail
  go_ret
  exact ⟨rfl, HE.out⟩

set_option maxHeartbeats 2000000 in
theorem up55 (a : Addr) (w : World) : Calls Try.prog 55 #[.iface 120 (.pointer (some a)), .int .i64 0] w fun x w' => x = .returned (.tuple #[]) ∧ w' = w := by
  go_enter Try.func55, Try.ntmps55
  go_wp2_with fail
  go_loop [1] (fun i => i = .int .i64 0) (fun _ => 0)
  case atStart => rfl
  case round =>
    subst hrel
    go_wp2_with fail
    go_end0
    exact ⟨rfl, rfl⟩

set_option maxHeartbeats 2000000 in
theorem down56 (a : Addr) (w : World) : Calls Try.prog 56 #[.iface 120 (.pointer (some a)), .int .i64 0, .int .i64 0] w fun x w' => x = .returned (.bool false) ∧ w' = w := by
  go_enter Try.func56, Try.ntmps56
  go_wp2_with fail
  go_loop [7] (fun i => i = .int .i64 0) (fun _ => 0)
  case atStart => rfl
  case round =>
    subst hrel
    go_wp2_with fail
    go_ret
    exact ⟨rfl, rfl⟩

set_option maxHeartbeats 2000000 in
theorem len97 (p : Option Addr) (n cap : Nat) (w : World) : Calls Try.prog 97 #[.slice p n cap] w fun x w' => x = .returned (.int .i64 (n : Int)) ∧ w' = w := by
  go_enter Try.func97, Try.ntmps97
  go_wp2_with fail
  go_ret
  exact ⟨rfl, rfl⟩

theorem methPush (a : Addr) (w : World) : (method 362 120 (.pointer (some a)) "Push").run Try.prog w = .ok (105, .pointer (some a)) w := by kernel_rfl
theorem methPop (a : Addr) (w : World) : (method 362 120 (.pointer (some a)) "Pop").run Try.prog w = .ok (104, .pointer (some a)) w := by kernel_rfl
theorem run_wrap (P : Program) (tt : TypeId) (a : Addr) (s1 s2 : String) (w : World) : (Builtin.ssaWrapNilChk_ #[tt] tt #[.pointer (some a), strVal s1, strVal s2]).run P w = .ok (.pointer (some a)) w := rfl
theorem meth_load {P : Program} {tt elem : TypeId} {name : String} {f : FuncId} (fuel : Nat) (hm : (P.info? tt).bind (fun i => (i.methods.find? (·.name == name)).map (fun m => (m.path.toList, m.func))) = some ([], some (f, false))) (hu : P.underlying tt = some (.pointer elem)) (a : Addr) (w : World) :
    (method (fuel + 1) tt (.pointer (some a)) name).run P w = ((loadVar elem a).run P w).andThen (fun v w' => .ok (f, v) w') := by
  obtain ⟨i, hi, hm⟩ := Option.bind_eq_some_iff.1 hm
  obtain ⟨m, hf, hm⟩ := Option.map_eq_some_iff.1 hm
  simp only [Prod.mk.injEq] at hm
  obtain ⟨hp, hfn⟩ := hm
  have hpe : m.path = #[] := by cases hq : m.path; simp_all
  simp [method, typeInfo, hi, hf, follow, hfn, receiverAt, run_underlying hu, Place.get, run_wrap, asAddr, hpe]
theorem methLen (a : Addr) (w : World) : (method 362 120 (.pointer (some a)) "Len").run Try.prog w = ((loadVar 79 a).run Try.prog w).andThen (fun v w' => .ok (97, v) w') := meth_load 361 (by kernel_rfl) Try.underlying120 a w
theorem methSwap (a : Addr) (w : World) : (method 362 120 (.pointer (some a)) "Swap").run Try.prog w = ((loadVar 79 a).run Try.prog w).andThen (fun v w' => .ok (99, v) w') := meth_load 361 (by kernel_rfl) Try.underlying120 a w
attribute [local go_sem] methPush methPop methLen methSwap

set_option maxRecDepth 100000 in
set_option maxHeartbeats 2000000 in
theorem Push50 (h : St Z B K R M P c w t e sp lf 0 [] bl ss D nm) :
    Calls Try.prog 50 #[.iface 120 (.pointer (some ⟨R, 3, none⟩)), .iface 29 (.pointer (some ⟨P, 0, none⟩))] w fun x w' => x = .returned (.tuple #[]) ∧ St Z B K R M P c w' t e sp 0 1 [.pointer (some ⟨P, 0, none⟩)] bl ss D nm := by
  go_enter Try.func50, Try.ntmps50
  go_wp2_with fail
  refine (push105 h).mono ?_
  rintro x w1 ⟨rfl, vb, vs, vl, vsp, h1⟩
  obtain ⟨gl, cap, rfl, _, _⟩ := h1.ol.form (by decide)
  have c3 := h1.r3
  go_wp2_with fail
  refine (len97 _ 1 cap w1).mono ?_
  rintro x w2 ⟨rfl, rfl⟩
  go_wp2_with fail
  refine (up55 _ w2).mono ?_
  rintro x w3 ⟨rfl, rfl⟩
  go_wp2_with fail
  go_end0
  exact ⟨rfl, _, _, _, _, h1⟩

set_option maxRecDepth 100000 in
set_option maxHeartbeats 2000000 in
theorem Pop59 (h : St Z B K R M P c w t e sp 0 1 [.pointer (some ⟨P, 0, none⟩)] bl ss D nm) :
    Calls Try.prog 59 #[.iface 120 (.pointer (some ⟨R, 3, none⟩))] w fun x w' => x = .returned (.iface 29 (.pointer (some ⟨P, 0, none⟩))) ∧ St Z B K R M P c w' t e sp (-1) 0 [] bl ss D nm := by
  obtain ⟨vb, vs, vl, vsp, h⟩ := h
  obtain ⟨gl, cap, rfl, _, _⟩ := h.ol.form (by decide)
  have c3 := h.r3
  go_enter Try.func59, Try.ntmps59
  go_wp2_with fail
  refine (len97 _ 1 cap w).mono ?_
  rintro x w1 ⟨rfl, rfl⟩
  go_wp2_with fail
  refine (swap99 gl cap vb vs vsp h).mono ?_
  rintro x w2 ⟨rfl, h2⟩
  go_wp2_with fail
  refine (down56 _ w2).mono ?_
  rintro x w3 ⟨rfl, rfl⟩
  go_wp2_with fail
  refine (pop104 gl cap vb vs vsp h2).mono ?_
  rintro x w4 ⟨rfl, h4⟩
  clear c3 h h2
  go_wp2_with fail
  go_ret
  exact ⟨rfl, h4⟩

end

end Go.Proofs.Qxb6609224a
