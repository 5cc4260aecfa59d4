/-
  (*record).release (45), ZZrelease (17).
-/
import Derived.Test.Qxb6609224aEvict
namespace Go.Proofs.Qxb6609224a
open Go.RowKit Go.Maps

/-- Block i's stamp set. -/
def stamp (bl : List (Int × Int × Int)) (i : Nat) (e : Int) : List (Int × Int × Int) := bl.modify i fun b => (b.1, b.2.1, e)
theorem stamp_length (bl : List (Int × Int × Int)) (i : Nat) (e : Int) : (stamp bl i e).length = bl.length := by simp [stamp]
theorem stamp_get (bl : List (Int × Int × Int)) (i : Nat) (e : Int) (j : Nat) : (stamp bl i e)[j]? = (bl[j]?).map fun b => (b.1, b.2.1, if j = i then e else b.2.2) := by
  unfold stamp
  rw [List.getElem?_modify]
  by_cases h : i = j
  · subst h
    cases bl[i]? <;> simp
  · cases bl[j]? <;> simp [h, Ne.symm h]
theorem stamp_set {bl : List (Int × Int × Int)} {i : Nat} {b : Int × Int × Int} {e : Int} (h : bl[i]? = some b) : stamp bl i e = bl.set i (b.1, b.2.1, e) := by
  apply List.ext_getElem?
  intro j
  rw [stamp_get, List.getElem?_set]
  by_cases hj : i = j
  · subst hj
    rw [h]
    have := (List.getElem?_eq_some_iff.1 h).1
    simp [this]
  · rw [if_neg hj]
    cases bl[j]? with
    | none => rfl
    | some x => simp [Ne.symm hj]
theorem stamp_end (bl : List (Int × Int × Int)) (i : Nat) (e : Int) (j : Nat) : endOf (stamp bl i e) j = endOf bl j := by
  unfold endOf
  rw [stamp_get]
  cases bl[j]? <;> rfl
theorem stamp_ids (bl : List (Int × Int × Int)) (i : Nat) (e : Int) : (stamp bl i e).map Prod.fst = bl.map Prod.fst := by
  apply List.ext_getElem?
  intro j
  rw [List.getElem?_map, List.getElem?_map, stamp_get]
  cases bl[j]? <;> rfl
theorem stamp_tok (bl : List (Int × Int × Int)) (i : Nat) (e : Int) (m : Nat) : tok (stamp bl i e) m = tok bl m := by
  unfold tok
  rw [stamp_end]

section
variable {Z : World} {B : Nat} {K : List (Nat × Array Value × TypeId)} {R M P : Nat} {c : Int} {w : World} {t e : Int} {sp : Nat} {lf : Int} {nl : Nat} {lv : List Value} {bl : List (Int × Int × Int)} {ss : List Int} {D : DataW Unit} {nm : Nat}

/-- What the law knows of the state ahead of the release. -/
structure Ready (bl : List (Int × Int × Int)) (ss : List Int) (D : DataW Unit) : Prop where
  pos : 0 < bl.length
  le : bl.length ≤ 65536
  sle : ss.length ≤ 65536
  ends : ∀ j, j < bl.length → 0 ≤ endOf bl j ∧ endOf bl j ≤ 9223372036854775807
  wf : ∀ x ∈ bl, (Lit.int .i64 x.1).wf = true
  nodup : (bl.map Prod.fst).Nodup
  has : HasD D bl
  sorted : ss.Pairwise (· ≤ ·)
  inside : ∀ x ∈ ss, 0 ≤ x ∧ x < bl.length

theorem hd_mem {ss : List Int} (h : 0 < ss.length) : hd ss ∈ ss := List.mem_of_getElem? (hd_last h)
theorem del_sub {ss : List Int} {i x : Int} (h : x ∈ del ss i) : x ∈ ss := by
  unfold del at h
  rcases List.mem_append.1 h with h | h
  · exact List.mem_of_mem_take h
  · exact List.mem_of_mem_drop h
theorem hd_lo {ss : List Int} {n : Int} (h : ∀ x ∈ ss, 0 ≤ x ∧ x < n) : -1 ≤ hd ss := by
  by_cases h0 : 0 < ss.length
  · have := (h _ (hd_mem h0)).1; omega
  · rw [hd_nil (by omega)]; omega
theorem hd_del {ss : List Int} {i : Int} (hs : ss.Pairwise (· ≤ ·)) (hi : ∀ x ∈ ss, 0 ≤ x) : hd (del ss i) ≤ hd ss := by
  by_cases h0 : 0 < (del ss i).length
  · have h1 := del_sub (hd_mem h0)
    have hpos := List.length_pos_of_mem h1
    obtain ⟨j, hj⟩ := List.getElem?_of_mem h1
    have hl := hd_last hpos
    have hjl := (List.getElem?_eq_some_iff.1 hj).1
    by_cases e : j = ss.length - 1
    · subst e; rw [hl] at hj; have := Option.some.inj hj; omega
    · have := List.pairwise_iff_getElem.1 hs j (ss.length - 1) hjl (by omega) (by omega)
      rw [List.getElem?_eq_getElem hjl] at hj
      rw [List.getElem?_eq_getElem (by omega)] at hl
      have h3 := Option.some.inj hj
      have h4 := Option.some.inj hl
      omega
  · rw [hd_nil (ss := del ss i) (by omega)]
    by_cases h1 : 0 < ss.length
    · have := hi _ (hd_mem h1); omega
    · rw [hd_nil (by omega)]; omega

theorem St.forget {x : Nat × Array Value × TypeId} (h : St Z B (x :: K) R M P c w t e sp lf nl lv bl ss D nm) : St Z B K R M P c w t e sp lf nl lv bl ss D nm := by
  obtain ⟨vb, vs, vl, vsp, h⟩ := h
  exact ⟨_, _, _, _, h.forget⟩
theorem Evicted.forget {x : Nat × Array Value × TypeId} (h : Evicted Z B (x :: K) R M P c w e bl ss) : Evicted Z B K R M P c w e bl ss := by
  obtain ⟨m, D', nm', h1, h2⟩ := h
  exact ⟨m, D', nm', St.forget h1, h2⟩
theorem tokens_stamp (bl : List (Int × Int × Int)) (ss : List Int) (i j : Nat) (e : Int) : tokens (stamp bl j e) ss i = tokens bl ss i := by
  unfold tokens
  rw [stamp_end, stamp_end]

set_option maxRecDepth 100000 in
set_option maxHeartbeats 4000000 in
theorem release45 (h : StL Z B K R M P c w (tok bl bl.length) e 0 (decide (hd ss + 1 < bl.length)) bl ss D nm) (hR : Ready bl ss D) (i : Nat) (hi : (i : Int) ∈ ss) :
    Calls Try.prog 45 #[.pointer (some ⟨R, 0, none⟩), .agg #[.pointer (some ⟨P, 0, none⟩), .int .i64 (i : Int)]] w fun x w' => x = .returned (.int .i64 (tokens bl (del ss i) i)) ∧
      Evicted Z B K R M P c w' (IntKind.u64.wrap (e + 1)) (stamp bl i (IntKind.u64.wrap (e + 1))) (del ss i) := by
  obtain ⟨b0, hb0⟩ : ∃ b0, decide (hd ss + 1 < (bl.length : Int)) = b0 := ⟨_, rfl⟩
  rw [hb0] at h
  have Hb0 : Hid (decide (hd ss + 1 < (bl.length : Int)) = b0) := hb0
  clear hb0
  obtain ⟨vb, vs, vl, vsp, h⟩ := h
  have hib := hR.inside _ hi
  have hil : i < bl.length := by omega
  have hle := hR.le
  obtain ⟨gb, cb, rfl, _, hglt⟩ := h.ob.form hR.pos
  have hLn : vs.ownBlock ≠ some w.heap.size := by
    intro hv
    have := (h.os.lt _ hv).2
    omega
  have h1 := (h.later (below_alloc w (.cells #[.pointer (some ⟨P, 0, none⟩), .int .i64 (i : Int)] 88))).keep w.heap.size #[.pointer (some ⟨P, 0, none⟩), .int .i64 (i : Int)] 88 (by show (w.heap.push _)[w.heap.size]? = _; simp) hLn (Or.inr rfl)
  have h2 := h1.setR (i := 4) (u := .int .u64 (IntKind.u64.wrap (e + 1))) (t' := tok bl bl.length) (e' := IntKind.u64.wrap (e + 1)) (sp' := 0) (vsp' := vsp) h1.spare rfl
  obtain ⟨y, hy⟩ : ∃ y, bl[i]? = some y := ⟨_, List.getElem?_eq_getElem hil⟩
  have hst := h2.ob.stored (i * 4 + 2) (.int .u64 (IntKind.u64.wrap (e + 1)))
  rw [← flat_set bl i y _ hy, ← stamp_set hy] at hst
  have h3 := h2.turnB (bl' := stamp bl i (IntKind.u64.wrap (e + 1))) hst.2 (by rw [stamp_length]; exact hst.1)
  have r4 := h1.r4
  have f4 := h1.fR 4
  have r4' := h2.r4
  have p2' := h2.p2
  obtain ⟨_, _, cu, _⟩ := blk_cells h2.ob i y hy
  have fu := h2.ob.frozenAt (i * 4 + 2)
  have hL := (h2.kept _ _ _ (List.mem_cons_self)).1.1
  have l0 := Joins.cell_of_block hL 0
  have l1 := Joins.cell_of_block hL 1
  have l0' : ((w.alloc (.cells #[.pointer (some ⟨P, 0, none⟩), .int .i64 (i : Int)] 88)).setCell ⟨R, 4, none⟩ (.int .u64 (IntKind.u64.wrap (e + 1)))).cell? ⟨w.heap.size, 0, none⟩ = some (.pointer (some ⟨P, 0, none⟩)) := l0
  have l1' : ((w.alloc (.cells #[.pointer (some ⟨P, 0, none⟩), .int .i64 (i : Int)] 88)).setCell ⟨R, 4, none⟩ (.int .u64 (IntKind.u64.wrap (e + 1)))).cell? ⟨w.heap.size, 1, none⟩ = some (.int .i64 (i : Int)) := l1
  have hlen := stamp_length bl i (IntKind.u64.wrap (e + 1))
  clear h h1 h2 hst l0 l1 hL hLn
  go_enter Try.func45, Try.ntmps45
  go_upto_region 2 with fail
  generalize (w.alloc (.cells #[.pointer (some ⟨P, 0, none⟩), .int .i64 (i : Int)] 88)).setCell ⟨R, 4, none⟩ (.int .u64 (IntKind.u64.wrap (e + 1))) = W1 at *
  generalize hEE : IntKind.u64.wrap (e + 1) = e' at *
  generalize hTT : stamp bl i e' = bl' at *
  go_cut [3] (fun q wx => q = .pointer (some ⟨w.heap.size, 0, none⟩) ∧ StAt Z B ((w.heap.size, #[.pointer (some ⟨P, 0, none⟩), .int .i64 (i : Int)], 88) :: K) R M P c wx (tok bl bl.length) e' 0 (if b0 then 0 else -1) (if b0 then 1 else 0) (if b0 then [.pointer (some ⟨P, 0, none⟩)] else []) bl' ss D nm (.slice (some ⟨gb, 0, none⟩) bl.length cb) vs vl vsp)
  case first =>
    have hN : bl.length ≤ 65536 := hle
    generalize bl.length = N at *
    go_region
    go_wp2_with fail
    go_meet
    case rel => exact ⟨rfl, h3.drew⟩
  case rest =>
    clear h3 r4 f4 r4' p2' cu fu l0' l1'
    obtain ⟨rfl, h3⟩ := hcut
    have hL := (h3.kept _ _ _ (List.mem_cons_self)).1.1
    have l0 : wc.cell? ⟨w.heap.size, 0, none⟩ = some (.pointer (some ⟨P, 0, none⟩)) := Joins.cell_of_block hL 0
    have l1 : wc.cell? ⟨w.heap.size, 1, none⟩ = some (.int .i64 (i : Int)) := Joins.cell_of_block hL 1
    have h52 := release52 (i := (i : Int)) ⟨_, _, _, _, h3⟩ hi (by omega) hR.sle hR.sorted
    clear hL h3
    go_wp2_with fail
    refine h52.mono ?_
    rintro x w4 ⟨rfl, vb4, vs4, vl4, vsp4, h4⟩
    clear h52 l0 l1
    have hL := (h4.kept _ _ _ (List.mem_cons_self)).1.1
    have l0 : w4.cell? ⟨w.heap.size, 0, none⟩ = some (.pointer (some ⟨P, 0, none⟩)) := Joins.cell_of_block hL 0
    have l1 : w4.cell? ⟨w.heap.size, 1, none⟩ = some (.int .i64 (i : Int)) := Joins.cell_of_block hL 1
    have hdl := del_length hi
    have hsle := hR.sle
    have h53 := held53 _ _ _ _ h4 i (by omega) (by omega) (by omega) (fun hp => by have := hR.inside _ (del_sub (hd_mem hp)); omega)
    clear hL
    have HTT : Hid (stamp bl i e' = bl') := hTT
    have HEE : Hid (IntKind.u64.wrap (e + 1) = e') := hEE
    have Htk : Hid (tokens bl' (del ss i) i = tokens bl (del ss i) i) := by
      show _ = _
      rw [← hTT]
      exact tokens_stamp bl _ i i e'
    clear hTT hEE
    generalize htv : tokens bl' (del ss (i : Int)) i = tv at *
    go_wp2_with fail
    refine h53.mono ?_
    rintro x w5 ⟨rfl, hb5⟩
    clear h53 l0 l1
    have h5 := h4.later hb5
    have hL := (h5.kept _ _ _ (List.mem_cons_self)).1.1
    have l0 : w5.cell? ⟨w.heap.size, 0, none⟩ = some (.pointer (some ⟨P, 0, none⟩)) := Joins.cell_of_block hL 0
    have hds := hd_del (i := (i : Int)) hR.sorted (fun x hx => (hR.inside x hx).1)
    have h44 := file44 b0 ⟨_, _, _, _, h5⟩ (fun hb => by
      have h9 := Hb0.out
      rw [hb] at h9
      have := of_decide_eq_true h9
      rw [hlen]; omega) (by rw [hlen]; exact hR.pos) (by rw [hlen]; exact hR.le) (by rw [hdl]; omega)
    clear h4 h5 hL hb5
    go_wp2_with fail
    refine h44.mono ?_
    rintro x w6 ⟨rfl, h6⟩
    clear h44 l0
    have ht6 : tok bl bl.length = tok bl' bl'.length := by
      have h9 := HTT.out
      subst h9
      rw [stamp_tok, stamp_length]
    rw [ht6] at h6
    have hends : ∀ j, j < bl'.length → 0 ≤ endOf bl' j ∧ endOf bl' j ≤ 9223372036854775807 := by
      intro j hj
      have h9 := HTT.out
      subst h9
      rw [stamp_end]
      exact hR.ends j (by rw [stamp_length] at hj; exact hj)
    have hids : bl'.map Prod.fst = bl.map Prod.fst := by
      have h9 := HTT.out
      subst h9
      exact stamp_ids bl i e'
    have hwf : ∀ x ∈ bl', (Lit.int .i64 x.1).wf = true := by
      intro x hx
      have h9 : x.1 ∈ bl.map Prod.fst := by rw [← hids]; exact List.mem_map_of_mem hx
      obtain ⟨z, hz, hzx⟩ := List.mem_map.1 h9
      rw [← hzx]
      exact hR.wf z hz
    have h54 := evict54 h6 (by rw [hlen]; exact hR.pos) (by rw [hlen]; exact hR.le) (by rw [hdl]; omega) (hd_lo (n := bl.length) (fun x hx => hR.inside x (del_sub hx))) hends hwf (by rw [hids]; exact hR.nodup) (fun x => by rw [hids]; exact hR.has x)
    clear h6 hends hwf hids ht6
    go_wp2_with fail
    refine h54.mono ?_
    rintro x w7 ⟨rfl, h7⟩
    clear h54
    go_wp2_with fail
    go_ret
    refine ⟨by rw [← Htk.out]; rfl, ?_⟩
    rw [HEE.out, HTT.out]
    exact h7.forget

set_option maxHeartbeats 1000000 in
theorem ZZrelease17 (h : StL Z B K R M P c w (tok bl bl.length) e 0 (decide (hd ss + 1 < bl.length)) bl ss D nm) (hR : Ready bl ss D) (i : Nat) (hi : (i : Int) ∈ ss) :
    Calls Try.prog 17 #[.pointer (some ⟨R, 0, none⟩), .pointer (some ⟨P, 0, none⟩), .int .i64 (i : Int)] w fun x w' => x = .returned (.int .i64 (tokens bl (del ss i) i)) ∧
      Evicted Z B K R M P c w' (IntKind.u64.wrap (e + 1)) (stamp bl i (IntKind.u64.wrap (e + 1))) (del ss i) := by
  have h45 := release45 h hR i hi
  clear h
  go_enter Try.func17, Try.ntmps17
  go_wp2_with fail
  refine h45.mono ?_
  rintro x w1 ⟨rfl, h1⟩
  clear h45
  go_wp2_with fail
  go_ret
  exact ⟨rfl, h1⟩

end

end Go.Proofs.Qxb6609224a
