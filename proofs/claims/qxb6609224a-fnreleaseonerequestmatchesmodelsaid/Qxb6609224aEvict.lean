/-
  (*record).evict (54).
-/
import Derived.Test.Qxb6609224aClone
import Derived.Deep.LoopGhost
namespace Go.Proofs.Qxb6609224a
open Go.RowKit Go.Maps

/-- 'delete(m, k)' as one step of a region that draws. -/
theorem step_delete_own {P : Program} {ops : Array Oper} {o : Oper} {a : Act} {w : World} {K : Act → World → Prop} {Q : Exit → Act → World → Prop} {E : Prop} (hg : o.guard = none) (m x : Operand) (t k : TypeId)
    (hop : o.op = Op.call { callee := Callee.builtin Builtin.delete, args := #[m, x], argTypes := #[t, k] })
    (e : TypeId) (Kd : Keyed P k) (ht : P.underlying t = some (.map k e)) (R : Value → Option (DataW Unit × List MemPlace)) (b n : Nat) (D : DataW Unit)
    (hm : a.eval m = .map (some b)) (hown : w.ownsMap P k R b n D) (key : Value) (kl : Lit) (hx : a.eval x = key) (hkey : keyOf P k key = some kl)
    (hK : ∀ w', w'.ownsMap P k R b n (D.del kl) → w.mapTurned w' b → K (a.put o.dst (.tuple #[])) w') :
    if Region.wanted o (yielded ops a.tmps) = true then Oper.wp P o a w K Q else E := by
  have hw : Region.wanted o (yielded ops a.tmps) = true := by simp [Region.wanted, hg]
  rw [if_pos hw]
  obtain ⟨w', hrun, r1, r2⟩ := hown.drop Kd ht hkey o.type
  unfold Oper.wp
  simp [execOp, hop, resolve, invoke, builtin, hm, hx, hrun, Result.andThen]
  exact hK w' r1 r2

/-- The tokens of the first m blocks. -/
def tok (bl : List (Int × Int × Int)) (m : Nat) : Int := if m = 0 then 0 else endOf bl (m - 1)
/-- The map holds just the blocks' ids. -/
def HasD (D : DataW Unit) (bl : List (Int × Int × Int)) : Prop := ∀ x : Int, Maps.has D (.int .i64 x) = true ↔ x ∈ bl.map Prod.fst

/-- What evict leaves: m blocks. -/
def Evicted (Z : World) (B : Nat) (K : List (Nat × Array Value × TypeId)) (R M P : Nat) (c : Int) (w' : World) (e : Int) (bl : List (Int × Int × Int)) (ss : List Int) : Prop :=
  ∃ m D' nm', StL Z B K R M P c w' (tok bl m) e (if m = 0 then 1 else 0) (decide (hd ss + 1 < m)) (bl.take m) ss D' nm' ∧ m ≤ bl.length ∧ HasD D' (bl.take m) ∧
      (tok bl m ≤ c ∨ ¬ hd ss + 1 < m) ∧ (m = bl.length ∨ (c < tok bl (m + 1) ∧ hd ss + 1 < m + 1))

theorem HasD.del {D : DataW Unit} {bl : List (Int × Int × Int)} {y : Int × Int × Int} (h : HasD D (bl ++ [y])) (hnd : ((bl ++ [y]).map Prod.fst).Nodup) : HasD (D.del (.int .i64 y.1)) bl := by
  intro x
  rw [List.map_append, List.nodup_append] at hnd
  by_cases e : x = y.1
  · subst e
    rw [Maps.has_del_same]
    constructor
    · intro h; cases h
    · intro hx; exact absurd rfl (hnd.2.2 _ hx _ (by simp))
  · rw [Maps.has_del_other (fun e' => e (by cases e'; rfl)), h x]
    simp [e]
theorem take_last {bl : List (Int × Int × Int)} {g l : Nat} {y : Int × Int × Int} (hy : bl[g - 1]? = some y) (hl : g - 1 = l) (hg : g ≠ 0) : bl.take g = bl.take l ++ [y] := by
  have : g = l + 1 := by omega
  subst this
  rw [List.take_add_one]
  simp at hy
  rw [hy]
  rfl

section
variable {Z : World} {B : Nat} {K : List (Nat × Array Value × TypeId)} {R M P : Nat} {c : Int} {w : World} {t e : Int} {sp : Nat} {lf : Int} {nl : Nat} {lv : List Value} {bl : List (Int × Int × Int)} {ss : List Int} {D : DataW Unit} {nm : Nat}

theorem endOf_take (bl : List (Int × Int × Int)) (m j : Nat) (h : j < m) : endOf (bl.take m) j = endOf bl j := by
  unfold endOf
  rw [List.getElem?_take, if_pos h]

theorem clone61n (n gb cap : Nat) (hn : bl.length = n) (ho : w.ownsRow B 86 4 (.slice (some ⟨gb, 0, none⟩) n cap) bl.length (flat bl)) (hB : B ≤ w.heap.size) (hl : bl.length ≤ 65536) :
    Calls Try.prog 61 #[.slice (some ⟨gb, 0, none⟩) n cap] w fun x w' => ∃ v', x = .returned v' ∧ w'.ownsRow B 86 4 v' bl.length (flat bl) ∧ Below w.heap.size w w' := by
  subst hn
  exact clone61 gb cap ho hB hl

set_option maxRecDepth 100000 in
set_option maxHeartbeats 4000000 in
theorem evict54 (h : StL Z B K R M P c w (tok bl bl.length) e 0 (decide (hd ss + 1 < bl.length)) bl ss D nm) (h0 : 0 < bl.length) (hl : bl.length ≤ 65536) (hs : ss.length ≤ 65536) (hh : -1 ≤ hd ss)
    (hE : ∀ j, j < bl.length → 0 ≤ endOf bl j ∧ endOf bl j ≤ 9223372036854775807) (hwf : ∀ x ∈ bl, (Lit.int .i64 x.1).wf = true) (hnd : (bl.map Prod.fst).Nodup) (hD : HasD D bl) :
    Calls Try.prog 54 #[.pointer (some ⟨R, 0, none⟩)] w fun x w' => x = .returned (.tuple #[]) ∧ Evicted Z B K R M P c w' e bl ss := by
  go_enter Try.func54, Try.ntmps54
  go_wp2_with fail
  go_loopg [2] bl.length (fun m _ wr => ∃ D' nm', StL Z B K R M P c wr (tok bl m) e (if m = 0 then 1 else 0) (decide (hd ss + 1 < m)) (bl.take m) ss D' nm' ∧ m ≤ bl.length ∧ HasD D' (bl.take m) ∧ Hid (m = bl.length ∨ (c < tok bl (m + 1) ∧ hd ss + 1 < m + 1)))
  case atStart =>
    refine ⟨D, nm, ?_, Nat.le_refl _, by rw [List.take_length]; exact hD, Or.inl rfl⟩
    rw [List.take_length, if_neg (by omega)]
    exact h
  case round =>
    clear h hD
    obtain ⟨D', nm', hst, hm, hD', hB⟩ := hrel
    by_cases hc : c < tok bl gk
    · by_cases hf : hd ss + 1 < gk
      · have hfd : decide (hd ss + 1 < (gk : Int)) = true := by simp; omega
        rw [hfd] at hst
        have hgk : gk ≠ 0 := by omega
        rw [if_neg hgk] at hst
        obtain ⟨vb, vs, vl, vsp, hat⟩ := hst
        obtain ⟨gl, cl, rfl, _, _⟩ := hat.ol.form (by decide)
        have r0 := hat.r0
        have r1 := hat.r1
        have r3 := hat.r3
        have HT : Hid (c < tok bl gk) := hc
        generalize htk : tok bl gk = T at *
        have Htk : Hid (tok bl gk = T) := htk
        have hd0 : decide (c < T) = true := by simp; exact hc
        go_wp2_with fail
        go_quiet (fail)
        go_wp2_with fail
        refine (Pop59 ⟨_, _, _, _, hat.drewN _⟩).mono ?_
        clear hat r0 r1 r3 hd0
        rintro x w1 ⟨rfl, vb1, vs1, vl1, vsp1, h1⟩
        have hlen : (bl.take gk).length = gk := by rw [List.length_take]; omega
        obtain ⟨gb, cb, rfl, _, _⟩ := h1.ob.form (by omega)
        have has := as29 ⟨P, 0, none⟩
        obtain ⟨y, hy⟩ : ∃ y, bl[gk - 1]? = some y := ⟨_, List.getElem?_eq_getElem (by omega)⟩
        have hyt : (bl.take gk)[gk - 1]? = some y := by rw [List.getElem?_take, if_pos (by omega)]; exact hy
        obtain ⟨cid, cend, cus, cbr⟩ := blk_cells h1.ob (gk - 1) y hyt
        have r2 := h1.r2
        have p2 := h1.p2
        obtain ⟨l, hlg⟩ : ∃ l, gk - 1 = l := ⟨_, rfl⟩
        rw [hlg] at cid cend cus cbr
        have e1 : IntKind.i64.wrap ((gk : Int) - 1) = (l : Int) := by rw [IntWalk.i64_in _ (by omega)]; omega
        have e2 : (gk : Int) - 1 = (l : Int) := by omega
        have hlb : l < gk := by omega
        have hgb : gk ≤ 65536 := by omega
        have hid : keyOf Try.prog 2 (.int .i64 y.1) = some (.int .i64 y.1) := keyOf_int_mk Try.underlying2 (hwf y (List.mem_of_getElem? hy))
        have Hy : Hid (bl[gk - 1]? = some y) := hy
        have Hlg : Hid (gk - 1 = l) := hlg
        have Hlen : Hid ((bl.take gk).length = gk) := hlen
        rw [hlen] at p2
        clear hy hyt hlg hlen
        have hom := h1.om
        go_upto_region 3 with fail
        go_cut [2, 3] (fun p l' wx => p = .pointer (some ⟨P, 0, none⟩) ∧ l' = .int .i64 (l : Int) ∧ StAt Z B K R M P c wx T e 0 (-1) 0 [] (bl.take gk) ss (D'.del (.int .i64 y.1)) nm' (.slice (some ⟨gb, 0, none⟩) (bl.take gk).length cb) vs1 vl1 vsp1)
        case first =>
          go_region_law (refine step_delete_own rfl (.tmp 37) (.tmp 45) 77 2 rfl 88 law2 Try.underlying77 placeElem M nm' D' (by simp [Act.eval]) hom.drew _ _ (by simp [Act.eval]) hid ?_; intro w2 hown2 hturn2)
          all_goals
            go_wp2_with fail
            go_meet
            case rel => exact ⟨rfl, rfl, h1.drew.turnM hturn2.grown hown2⟩
        case rest =>
          clear h1 hom cid cend cus cbr r2 p2
          obtain ⟨rfl, rfl, h2⟩ := hcut
          obtain ⟨cid, cend, cus, cbr⟩ := blk_cells h2.ob (gk - 1) y (by rw [List.getElem?_take, if_pos (by omega)]; exact Hy.out)
          rw [Hlg.out] at cid cend cus cbr
          have r1 := h2.r1
          have f1 := h2.fR 1
          have p2 := h2.p2
          rw [Hlen.out] at p2
          have hyT : y.2.1 = T := by
            have h3 : endOf bl (gk - 1) = y.2.1 := by unfold endOf; rw [Hy.out]; rfl
            rw [← h3, ← htk]
            unfold tok
            rw [if_neg hgk]
          have hT := hE (gk - 1) (by omega)
          have hTk : endOf bl (gk - 1) = T := by
            rw [← htk]
            unfold tok
            rw [if_neg hgk]
          rw [hTk] at hT
          have hSb : 0 ≤ tok bl l ∧ tok bl l ≤ 9223372036854775807 := by
            unfold tok
            split
            · omega
            · exact hE (l - 1) (by omega)
          have hcall : Calls Try.prog 60 #[.pointer (some ⟨P, 0, none⟩), .int .i64 (l : Int)] wc.drew fun x w' => x = .returned (.int .i64 (tok bl l)) ∧ w' = wc.drew := by
            have h3 := start60 _ _ _ _ h2.drew l (by rw [Hlen.out]; omega) (by rw [Hlen.out]; omega)
            have h4 : (if l = 0 then (0 : Int) else endOf (bl.take gk) (l - 1)) = tok bl l := by
              unfold tok
              split
              · rfl
              · exact endOf_take bl gk (l - 1) (by omega)
            rw [h4] at h3
            exact h3
          rw [hyT] at cend
          generalize hSS : tok bl l = S at *
          obtain ⟨hT0, hT1⟩ := hT
          obtain ⟨hS0, hS1⟩ := hSb
          have e3 : IntKind.i64.wrap (T - S) = T - S := IntWalk.i64_in _ (by omega)
          have e4 : IntKind.i64.wrap (T - (T - S)) = S := by rw [IntWalk.i64_in _ (by omega)]; omega
          have e5 : T - (T - S) = S := by omega
          have e6 : IntKind.i64.wrap S = S := IntWalk.i64_in _ (by omega)
          clear htk hTk hyT
          have HSS : Hid (tok bl l = S) := hSS
          clear hSS
          go_upto_region 4 with fail
          go_cut [2, 3] (fun p l' wx => p = .pointer (some ⟨P, 0, none⟩) ∧ l' = .int .i64 (l : Int) ∧ StAt Z B K R M P c wx S e 0 (-1) 0 [] (bl.take gk) ss (D'.del (.int .i64 y.1)) nm' (.slice (some ⟨gb, 0, none⟩) (bl.take gk).length cb) vs1 vl1 vsp1)
          case first =>
            go_region_with (go_at_call 60; refine hcall.mono ?_; rintro x w3 ⟨rfl, rfl⟩)
            all_goals
              go_wp2_with fail
              go_meet
              case rel => exact ⟨rfl, rfl, h2.drew.setR h2.spare rfl⟩
          case rest =>
            clear hcall h2 cid cend cus cbr r1 f1 p2 e3 e4 e5 e6
            obtain ⟨rfl, rfl, h2⟩ := hcut
            have p2 := h2.p2
            have f2 := h2.fP 2
            rw [Hlen.out] at p2
            have hl2 : (bl.take l).length = l := by rw [List.length_take]; omega
            have hlg2 : l ≤ (bl.take gk).length := by rw [Hlen.out]; omega
            have ho := own_shrink h2.ob hlg2
            rw [← flat_take, List.take_take, Nat.min_eq_left (by omega)] at ho
            have ho' : wc.ownsRow B 86 4 (.slice (some ⟨gb, 0, none⟩) l cb) (bl.take l).length (flat (bl.take l)) := by rw [hl2]; exact ho
            have h3 := h2.newB (bl' := bl.take l) (grown_refl _ _) ho'
            have hcb : l ≤ cb ∧ cb ≤ 9223372036854775807 := by
              rcases ho.2 with ⟨h0, _⟩ | ⟨g', cap', cur, hv, hB, hg, hnc, hcm, hcs, ht⟩
              · cases h0
              · cases hv; exact ⟨hnc, hcm⟩
            obtain ⟨hcb1, hcb2⟩ := hcb
            have hcl : Calls Try.prog 61 #[.slice (some ⟨gb, 0, none⟩) l cb] (wc.setCell ⟨P, 2, none⟩ (.slice (some ⟨gb, 0, none⟩) l cb)) fun x w' => ∃ v', x = .returned v' ∧ w'.ownsRow B 86 4 v' (bl.take l).length (flat (bl.take l)) ∧ Below (wc.setCell ⟨P, 2, none⟩ (.slice (some ⟨gb, 0, none⟩) l cb)).heap.size (wc.setCell ⟨P, 2, none⟩ (.slice (some ⟨gb, 0, none⟩) l cb)) w' := by
              exact clone61n (bl := bl.take l) l gb cb hl2 h3.ob h3.size (by omega)
            have Hl2 : Hid ((bl.take l).length = l) := hl2
            clear ho ho' hl2 hlg2 h2
            go_upto_region 7 with fail
            go_cut [2, 3, 86] (fun p l' v wx => p = .pointer (some ⟨P, 0, none⟩) ∧ l' = .int .i64 (l : Int) ∧ (∃ b, v = .bool b) ∧ wx = wc.setCell ⟨P, 2, none⟩ (.slice (some ⟨gb, 0, none⟩) l cb))
            case first =>
              by_cases hk1 : 64 < cb
              · by_cases hk2 : l ≤ cb / 4
                · go_wp2_with fail
                  go_meet
                  case rel => exact ⟨rfl, rfl, ⟨_, rfl⟩, rfl⟩
                · go_wp2_with fail
                  go_meet
                  case rel => exact ⟨rfl, rfl, ⟨_, rfl⟩, rfl⟩
              · go_wp2_with fail
                go_meet
                case rel => exact ⟨rfl, rfl, ⟨_, rfl⟩, rfl⟩
            case rest =>
              obtain ⟨rfl, rfl, ⟨b, rfl⟩, rfl⟩ := hcut
              clear p2 f2
              have p2 := h3.p2
              have f2 := h3.fP 2
              have hDl : HasD (D'.del (.int .i64 y.1)) (bl.take l) := by
                have h8 := take_last Hy.out Hlg.out hgk
                rw [h8] at hD'
                refine hD'.del ?_
                rw [← h8]
                exact (hnd.sublist ((List.take_sublist gk bl).map Prod.fst))
              have hBl : Hid (l = bl.length ∨ (c < tok bl (l + 1) ∧ hd ss + 1 < (l : Int) + 1)) := by
                refine Or.inr ⟨?_, by omega⟩
                have h9 := Htk.out
                rw [show l + 1 = gk from by have := Hlg.out; omega, h9]
                exact HT.out
              go_upto_if 86 with fail
              go_cut [2, 3] (fun p l' wx => p = .pointer (some ⟨P, 0, none⟩) ∧ l' = .int .i64 (l : Int) ∧ St Z B K R M P c wx S e 0 (-1) 0 [] (bl.take l) ss (D'.del (.int .i64 y.1)) nm')
              case first =>
                cases b
                · go_wp2_with fail
                  go_meet
                  case rel => exact ⟨rfl, rfl, _, _, _, _, h3⟩
                · go_wp2_with fail
                  refine hcl.mono ?_
                  rintro x w5 ⟨v', rfl, ho5, hb5⟩
                  obtain ⟨a5, n5, c5, rfl⟩ : ∃ a5 n5 c5, v' = .slice a5 n5 c5 := by
                    rcases ho5.2 with ⟨h9, _⟩ | ⟨g9, cap9, cur9, h9, _⟩
                    · exact ⟨_, _, _, h9⟩
                    · exact ⟨_, _, _, h9⟩
                  have h5 := h3.later hb5
                  have p5 := h5.p2
                  have f5 := h5.fP 2
                  clear hcl h3 p2 f2
                  go_wp2_with fail
                  go_meet
                  case rel => exact ⟨rfl, rfl, _, _, _, _, h5.newB (grown_refl _ _) ho5⟩
              case rest =>
                clear hcl h3 p2 f2
                obtain ⟨rfl, rfl, hst⟩ := hcut
                have hF : StL Z B K R M P c wc S e 0 false (bl.take l) ss (D'.del (.int .i64 y.1)) nm' := hst
                clear hst
                clear hE hwf hnd hD' hB h0 HT Htk Hy
                by_cases hl0 : l = 0
                · subst hl0
                  have hF' : St Z B K R M P c wc S e 0 (-1) 0 [] (bl.take 0) ss (D'.del (.int .i64 y.1)) nm' := hF
                  clear hF
                  obtain ⟨vb6, vs6, vl6, vsp6, h6⟩ := hF'
                  obtain ⟨a6, c6, rfl, h7⟩ := h6.spare
                  obtain ⟨rfl, rfl⟩ := h7 rfl
                  have p0 := h6.p0
                  have r5 := h6.r5
                  have f5 := h6.fR 5
                  obtain ⟨i0, hi, hz0, hz1, hz2⟩ := info_parts info29
                  have h8 := h6.later (below_alloc wc (.cells #[.pointer (some ⟨P, 0, none⟩)] 29))
                  have hsz := h8.size
                  go_wp2_with (first
                    | (at_builtin; refine wpList_append_lies _ rfl (.tmp 132) (.tmp 134) 78 rfl B 29 i0 _ 1 8 Try.underlying78 hi hz0 hz1 hz2 rfl (by decide) (.slice none 0 0) 0 [] rfl (World.ownsRow_nil _ _ _ _) ⟨wc.heap.size, 0, none⟩ 1 1 [.pointer (some ⟨P, 0, none⟩)] rfl rfl (news_block wc _ 29) (by intro u hu; simp at hu; subst hu; rfl) (by decide) (by unfold maxLen; omega) (by omega) hsz _ rfl ?_; intro g9 cap9 w9 hown9 hgrow9 hat9 hlt9; have h9 := h8.later (w1 := w9) ⟨hgrow9.os, hgrow9.tape, hgrow9.output, hgrow9.size, fun k hk => hgrow9.block k hk (by simp [Value.ownBlock])⟩; have r59 := h9.r5; have f59 := h9.fR 5))
                  clear h8 h6 p0 r5 f5 hown9 hgrow9 hat9 hlt9 hsz
                  go_roundg 0
                  case measure => omega
                  case rel =>
                    refine ⟨D'.del (.int .i64 y.1), nm', ?_, Nat.zero_le _, hDl, hBl⟩
                    have hd9 : decide (hd ss + 1 < ((0 : Nat) : Int)) = false := by simp; omega
                    rw [hd9]
                    have h10 := h9.setR (i := 5) (u := .slice (some ⟨g9, 0, none⟩) 1 cap9) (t' := S) (e' := e) (sp' := 1) (vsp' := .slice (some ⟨g9, 0, none⟩) 1 cap9) ⟨_, _, rfl, fun h => by cases h⟩ rfl
                    rw [← HSS.out] at h10
                    exact ⟨_, _, _, _, h10⟩
                · have hlpos : 0 < l := by omega
                  have hfl := file44 false hF (fun h => by cases h) (by rw [Hl2.out]; exact hlpos) (by rw [Hl2.out]; omega) hs
                  rw [Hl2.out] at hfl
                  go_wp2_with fail
                  refine hfl.mono ?_
                  rintro x w6 ⟨rfl, h6⟩
                  clear hfl hF
                  go_wp2_with fail
                  go_roundg l
                  case measure => omega
                  case rel =>
                    refine ⟨D'.del (.int .i64 y.1), nm', ?_, by omega, hDl, hBl⟩
                    rw [if_neg hl0, HSS.out]
                    exact h6
      · have hfd : decide (hd ss + 1 < (gk : Int)) = false := by simp; omega
        have HE := hst
        rw [hfd] at hst
        obtain ⟨vb, vs, vl, vsp, hat⟩ := hst
        obtain ⟨a, cap, rfl⟩ : ∃ a cap, vl = .slice a 0 cap := by
          rcases hat.ol.2 with ⟨e, _⟩ | ⟨g, cap, cur, e, _⟩
          · exact ⟨none, 0, e⟩
          · exact ⟨_, cap, e⟩
        have r0 := hat.r0
        have r1 := hat.r1
        have r3 := hat.r3
        have HF : Hid (∀ q, Evicted Z B K R M P c (wr.drewN q) e bl ss) := by
          intro q
          refine ⟨gk, D', nm', ?_, hm, hD', Or.inr hf, hB.out⟩
          obtain ⟨vb, vs, vl, vsp, hat⟩ := HE
          exact ⟨_, _, _, _, hat.drewN q⟩
        have hd0 : decide (c < tok bl gk) = true := by simp; exact hc
        clear hat HE hB hD' hE hwf hnd
        generalize tok bl gk = T at *
        go_wp2_with fail
        go_quiet (fail)
        go_wp2_with fail
        go_end0
        exact ⟨rfl, HF.out _⟩
    · obtain ⟨vb, vs, vl, vsp, hat⟩ := hst
      have r0 := hat.r0
      have r1 := hat.r1
      have HF : Hid (∀ q, Evicted Z B K R M P c (wr.drewN q) e bl ss) := fun q => ⟨gk, D', nm', ⟨_, _, _, _, hat.drewN q⟩, hm, hD', Or.inl (by omega), hB.out⟩
      have hd0 : decide (c < tok bl gk) = false := by simp; omega
      clear hat hB hD' hE hwf hnd
      generalize tok bl gk = T at *
      go_wp2_with fail
      go_quiet (fail)
      go_wp2_with fail
      go_end0
      exact ⟨rfl, HF.out _⟩

end

end Go.Proofs.Qxb6609224a
