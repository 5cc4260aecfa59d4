/-
  THE LAW's STEPS: the contracts, joined as FnReleaseOneRequestMatchesModel calls them.
-/
import Derived.Test.Qxb6609224aPlain2
namespace Go.Proofs.Qxb6609224a
open Go.RowKit Go.Maps

/-- The state while it is built: m blocks, s stops. -/
def Built (Z : World) (B R M P : Nat) (c t e : Int) (fi fe fs : Nat → Int) (m s : Nat) (w : World) : Prop :=
  ∃ D nm, St Z B [] R M P c w t e 0 (-1) 0 [] (mkb m fi fe) (mk s fs) D nm ∧ HasD D (mkb m fi fe) ∧ nm ≤ m
/-- The path filed. -/
def Filed (Z : World) (B : Nat) (K : List (Nat × Array Value × TypeId)) (R M P : Nat) (c t e : Int) (fi fe fs : Nat → Int) (k n : Nat) (w : World) : Prop :=
  ∃ D nm, StL Z B K R M P c w t e 0 (decide (hd (mk n fs) + 1 < k)) (mkb k fi fe) (mk n fs) D nm ∧ HasD D (mkb k fi fe)
/-- One request released; kp blocks stay. -/
def Final (Z : World) (B : Nat) (K : List (Nat × Array Value × TypeId)) (R M P : Nat) (c e : Int) (fi fe : Nat → Int) (r : List Int) (i k kp : Nat) (w : World) : Prop :=
  ∃ D nm, StL Z B K R M P c w (if kp = 0 then 0 else fe (kp - 1)) e (if kp = 0 then 1 else 0) (decide (hd r + 1 < kp)) ((stamp (mkb k fi fe) i e).take kp) r D nm ∧ (∀ j, j < k → Maps.has D (.int .i64 (fi j)) = decide (j < kp)) ∧ kp ≤ k

section
variable {Z : World} {B : Nat} {K : List (Nat × Array Value × TypeId)} {R M P : Nat} {c t e : Int} {fi fe fs : Nat → Int} {m s k n : Nat} {w : World}

theorem St.below {sp : Nat} {lf : Int} {nl : Nat} {lv : List Value} {bl : List (Int × Int × Int)} {ss : List Int} {D : DataW Unit} {nm : Nat} (h : St Z B K R M P c w t e sp lf nl lv bl ss D nm) : Below B Z w := by
  obtain ⟨_, _, _, _, h⟩ := h
  exact h.below
theorem Built.below (h : Built Z B R M P c t e fi fe fs m s w) : Below B Z w := by
  obtain ⟨_, _, h, _⟩ := h
  exact h.below
theorem Filed.below (h : Filed Z B K R M P c t e fi fe fs k n w) : Below B Z w := by
  obtain ⟨_, _, h, _⟩ := h
  exact St.below h
theorem Final.below {r : List Int} {i kp : Nat} (h : Final Z B K R M P c e fi fe r i k kp w) : Below B Z w := by
  obtain ⟨_, _, h, _⟩ := h
  exact St.below h
theorem Built.drewN (h : Built Z B R M P c t e fi fe fs m s w) (q : Nat) : Built Z B R M P c t e fi fe fs m s (w.drewN q) := by
  obtain ⟨D, nm, ⟨_, _, _, _, h⟩, h2⟩ := h
  exact ⟨D, nm, ⟨_, _, _, _, h.drewN q⟩, h2⟩
theorem Final.drewN {r : List Int} {i kp : Nat} (h : Final Z B K R M P c e fi fe r i k kp w) (q : Nat) : Final Z B K R M P c e fi fe r i k kp (w.drewN q) := by
  obtain ⟨D, nm, ⟨_, _, _, _, h⟩, h2⟩ := h
  exact ⟨D, nm, ⟨_, _, _, _, h.drewN q⟩, h2⟩
theorem Built.drew (h : Built Z B R M P c t e fi fe fs m s w) : Built Z B R M P c t e fi fe fs m s w.drew := by
  obtain ⟨D, nm, ⟨_, _, _, _, h⟩, h2⟩ := h
  exact ⟨D, nm, ⟨_, _, _, _, h.drew⟩, h2⟩
theorem Filed.base (h : Filed Z B K R M P c t e fi fe fs k n w) : B ≤ w.heap.size := by
  obtain ⟨D, nm, ⟨_, _, _, _, h⟩, h2⟩ := h
  exact h.size

theorem new11 (c t e : Int) (fi fe fs : Nat → Int) (w : World) : Calls Try.prog 11 #[.int .i64 c, .int .i64 t, .int .u64 e] w fun x w1 => ∃ R, x = .returned (.pointer (some ⟨R, 0, none⟩)) ∧
    Calls Try.prog 12 #[] w1 fun x w2 => ∃ P, x = .returned (.pointer (some ⟨P, 0, none⟩)) ∧ Built w w.heap.size R w.heap.size P c t e fi fe fs 0 0 w2 := by
  refine (newRecord11 c t e w).mono ?_
  rintro x w1 ⟨rfl, rfl⟩
  refine ⟨_, rfl, ?_⟩
  refine (newPath12 _).mono ?_
  rintro x w2 ⟨rfl, rfl⟩
  refine ⟨w.heap.size + 2, ?_, .map [], 0, ⟨_, _, _, _, made c t e w⟩, HasD.nil, Nat.le_refl _⟩
  simp

theorem grow13 (h : Built Z B R M P c t e fi fe fs m 0 w) (hm : m < 65536) (hid : (Lit.int .i64 (fi m)).wf = true) :
    Calls Try.prog 13 #[.pointer (some ⟨P, 0, none⟩), .int .i64 (fi m), .int .i64 (fe m)] w fun x w1 => x = .returned (.tuple #[]) ∧ Below B Z w1 ∧
      Calls Try.prog 14 #[.pointer (some ⟨R, 0, none⟩), .int .i64 (fi m), .pointer (some ⟨P, 0, none⟩), .int .i64 (m : Int)] w1 fun x w2 => x = .returned (.tuple #[]) ∧ Built Z B R M P c t e fi fe fs (m + 1) 0 w2 := by
  obtain ⟨D, nm, h, hD, hnm⟩ := h
  refine (appendBlock13 h (by rw [mkb_length]; omega) (fi m) (fe m)).mono ?_
  rintro x w1 ⟨rfl, h1⟩
  refine ⟨rfl, h1.below, (placeBlock14 h1 (by omega) (fi m) m _ hid).mono ?_⟩
  rintro x w2 ⟨rfl, h2⟩
  have hM : IsMap D := by
    obtain ⟨_, _, _, _, h⟩ := h
    exact h.om.isMap
  refine ⟨rfl, D.put (.int .i64 (fi m)) (.agg []), nm + 1, ?_, ?_, by omega⟩
  · rw [mkb_succ]; exact h2
  · rw [mkb_succ]; exact hD.put hM

theorem grow15 (h : Built Z B R M P c t e fi fe fs k s w) (hs : s < 65536) :
    Calls Try.prog 15 #[.pointer (some ⟨P, 0, none⟩), .int .i64 (fs s)] w fun x w1 => x = .returned (.tuple #[]) ∧ Built Z B R M P c t e fi fe fs k (s + 1) w1 := by
  obtain ⟨D, nm, h, hD, hnm⟩ := h
  refine (appendStop15 h (by rw [mk_length]; omega) (fs s)).mono ?_
  rintro x w1 ⟨rfl, h1⟩
  refine ⟨rfl, D, nm, ?_, hD, hnm⟩
  rw [mk_succ]; exact h1

theorem file16 (h : Built Z B R M P c t e fi fe fs k n w) (hk0 : 0 < k) (hk : k ≤ 65536) (hn : n ≤ 65536) :
    Calls Try.prog 16 #[.pointer (some ⟨R, 0, none⟩), .pointer (some ⟨P, 0, none⟩)] w fun x w1 => x = .returned (.tuple #[]) ∧ Filed Z B [] R M P c t e fi fe fs k n w1 := by
  obtain ⟨D, nm, h, hD, hnm⟩ := h
  have h0 : StL Z B [] R M P c w t e 0 false (mkb k fi fe) (mk n fs) D nm := h
  refine (ZZfile16 false h0 (fun h => by cases h) (by rw [mkb_length]; omega) (by rw [mkb_length]; omega) (by rw [mk_length]; omega)).mono ?_
  rintro x w1 ⟨rfl, h1⟩
  rw [mkb_length] at h1
  exact ⟨rfl, D, nm, h1, hD⟩

theorem Filed.keep {w1 : World} (h : Filed Z B K R M P c t e fi fe fs k n w) (hb : Below w.heap.size w w1) (g : Nat) (cur : Array Value) (hg : w.heap.size ≤ g) (hX : w1.heap[g]? = some (.cells cur 3 (0, 0))) :
    Filed Z B ((g, cur, 3) :: K) R M P c t e fi fe fs k n w1 := by
  obtain ⟨D, nm, ⟨vb, vs, vl, vsp, h⟩, hD⟩ := h
  refine ⟨D, nm, ⟨vb, vs, vl, vsp, (h.later hb).keep g cur 3 hX ?_ (Or.inl rfl)⟩, hD⟩
  intro hv
  have := (h.os.lt _ hv).2
  omega

/-- What the law's tests tell. -/
structure Facts (k n : Nat) (fi fe fs : Nat → Int) (i : Nat) : Prop where
  k0 : 0 < k
  kle : k ≤ 65536
  nle : n ≤ 65536
  ends : ∀ j, j < k → 0 ≤ fe j ∧ fe j ≤ 9223372036854775807
  wf : ∀ j, j < k → (Lit.int .i64 (fi j)).wf = true
  inj : Inj k fi
  sorted : (mk n fs).Pairwise (· ≤ ·)
  inside : ∀ x ∈ mk n fs, 0 ≤ x ∧ x < k
  mem : (i : Int) ∈ mk n fs

theorem release17 {i : Nat} (F : Facts k n fi fe fs i) (h : Filed Z B K R M P c (fe (k - 1)) e fi fe fs k n w) {ft kp sh : Nat}
    (hft : ft ≤ k) (h1 : ∀ t, t < ft → fe t ≤ c) (h2 : ∀ t, ft ≤ t → t < k → c < fe t)
    (hkp : (kp : Int) = if (ft : Int) < hd ((mk n fs).erase i) + 1 then hd ((mk n fs).erase i) + 1 else ft)
    (s1 : sh ≤ i + 1) (s2 : (sh : Int) ≤ hd ((mk n fs).erase i) + 1) (s3 : ¬ (sh ≤ i ∧ (sh : Int) ≤ hd ((mk n fs).erase i))) :
    Calls Try.prog 17 #[.pointer (some ⟨R, 0, none⟩), .pointer (some ⟨P, 0, none⟩), .int .i64 (i : Int)] w fun x w' => x = .returned (.int .i64 (if sh = 0 then 0 else fe (sh - 1))) ∧
      Final Z B K R M P c (IntKind.u64.wrap (e + 1)) fi fe ((mk n fs).erase i) i k kp w' := by
  obtain ⟨D, nm, h, hD⟩ := h
  have hk0 := F.k0
  have ht : fe (k - 1) = tok (mkb k fi fe) (mkb k fi fe).length := by rw [mkb_length, tok_mkb (Nat.le_refl _), if_neg (by omega)]
  have hik := F.inside _ F.mem
  have hr : ∀ x ∈ (mk n fs).erase (i : Int), 0 ≤ x ∧ x < k := fun x hx => F.inside x (List.mem_of_mem_erase hx)
  have hR : Ready (mkb k fi fe) (mk n fs) D := by
    refine ⟨by rw [mkb_length]; exact F.k0, by rw [mkb_length]; exact F.kle, by rw [mk_length]; exact F.nle, ?_, ?_, ?_, hD, F.sorted, by rw [mkb_length]; exact F.inside⟩
    · intro j hj
      rw [mkb_length] at hj
      rw [mkb_end hj]
      exact F.ends j hj
    · intro x hx
      simp only [mkb, List.mem_map, List.mem_range] at hx
      obtain ⟨j, hj, rfl⟩ := hx
      exact F.wf j hj
    · rw [mkb_ids]; exact mk_nodup F.inj
  rw [ht] at h
  have hlen := mkb_length k fi fe
  rw [← hlen] at h
  rw [hlen] at h
  have h' : StL Z B K R M P c w (tok (mkb k fi fe) (mkb k fi fe).length) e 0 (decide (hd (mk n fs) + 1 < (mkb k fi fe).length)) (mkb k fi fe) (mk n fs) D nm := by
    rw [hlen]; rw [hlen] at h; exact h
  refine (ZZrelease17 h' hR i F.mem).mono ?_
  rintro x w' ⟨rfl, m, D', nm', hst, hm, hD', A, Bq⟩
  rw [del_erase F.sorted F.mem] at hst A Bq ⊢
  rw [stamp_length, hlen] at hm Bq
  have hhd : hd ((mk n fs).erase (i : Int)) < k := by
    by_cases h0 : 0 < ((mk n fs).erase (i : Int)).length
    · exact (hr _ (hd_mem h0)).2
    · rw [hd_nil (by omega)]; omega
  have hmk := keep_eq (k := k) (fe := fe) (T := tok (stamp (mkb k fi fe) i (IntKind.u64.wrap (e + 1)))) (fun m hm => by rw [stamp_tok, tok_mkb hm]) hft h1 h2 (hd_lo hr) hhd hm A Bq
  have hmkp : m = kp := by omega
  subst hmkp
  refine ⟨?_, D', nm', ?_, ?_, hm⟩
  · rw [shared_eq (k := k) (fi := fi) (by omega) hr s1 s2 s3]
  · rw [stamp_tok, tok_mkb hm] at hst
    exact hst
  · intro j hj
    rw [Bool.eq_iff_iff, hD' (fi j), List.map_take, stamp_ids, mkb_ids, decide_eq_true_iff]
    constructor
    · intro hx
      obtain ⟨q, hq⟩ := List.getElem?_of_mem hx
      rw [List.getElem?_take] at hq
      split at hq
      · rename_i hqm
        rw [mk_get (by omega)] at hq
        have := F.inj q j (by omega) hj (Option.some.inj hq)
        omega
      · cases hq
    · intro hjm
      apply List.mem_of_getElem? (i := j)
      rw [List.getElem?_take, if_pos hjm, mk_get hj]

variable {r : List Int} {i kp : Nat}
theorem fin18 (h : Final Z B K R M P c e fi fe r i k kp w) : Calls Try.prog 18 #[.pointer (some ⟨R, 0, none⟩)] w fun x w' => x = .returned (.int .u64 e) ∧ w' = w := by
  obtain ⟨D, nm, h, _⟩ := h
  exact ended18 h
theorem fin19 (h : Final Z B K R M P c e fi fe r i k kp w) : Calls Try.prog 19 #[.pointer (some ⟨P, 0, none⟩)] w fun x w' => x = .returned (.int .i64 (kp : Int)) ∧ w' = w := by
  obtain ⟨D, nm, h, _, hk⟩ := h
  have := len19 h
  rw [List.length_take, stamp_length, mkb_length, Nat.min_eq_left hk] at this
  exact this
theorem fin20 (h : Final Z B K R M P c e fi fe r i k kp w) : Calls Try.prog 20 #[.pointer (some ⟨R, 0, none⟩)] w fun x w' => x = .returned (.int .i64 (if kp = 0 then 0 else fe (kp - 1))) ∧ w' = w := by
  obtain ⟨D, nm, h, _⟩ := h
  exact tokens20 h
theorem fin21 (h : Final Z B K R M P c e fi fe r i k kp w) : Calls Try.prog 21 #[.pointer (some ⟨P, 0, none⟩)] w fun x w' => x = .returned (.int .i64 (r.length : Int)) ∧ w' = w := by
  obtain ⟨D, nm, h, _⟩ := h
  exact stops21 h
theorem fin22 (h : Final Z B K R M P c e fi fe r i k kp w) : Calls Try.prog 22 #[.pointer (some ⟨R, 0, none⟩)] w fun x w' => x = .returned (.int .i64 (if hd r + 1 < kp then 1 else 0)) ∧ w' = w := by
  obtain ⟨D, nm, h, _⟩ := h
  refine (leaves22 h).mono ?_
  rintro x w' ⟨rfl, rfl⟩
  refine ⟨?_, rfl⟩
  by_cases hc : hd r + 1 < (kp : Int) <;> simp [hc]
theorem fin23 (h : Final Z B K R M P c e fi fe r i k kp w) : Calls Try.prog 23 #[.pointer (some ⟨R, 0, none⟩)] w fun x w' => x = .returned (.int .i64 (if kp = 0 then 1 else 0)) ∧ w' = w := by
  obtain ⟨D, nm, h, _⟩ := h
  refine (spare23 h).mono ?_
  rintro x w' ⟨rfl, rfl⟩
  refine ⟨?_, rfl⟩
  by_cases hc : kp = 0 <;> simp [hc]
theorem fin27 (h : Final Z B K R M P c e fi fe r i k kp w) (hs : r.length ≤ 65536) (j : Nat) (x : Int) (hx : r[j]? = some x) : Calls Try.prog 27 #[.pointer (some ⟨P, 0, none⟩), .int .i64 (j : Int)] w fun y w' => y = .returned (.int .i64 x) ∧ w' = w := by
  obtain ⟨D, nm, h, _⟩ := h
  exact stop27 h hs j x hx
theorem fin24 (h : Final Z B K R M P c e fi fe r i k kp w) (j : Nat) (hj : j < k) (hid : (Lit.int .i64 (fi j)).wf = true) : Calls Try.prog 24 #[.pointer (some ⟨R, 0, none⟩), .int .i64 (fi j)] w fun y w' => y = .returned (.bool (decide (j < kp))) ∧ Final Z B K R M P c e fi fe r i k kp w' := by
  obtain ⟨D, nm, h, h1, h2⟩ := h
  refine (has24 h (fi j) hid).mono ?_
  rintro x w' ⟨rfl, h3⟩
  exact ⟨by rw [h1 j hj], D, nm, h3, h1, h2⟩
theorem fin25 (h : Final Z B K R M P c e fi fe r i k kp w) (hk : k ≤ 65536) (j : Nat) (hj : j < kp) : Calls Try.prog 25 #[.pointer (some ⟨P, 0, none⟩), .int .i64 (j : Int)] w fun y w' => y = .returned (.int .u64 (if j = i then e else 0)) ∧ w' = w := by
  obtain ⟨D, nm, h, _, h2⟩ := h
  refine used25 h (by rw [List.length_take, stamp_length, mkb_length]; omega) j (fi j, fe j, if j = i then e else 0) ?_
  rw [List.getElem?_take, if_pos hj, stamp_get, mkb_get (by omega)]
  rfl

end

end Go.Proofs.Qxb6609224a
