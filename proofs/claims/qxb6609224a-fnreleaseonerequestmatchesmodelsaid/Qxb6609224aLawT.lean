/-
  FnReleaseOneRequestMatchesModel (4): the walk where all three slices have elements and their lengths fit.
-/
import Derived.Test.Qxb6609224aSteps
namespace Go.Proofs.Qxb6609224a
open Go.RowKit Go.Maps

/-- The three slices' shapes, as the law reads them. -/
structure Args (w : World) (n k : Nat) (fi fe fs : Nat → Int) (b2 o2 b3 o3 b4 o4 : Nat) : Prop where
  ids : Ints w b2 o2 k fi
  ends : Ints w b3 o3 k fe
  stops : Ints w b4 o4 n fs
  lt2 : b2 < w.heap.size
  lt3 : b3 < w.heap.size
  lt4 : b4 < w.heap.size
theorem Args.later {w w' : World} {n k : Nat} {fi fe fs : Nat → Int} {b2 o2 b3 o3 b4 o4 : Nat} (h : Args w n k fi fe fs b2 o2 b3 o3 b4 o4) (hb : Below w.heap.size w w') : Args w' n k fi fe fs b2 o2 b3 o3 b4 o4 :=
  ⟨h.ids.later hb h.lt2, h.ends.later hb h.lt3, h.stops.later hb h.lt4, Nat.lt_of_lt_of_le h.lt2 hb.size, Nat.lt_of_lt_of_le h.lt3 hb.size, Nat.lt_of_lt_of_le h.lt4 hb.size⟩

/-- The stops that stay, s of them seen, lie in block g. -/
def Rest (W : World) (fs : Nat → Int) (i : Int) (s g cap : Nat) (wr : World) : Prop :=
  wr.ownsRow W.heap.size 3 1 (.slice (some ⟨g, 0, none⟩) ((mk s fs).erase i).length cap) ((mk s fs).erase i).length (((mk s fs).erase i).map (Value.int .i64)) ∧ Below W.heap.size W wr
theorem Rest.pre {W : World} {fs : Nat → Int} {i : Int} {s g cap : Nat} {wr : World} (h : Rest W fs i s g cap wr) {L : Nat} (hL : L = ((mk s fs).erase i).length) (o : Obj) :
    (wr.alloc o).ownsRow W.heap.size 3 1 (.slice (some ⟨g, 0, none⟩) L cap) L (((mk s fs).erase i).map (Value.int .i64)) := by
  rw [hL]
  exact h.1.kept (grown_none (below_alloc wr o) none) (Or.inr (by simp [Value.ownBlock]))
theorem Rest.take {W : World} {fs : Nat → Int} {i : Int} {s g cap : Nat} {wr : World} (h : Rest W fs i s g cap wr) {L : Nat} (hL : L = ((mk s fs).erase i).length) (o : Obj) {w8 : World} {g8 cap8 : Nat} {z : Int} (hz : fs s = z) (ht : i ∈ mk s fs ∨ z ≠ i)
    (hown : w8.ownsRow W.heap.size 3 1 (.slice (some ⟨g8, 0, none⟩) (L + 1) cap8) (L + 1) (((mk s fs).erase i).map (Value.int .i64) ++ [.int .i64 z])) (hg : (wr.alloc o).grownBy w8 (Value.slice (some ⟨g, 0, none⟩) L cap).ownBlock) :
    Rest W fs i (s + 1) g8 cap8 w8 ∧ L + 1 = ((mk (s + 1) fs).erase i).length := by
  subst hz
  have hr := rest_take (f := fs) (j := s) (i := i) ht
  refine ⟨⟨?_, ?_⟩, by rw [hr, List.length_append, ← hL]; rfl⟩
  · rw [hr, List.length_append, ← hL, List.map_append]
    exact hown
  · refine Below.grown (h.2.trans ((below_alloc wr o).mono h.2.size)) hg ?_ ?_
    · exact Nat.le_trans h.2.size (below_alloc wr o).size
    · intro k hk
      exact ((h.pre hL o).lt k hk).1
theorem Rest.skip {W : World} {fs : Nat → Int} {i : Int} {s g cap : Nat} {wr : World} (h : Rest W fs i s g cap wr) (hn : i ∉ mk s fs) (hz : fs s = i) : Rest W fs i (s + 1) g cap wr := by
  unfold Rest
  rw [rest_skip hn hz]
  exact h

theorem inc_mono {fe : Nat → Int} {k : Nat} (h : ∀ j, 1 ≤ j → j < k → fe (j - 1) < fe j) : ∀ a b, a < b → b < k → fe a < fe b := by
  intro a b hab
  induction b with
  | zero => omega
  | succ b ih =>
    intro hb
    have h1 := h (b + 1) (by omega) hb
    simp at h1
    by_cases e : a = b
    · subst e; exact h1
    · have h2 := ih (by omega) (by omega)
      omega
theorem Final.row {Z : World} {B g : Nat} {cur : Array Value} {ty : TypeId} {K : List (Nat × Array Value × TypeId)} {R M P : Nat} {c e : Int} {fi fe : Nat → Int} {r : List Int} {i k kp : Nat} {w : World}
    (h : Final Z B ((g, cur, ty) :: K) R M P c e fi fe r i k kp w) : w.heap[g]? = some (.cells cur ty (0, 0)) := by
  obtain ⟨D, nm, ⟨_, _, _, _, h⟩, _⟩ := h
  exact (h.kept g cur ty List.mem_cons_self).1.1

set_option maxRecDepth 100000 in
set_option maxHeartbeats 8000000 in
theorem law4 (c e i : Int) (k n c2 c3 c4 b2 o2 b3 o3 b4 o4 : Nat) (fi fe fs : Nat → Int) (w : World) (hA : Args w n k fi fe fs b2 o2 b3 o3 b4 o4) (hk0 : 0 < k) (hn0 : 0 < n) (hk : k ≤ 65536) (hn : n ≤ 65536)
    (hwi : ∀ j, j < k → (Lit.int .i64 (fi j)).wf = true) (hwe : ∀ j, j < k → fe j ≤ 9223372036854775807) :
    Calls Try.prog 4 #[.int .i64 c, .int .u64 e, .slice (some ⟨b2, o2, none⟩) k c2, .slice (some ⟨b3, o3, none⟩) k c3, .slice (some ⟨b4, o4, none⟩) n c4, .int .i64 i] w fun x w' => x = .returned (.bool true) ∧ Below w.heap.size w w' := by
  have ce0 : w.cell? ⟨b3, o3, none⟩ = some (.int .i64 (fe 0)) := hA.ends 0 hk0
  have hkz : ((k : Int) == 0) = false := by simp; omega
  have hnz : ((n : Int) == 0) = false := by simp; omega
  have HA : Hid (Args w n k fi fe fs b2 o2 b3 o3 b4 o4) := hA
  have Hwi : Hid (∀ j, j < k → (Lit.int .i64 (fi j)).wf = true) := hwi
  have Hwe : Hid (∀ j, j < k → fe j ≤ 9223372036854775807) := hwe
  clear hA hwi hwe
  go_enter Try.func4, Try.ntmps4
  go_wp2_with fail
  refine (bytes26 c e i _ _ _ k c2 k c3 n c4 w (by omega) (by omega) (by omega)).mono ?_
  rintro x w1 ⟨rfl | rfl, rfl⟩
  case inr =>
    go_wp2_with fail
    go_ret
    exact ⟨rfl, Below.refl _ _⟩
  by_cases hbig : 1048576 < 8 * (k : Int) + 8 * (k : Int) + 8 * (n : Int)
  · go_wp2_with fail
    go_ret
    exact ⟨rfl, Below.refl _ _⟩
  by_cases hp0 : fe 0 ≤ 0
  · go_wp2_with fail
    go_ret
    exact ⟨rfl, Below.refl _ _⟩
  have Hp0 : Hid (0 < fe 0) := by show _ < _; omega
  go_wp2_with fail
  clear hbig ce0 hkz hnz
  go_loopw [14] (fun j wr => ∃ (m : Nat) (q : Nat), 1 ≤ m ∧ m ≤ k ∧ j = .int .i64 m ∧ wr = w1.drewN q ∧ Hid (∀ j, 1 ≤ j → j < m → fe (j - 1) < fe j)) (fun j _ => k - (intOf j).toNat)
  case atStart => exact ⟨1, 0, Nat.le_refl _, by omega, rfl, rfl, fun j h1 h2 => by omega⟩
  case round =>
    clear hp0
    obtain ⟨m, q, hm1, hmk, rfl, rfl, hinc⟩ := hrel
    by_cases hmlt : m < k
    · skip
      -- <<
      obtain ⟨p, hp⟩ : ∃ p : Nat, p = m - 1 := ⟨_, rfl⟩
      have e1 : IntKind.i64.wrap ((m : Int) - 1) = (p : Int) := by rw [IntWalk.i64_in _ (by omega)]; omega
      have e2 : (m : Int) - 1 = (p : Int) := by omega
      have hpk : p < k := by omega
      have c1 : w1.cell? ⟨b3, o3 + m, none⟩ = some (.int .i64 (fe m)) := HA.out.ends m hmlt
      have c2 : w1.cell? ⟨b3, o3 + p, none⟩ = some (.int .i64 (fe p)) := HA.out.ends p hpk
      have Hp : Hid (p = m - 1) := hp
      clear hp
      by_cases hle : fe m ≤ fe p
      · have hd : decide (fe m ≤ fe p) = true := by simp [hle]
        clear hle
        go_wp2_with fail
        go_quiet (fail)
        go_wp2_with fail
        go_ret
        exact ⟨rfl, below_drewN (below_drewN (Below.refl _ _) _) _⟩
      · have hd : decide (fe m ≤ fe p) = false := by simp; omega
        have Hlt : Hid (fe p < fe m) := by show _ < _; omega
        clear hle
        go_wp2_with fail
        go_quiet (fail)
        go_wp2_with fail
        go_roundw
        case rel =>
          refine ⟨m + 1, _, by omega, by omega, by go_num, by first | rfl | (simp; rfl), ?_⟩
          intro j h1 h2
          by_cases hj : j = m
          · subst hj; rw [← Hp.out]; exact Hlt.out
          · exact hinc.out j h1 (by omega)
        case measure => simp [intOf]; omega
      -- >>
    · obtain rfl : k = m := by omega
      go_wp2_with fail
      clear hm1 hmk hmlt
      have HA2 : Hid (Args (w1.drewN q) n k fi fe fs b2 o2 b3 o3 b4 o4) := HA.out.later (below_drewN (Below.refl _ _) q)
      have Hb2 : Hid (Below w1.heap.size w1 (w1.drewN q)) := below_drewN (Below.refl _ _) q
      clear HA
      generalize w1.drewN q = w2 at *
      go_loopw [15, 16] (fun fo j wr => ∃ (s : Nat) (q : Nat) (b : Bool), s ≤ n ∧ fo = .bool b ∧ j = .int .i64 s ∧ wr = w2.drewN q ∧ Hid ((b = true → i ∈ mk s fs) ∧ (∀ t, t < s → 0 ≤ fs t ∧ fs t < k) ∧ (∀ t, 1 ≤ t → t < s → fs (t - 1) ≤ fs t))) (fun _ j _ => n - (intOf j).toNat)
      case atStart => exact ⟨0, 0, false, by omega, rfl, rfl, rfl, ⟨fun h => by (cases h), fun t ht => by omega, fun t h1 h2 => by omega⟩⟩
      case round =>
        obtain ⟨s, q, b, hsn, rfl, rfl, rfl, hst⟩ := hrel
        by_cases hslt : s < n
        · skip
          -- <<
          have cs : w2.cell? ⟨b4, o4 + s, none⟩ = some (.int .i64 (fs s)) := HA2.out.stops s hslt
          obtain ⟨z, hz⟩ : ∃ z, fs s = z := ⟨_, rfl⟩
          rw [hz] at cs
          have Hz : Hid (fs s = z) := hz
          clear hz
          by_cases hz0 : z < 0
          · have d1 : decide (z < 0) = true := by simp; omega
            clear hz0
            go_wp2_with fail
            go_quiet (fail)
            go_wp2_with fail
            go_ret
            exact ⟨rfl, Hb2.out.trans (below_drewN (below_drewN (Below.refl _ _) _) _)⟩
          have d1 : decide (z < 0) = false := by simp; omega
          by_cases hzk : (k : Int) ≤ z
          · have d2 : decide ((k : Int) ≤ z) = true := by simp; omega
            clear hz0 hzk
            go_wp2_with fail
            go_quiet (fail)
            go_wp2_with fail
            go_ret
            exact ⟨rfl, Hb2.out.trans (below_drewN (below_drewN (Below.refl _ _) _) _)⟩
          have d2 : decide ((k : Int) ≤ z) = false := by simp; omega
          have Hzb : Hid (0 ≤ z ∧ z < k) := by constructor <;> omega
          clear hz0 hzk
          by_cases hs0 : s = 0
          · subst hs0
            have cs0 : w2.cell? ⟨b4, o4, none⟩ = some (.int .i64 z) := cs
            clear cs
            have Hnx : Hid (∀ b' : Bool, (b' = true → i ∈ mk (0 + 1) fs) → ((b' = true → i ∈ mk (0 + 1) fs) ∧ (∀ t, t < 0 + 1 → 0 ≤ fs t ∧ fs t < k) ∧ (∀ t, 1 ≤ t → t < 0 + 1 → fs (t - 1) ≤ fs t))) := by
              refine fun b' hb' => ⟨hb', fun t ht => ?_, fun t h1 h2 => by omega⟩
              obtain rfl : t = 0 := by omega
              rw [Hz.out]; exact Hzb.out
            by_cases hzi : z = i
            · have d3 : (z == i) = true := by simp [hzi]
              have Hm : Hid (i ∈ mk (0 + 1) fs) := mem_mk.2 ⟨0, by omega, by rw [Hz.out, hzi]⟩
              clear hzi
              go_wp2_with fail
              go_quiet (fail)
              go_wp2_with fail
              go_roundw
              case rel => exact ⟨0 + 1, _, true, by omega, rfl, by go_num, by first | rfl | (simp; rfl), Hnx.out _ fun _ => Hm.out⟩
              case measure => simp [intOf]; omega
            · have d3 : (z == i) = false := by simp [hzi]
              have Hm : Hid (b = true → i ∈ mk (0 + 1) fs) := fun hb => by rw [mk_succ]; exact List.mem_append_left _ (hst.out.1 hb)
              clear hzi
              go_wp2_with fail
              go_quiet (fail)
              go_wp2_with fail
              go_roundw
              case rel => exact ⟨0 + 1, _, b, by omega, rfl, by go_num, by first | rfl | (simp; rfl), Hnx.out _ Hm.out⟩
              case measure => simp [intOf]; omega
          · obtain ⟨p, hp⟩ : ∃ p : Nat, p = s - 1 := ⟨_, rfl⟩
            have e1 : IntKind.i64.wrap ((s : Int) - 1) = (p : Int) := by rw [IntWalk.i64_in _ (by omega)]; omega
            have e2 : (s : Int) - 1 = (p : Int) := by omega
            have hpn : p < n := by omega
            have hs1 : 0 < s := by omega
            have d0 : decide ((0 : Int) < (s : Int)) = true := by simp; omega
            have cp : w2.cell? ⟨b4, o4 + p, none⟩ = some (.int .i64 (fs p)) := HA2.out.stops p hpn
            have Hp : Hid (p = s - 1) := hp
            clear hp hs0
            by_cases hlt : z < fs p
            · have d4 : decide (z < fs p) = true := by simp; omega
              clear hlt
              go_wp2_with fail
              go_quiet (fail)
              go_wp2_with fail
              go_ret
              exact ⟨rfl, Hb2.out.trans (below_drewN (below_drewN (Below.refl _ _) _) _)⟩
            have d4 : decide (z < fs p) = false := by simp; omega
            have Hnx : Hid (∀ b' : Bool, (b' = true → i ∈ mk (s + 1) fs) → ((b' = true → i ∈ mk (s + 1) fs) ∧ (∀ t, t < s + 1 → 0 ≤ fs t ∧ fs t < k) ∧ (∀ t, 1 ≤ t → t < s + 1 → fs (t - 1) ≤ fs t))) := by
              refine fun b' hb' => ⟨hb', fun t ht => ?_, fun t h1 h2 => ?_⟩
              · by_cases ht' : t = s
                · subst ht'; rw [Hz.out]; exact Hzb.out
                · exact hst.out.2.1 t (by omega)
              · by_cases ht' : t = s
                · subst ht'; rw [Hz.out, ← Hp.out]; omega
                · exact hst.out.2.2 t h1 (by omega)
            clear hlt
            by_cases hzi : z = i
            · have d3 : (z == i) = true := by simp [hzi]
              have Hm : Hid (i ∈ mk (s + 1) fs) := mem_mk.2 ⟨s, by omega, by rw [Hz.out, hzi]⟩
              clear hzi
              go_wp2_with fail
              go_quiet (fail)
              go_wp2_with fail
              go_roundw
              case rel => exact ⟨s + 1, _, true, by omega, rfl, by go_num, by first | rfl | (simp; rfl), Hnx.out _ fun _ => Hm.out⟩
              case measure => simp [intOf]; omega
            · have d3 : (z == i) = false := by simp [hzi]
              have Hm : Hid (b = true → i ∈ mk (s + 1) fs) := fun hb => by rw [mk_succ]; exact List.mem_append_left _ (hst.out.1 hb)
              clear hzi
              go_wp2_with fail
              go_quiet (fail)
              go_wp2_with fail
              go_roundw
              case rel => exact ⟨s + 1, _, b, by omega, rfl, by go_num, by first | rfl | (simp; rfl), Hnx.out _ Hm.out⟩
              case measure => simp [intOf]; omega
          -- >>
        · obtain rfl : n = s := by omega
          go_upto_region 23 with fail
          have HA3 : Hid (Args (w2.drewN q) n k fi fe fs b2 o2 b3 o3 b4 o4) := HA2.out.later (below_drewN (Below.refl _ _) q)
          have Hb3 : Hid (Below w1.heap.size w1 (w2.drewN q)) := below_drewN Hb2.out q
          clear HA2 Hb2 hslt hsn
          generalize w2.drewN q = w3 at *
          obtain ⟨u, hu⟩ : ∃ u : Nat, u = k - 1 := ⟨_, rfl⟩
          have e1 : IntKind.i64.wrap ((k : Int) - 1) = (u : Int) := by rw [IntWalk.i64_in _ (by omega)]; omega
          have e2 : (k : Int) - 1 = (u : Int) := by omega
          have huk : u < k := by omega
          have cu : w3.cell? ⟨b3, o3 + u, none⟩ = some (.int .i64 (fe u)) := HA3.out.ends u huk
          obtain ⟨v, hv⟩ : ∃ v : Nat, v = n - 1 := ⟨_, rfl⟩
          have e3 : IntKind.i64.wrap ((n : Int) - 1) = (v : Int) := by rw [IntWalk.i64_in _ (by omega)]; omega
          have e4 : (n : Int) - 1 = (v : Int) := by omega
          have hvn : v < n := by omega
          have cv : w3.cell? ⟨b4, o4 + v, none⟩ = some (.int .i64 (fs v)) := HA3.out.stops v hvn
          have Hu : Hid (u = k - 1) := hu
          clear hu hv
          cases b
          case false =>
            go_wp2_with fail
            go_ret
            exact ⟨rfl, Hb3.out⟩
          go_cut [170] from 149 to 170 (fun x wx => (∃ bq, x = .bool bq) ∧ wx = w3)
          case first =>
            by_cases hcap : c < fe u
            · have d1 : decide (c < fe u) = true := by simp; omega
              clear hcap
              go_wp2_with fail
              go_meet
              case rel => exact ⟨⟨_, rfl⟩, rfl⟩
            · have d1 : decide (c < fe u) = false := by simp; omega
              clear hcap
              go_wp2_with fail
              go_meet
              case rel => exact ⟨⟨_, rfl⟩, rfl⟩
          case rest =>
            obtain ⟨⟨bq, rfl⟩, rfl⟩ := hcut
            cases bq
            case true =>
              go_wp2_with fail
              go_ret
              exact ⟨rfl, Hb3.out⟩
            clear e3 e4 hvn cv cu
            have h10 := distinct10 b2 o2 c2 k fi wc HA3.out.ids hk0 hk
            go_wp2_with fail
            refine h10.mono ?_
            rintro x wd ⟨⟨rfl, hinj⟩ | rfl, hbd⟩
            case inr =>
              go_wp2_with fail
              go_ret
              exact ⟨rfl, Hb3.out.trans (hbd.mono Hb3.out.size)⟩
            have HAd : Hid (Args wd n k fi fe fs b2 o2 b3 o3 b4 o4) := HA3.out.later hbd
            have Hbd : Hid (Below w1.heap.size w1 wd) := Hb3.out.trans (hbd.mono Hb3.out.size)
            have Hinj : Hid (Inj k fi) := hinj
            clear h10 HA3 Hb3 hinj hbd
            have cu : wd.cell? ⟨b3, o3 + u, none⟩ = some (.int .i64 (fe u)) := HAd.out.ends u huk
            go_wp2_with fail
            refine (new11 c (fe u) e fi fe fs wd).mono ?_
            rintro x w4 ⟨R, rfl, h12⟩
            clear cu
            go_wp2_with fail
            refine h12.mono ?_
            rintro x w5 ⟨P, rfl, hB⟩
            clear h12
            have HF : Hid (∀ wr, Below wd.heap.size wd wr → Args wr n k fi fe fs b2 o2 b3 o3 b4 o4) := fun wr hb => HAd.out.later hb
            have Hmem : Hid (i ∈ mk n fs) := hst.out.1 (by trivial)
            have Hins : Hid (∀ x ∈ mk n fs, 0 ≤ x ∧ x < k) := by
              intro x hx
              obtain ⟨t, ht, rfl⟩ := mem_mk.1 hx
              exact hst.out.2.1 t ht
            have Hsrt : Hid ((mk n fs).Pairwise (· ≤ ·)) := mk_sorted hst.out.2.2
            have HBd : Hid (w1.heap.size ≤ wd.heap.size) := Hbd.out.size
            clear hst HAd
            generalize wd.heap.size = B at *
            obtain ⟨i, rfl⟩ : ∃ i' : Nat, i = (i' : Int) := ⟨i.toNat, by have := Hins.out _ Hmem.out; omega⟩
            have hik : i < k := by have := Hins.out _ Hmem.out; omega
            go_wp2_with fail
            go_loopw [19] (fun j wr => ∃ (m : Nat), m ≤ k ∧ j = .int .i64 m ∧ Built wd B R B P c (fe u) e fi fe fs m 0 wr) (fun j _ => k - (intOf j).toNat)
            case atStart => exact ⟨0, by omega, rfl, hB⟩
            case round =>
              clear hB
              obtain ⟨m, hmk, rfl, hB⟩ := hrel
              by_cases hmlt : m < k
              · skip
                -- <<
                have ci : wr.cell? ⟨b2, o2 + m, none⟩ = some (.int .i64 (fi m)) := (HF.out _ hB.below).ids m hmlt
                have ce : wr.cell? ⟨b3, o3 + m, none⟩ = some (.int .i64 (fe m)) := (HF.out _ hB.below).ends m hmlt
                have h13 := grow13 hB.drew (by omega) (Hwi.out m hmlt)
                go_wp2_with fail
                go_region_with (go_at_call 13; refine h13.mono ?_; rintro x w6 ⟨rfl, hb6, h14⟩)
                all_goals
                  have ci6 : w6.cell? ⟨b2, o2 + m, none⟩ = some (.int .i64 (fi m)) := (HF.out _ hb6).ids m hmlt
                  clear h13 hB ci ce
                  go_wp2_with fail
                  refine h14.mono ?_
                  rintro x w7 ⟨rfl, hB7⟩
                  clear h14 ci6
                  go_wp2_with fail
                  go_roundw
                  case rel => exact ⟨m + 1, by omega, by go_num, hB7⟩
                  case measure => simp [intOf]; omega
                -- >>
              · obtain rfl : k = m := by omega
                go_wp2_with fail
                go_loopw [20] (fun j wr => ∃ (s : Nat), s ≤ n ∧ j = .int .i64 s ∧ Built wd B R B P c (fe u) e fi fe fs k s wr) (fun j _ => n - (intOf j).toNat)
                case atStart => exact ⟨0, by omega, rfl, hB⟩
                case round =>
                  clear hB hmk hmlt
                  obtain ⟨s, hsn, rfl, hB⟩ := hrel
                  by_cases hslt : s < n
                  · skip
                    -- <<
                    have cs : wr.cell? ⟨b4, o4 + s, none⟩ = some (.int .i64 (fs s)) := (HF.out _ hB.below).stops s hslt
                    have h15 := grow15 hB (by omega)
                    go_wp2_with fail
                    refine h15.mono ?_
                    rintro x w6 ⟨rfl, hB6⟩
                    clear h15 hB cs
                    go_wp2_with fail
                    go_roundw
                    case rel => exact ⟨s + 1, by omega, by go_num, hB6⟩
                    case measure => simp [intOf]; omega
                    -- >>
                  · obtain rfl : n = s := by omega
                    have h16 := file16 hB hk0 hk hn
                    clear hB hsn hslt
                    go_wp2_with fail
                    refine h16.mono ?_
                    rintro x w6 ⟨rfl, hF⟩
                    clear h16
                    have hmk := run_make_room (P := Try.prog) 24 3 (.int .i64 0) 8 Try.underlying24 info3 rfl .i64 .i64 n (by omega) (by omega) w6
                    have how := World.ownsRow_made (e := 3) (size := 1) (base := w6.heap.size) w6 (madeCells #[.int .i64 0] n) n (Nat.le_refl _) (by unfold maxLen; omega) (by rw [size_madeCells]; simp)
                    have hbl := below_alloc w6 (.cells (madeCells #[.int .i64 0] n) 3)
                    go_wp2_with fail
                    go_loopw [21, 22, 23] (fun v sk j wr => ∃ (s g cap L : Nat) (b : Bool), s ≤ n ∧ j = .int .i64 s ∧ sk = .bool b ∧ v = .slice (some ⟨g, 0, none⟩) L cap ∧ Rest w6 fs i s g cap wr ∧ Hid (b = decide ((i : Int) ∈ mk s fs)) ∧ Hid (L = ((mk s fs).erase (i : Int)).length)) (fun _ _ j _ => n - (intOf j).toNat)
                    case atStart => exact ⟨0, w6.heap.size, n, 0, false, by omega, rfl, rfl, rfl, ⟨how, hbl⟩, rfl, rfl⟩
                    case round =>
                      clear hmk how hbl
                      obtain ⟨s, g, cap, L, b, hsn, rfl, rfl, rfl, hRs, Hb, HL⟩ := hrel
                      have hbw : Below B wd wr := hF.below.trans (hRs.2.mono hF.base)
                      have hLn : L ≤ n := by
                        have h9 := HL.out
                        have h8 : ((mk s fs).erase (i : Int)).length ≤ (mk s fs).length := List.length_erase_le
                        rw [mk_length] at h8
                        omega
                      by_cases hslt : s < n
                      · skip
                        -- <<
                        have cs : wr.cell? ⟨b4, o4 + s, none⟩ = some (.int .i64 (fs s)) := (HF.out _ hbw).stops s hslt
                        obtain ⟨z, hz⟩ : ∃ z, fs s = z := ⟨_, rfl⟩
                        rw [hz] at cs
                        have Hz : Hid (fs s = z) := hz
                        clear hz hbw
                        obtain ⟨i0, hi, hz0, hz1, hz2⟩ := info_parts info3
                        have h1 := hRs.pre HL.out (.cells #[.int .i64 z] 3)
                        have hsz : w6.heap.size ≤ (wr.alloc (.cells #[.int .i64 z] 3)).heap.size := Nat.le_trans hRs.2.size (below_alloc wr _).size
                        cases b
                        · by_cases hzi : z = (i : Int)
                          · have d1 : (z == (i : Int)) = true := by simp [hzi]
                            have Hzi : Hid (z = (i : Int)) := hzi
                            clear hzi h1 hsz
                            go_wp2_with fail
                            go_roundw
                            case rel =>
                              have hni : (i : Int) ∉ mk s fs := fun h => by have h9 := Hb.out; simp [h] at h9
                              refine ⟨s + 1, g, cap, L, true, by omega, by go_num, rfl, rfl, hRs.skip hni (Hz.out.trans Hzi.out), ?_, ?_⟩
                              · show true = _
                                symm
                                rw [decide_eq_true_iff]
                                exact mem_mk.2 ⟨s, by omega, Hz.out.trans Hzi.out⟩
                              · show _ = _
                                rw [rest_skip hni (Hz.out.trans Hzi.out)]
                                exact HL.out
                            case measure => simp [intOf]; omega
                          · have d1 : (z == (i : Int)) = false := by simp [hzi]
                            have Hzi : Hid (z ≠ (i : Int)) := hzi
                            clear hzi
                            go_wp2_with (first
                              | (at_builtin; refine wpList_append_lies _ rfl (.tmp 240) (.tmp 245) 24 rfl w6.heap.size 3 i0 _ 1 8 Try.underlying24 hi hz0 hz1 hz2 rfl (by decide) (.slice (some ⟨g, 0, none⟩) L cap) L (((mk s fs).erase (i : Int)).map (Value.int .i64)) rfl h1 ⟨wr.heap.size, 0, none⟩ 1 1 [.int .i64 z] rfl rfl (news_block wr _ 3) (by intro u hu; simp at hu; subst hu; rfl) (by decide) (by unfold maxLen; omega) (by omega) hsz _ rfl ?_; intro g8 cap8 w8 hown8 hgrow8 hat8 hlt8))
                            go_roundw
                            case rel =>
                              obtain ⟨h8, h9⟩ := hRs.take HL.out _ Hz.out (Or.inr Hzi.out) hown8 hgrow8
                              refine ⟨s + 1, g8, cap8, L + 1, false, by omega, by go_num, rfl, rfl, h8, ?_, h9⟩
                              show false = _
                              symm
                              rw [decide_eq_false_iff_not, mk_succ]
                              have hni : (i : Int) ∉ mk s fs := fun h => by have h9 := Hb.out; simp [h] at h9
                              simp only [List.mem_append, List.mem_singleton]
                              rintro (h | h)
                              · exact hni h
                              · exact Hzi.out (by rw [h, Hz.out])
                            case measure => simp [intOf]; omega
                        · go_wp2_with (first
                            | (at_builtin; refine wpList_append_lies _ rfl (.tmp 240) (.tmp 245) 24 rfl w6.heap.size 3 i0 _ 1 8 Try.underlying24 hi hz0 hz1 hz2 rfl (by decide) (.slice (some ⟨g, 0, none⟩) L cap) L (((mk s fs).erase (i : Int)).map (Value.int .i64)) rfl h1 ⟨wr.heap.size, 0, none⟩ 1 1 [.int .i64 z] rfl rfl (news_block wr _ 3) (by intro u hu; simp at hu; subst hu; rfl) (by decide) (by unfold maxLen; omega) (by omega) hsz _ rfl ?_; intro g8 cap8 w8 hown8 hgrow8 hat8 hlt8))
                          go_roundw
                          case rel =>
                            have hmi : (i : Int) ∈ mk s fs := by have h9 := Hb.out; simpa using h9.symm
                            obtain ⟨h8, h9⟩ := hRs.take HL.out _ Hz.out (Or.inl hmi) hown8 hgrow8
                            refine ⟨s + 1, g8, cap8, L + 1, true, by omega, by go_num, rfl, rfl, h8, ?_, h9⟩
                            show true = _
                            symm
                            rw [decide_eq_true_iff, mk_succ]
                            exact List.mem_append_left _ hmi
                          case measure => simp [intOf]; omega
                        -- >>
                      · obtain rfl : n = s := by omega
                        clear hslt hsn Hb
                        obtain ⟨r, hr⟩ : ∃ r, (mk n fs).erase (i : Int) = r := ⟨_, rfl⟩
                        have Hr : Hid ((mk n fs).erase (i : Int) = r) := hr
                        have HLr : Hid (L = r.length) := by show _ = _; rw [← hr]; exact HL.out
                        have HAr : Hid (Args wr n k fi fe fs b2 o2 b3 o3 b4 o4) := HF.out _ hbw
                        have hown : wr.ownsRow w6.heap.size 3 1 (.slice (some ⟨g, 0, none⟩) r.length cap) r.length (r.map (Value.int .i64)) := by rw [← hr]; exact hRs.1
                        have Hrs : Hid (r.Pairwise (· ≤ ·)) := by rw [← hr]; exact Hsrt.out.sublist List.erase_sublist
                        have Hri : Hid (∀ x ∈ r, 0 ≤ x ∧ x < k) := fun x hx => Hins.out x (List.mem_of_mem_erase (by rw [hr]; exact hx))
                        obtain ⟨cur, hX, hcc⟩ : ∃ cur, wr.heap[g]? = some (.cells cur 3 (0, 0)) ∧ ∀ j x, r[j]? = some x → cur[j]? = some (Value.int .i64 x) := by
                          rcases hown.2 with ⟨h9, _⟩ | ⟨g', cap', cur, h9, hB', hg', hnc, hcm, hcs, ht⟩
                          · cases h9
                          · cases h9
                            refine ⟨cur, hg', fun j x hx => ?_⟩
                            have hj := (List.getElem?_eq_some_iff.1 hx).1
                            have h10 : (List.take (r.length * 1) cur.toList)[j]? = some (Value.int .i64 x) := by rw [ht, List.getElem?_map, hx]; rfl
                            rw [List.getElem?_take, if_pos (by omega), Array.getElem?_toList] at h10
                            exact h10
                        have Hcc : Hid (∀ j x, r[j]? = some x → cur[j]? = some (Value.int .i64 x)) := hcc
                        have Hrc : Hid (∀ j x, r[j]? = some x → wr.cell? ⟨g, j, none⟩ = some (.int .i64 x)) := fun j x hx => (Joins.cell_of_block hX j).trans (hcc j x hx)
                        have HFl : Hid (Filed wd B [(g, cur, 3)] R B P c (fe u) e fi fe fs k n wr) := hF.keep hRs.2 g cur ((hown.lt g rfl).1) hX
                        clear hF hRs hown hX hcc hr HL hbw
                        obtain ⟨w7, rfl⟩ : ∃ w7, w7 = wr := ⟨_, rfl⟩
                        go_wp2_with fail
                        go_loopw [24, 25] (fun h j wx => ∃ (m : Nat), m ≤ L ∧ j = .int .i64 m ∧ h = .int .i64 (hd (r.take m)) ∧ w7 = wx) (fun _ j _ => L - (intOf j).toNat)
                        case atStart => exact ⟨0, by omega, rfl, by simp [hd], rfl⟩
                        case round =>
                          obtain ⟨m, hmL, rfl, rfl, rfl⟩ := hrel
                          by_cases hmlt : m < L
                          · skip
                            -- <<
                            obtain ⟨x, hx⟩ : ∃ x, r[m]? = some x := ⟨_, List.getElem?_eq_getElem (by have h9 := HLr.out; omega)⟩
                            have cx : w7.cell? ⟨g, m, none⟩ = some (.int .i64 x) := Hrc.out m x hx
                            have hle : hd (r.take m) ≤ x := hd_le Hrs.out (fun y hy => (Hri.out y hy).1) hx
                            have Hst : Hid (hd (r.take (m + 1)) = x) := hd_step hx
                            generalize hd (r.take m) = y at *
                            clear hx
                            by_cases hlt : y < x
                            · have d1 : decide (y < x) = true := by simp; omega
                              clear hlt hle
                              go_wp2_with fail
                              go_roundw
                              case rel => exact ⟨m + 1, by omega, by go_num, by rw [Hst.out], by trivial⟩
                              case measure => simp [intOf]; omega
                            · obtain rfl : x = y := by omega
                              clear hlt hle
                              go_wp2_with fail
                              go_roundw
                              case rel => exact ⟨m + 1, by omega, by go_num, by rw [Hst.out], by trivial⟩
                              case measure => simp [intOf]; omega
                            -- >>
                          · obtain rfl : L = m := by omega
                            clear hmL hmlt
                            obtain ⟨h, hh⟩ : ∃ h, hd (r.take L) = h := ⟨_, rfl⟩
                            have Hh : Hid (hd r = h) := by
                              show _ = _
                              rw [← hh, List.take_of_length_le (by rw [HLr.out]; exact Nat.le_refl _)]
                            have hlo : -1 ≤ h := by rw [← Hh.out]; exact hd_lo Hri.out
                            have hhi : h < k := by
                              rw [← Hh.out]
                              by_cases h0 : 0 < r.length
                              · exact (Hri.out _ (hd_mem h0)).2
                              · rw [hd_nil (by omega)]; omega
                            rw [hh]
                            clear hh
                            go_wp2_with fail
                            go_loopg [26, 27] (i + 1) (fun gm sh j wx => ∃ (m : Nat) (SH : Int), m + gm = i + 1 ∧ (m : Int) ≤ h + 1 ∧ j = .int .i64 m ∧ sh = .int .i64 SH ∧ Hid (SH = if m = 0 then 0 else fe (m - 1)) ∧ w7 = wx)
                            case atStart => exact ⟨0, 0, by omega, by omega, rfl, rfl, rfl, rfl⟩
                            case round =>
                              obtain ⟨m, SH, hmg, hmh, rfl, rfl, HSH, rfl⟩ := hrel
                              go_upto_region 55 with fail
                              go_cut [270] from 263 to 276 (fun x wx => (∃ b, x = .bool b ∧ Hid (b = decide (m ≤ i ∧ (m : Int) ≤ h))) ∧ w7 = wx)
                              case first =>
                                skip
                                -- <<
                                by_cases h1 : m ≤ i
                                · have d1 : decide ((m : Int) ≤ (i : Int)) = true := by simp; omega
                                  by_cases h2 : (m : Int) ≤ h
                                  · have d2 : decide ((m : Int) ≤ h) = true := by simp; omega
                                    have Hd : Hid (true = decide (m ≤ i ∧ (m : Int) ≤ h)) := by show _ = _; simp [h1, h2]
                                    clear h2
                                    go_wp2_with fail
                                    go_meet
                                    case rel => exact ⟨⟨_, rfl, Hd.out⟩, by trivial⟩
                                  · have d2 : decide ((m : Int) ≤ h) = false := by simp; omega
                                    have Hd : Hid (false = decide (m ≤ i ∧ (m : Int) ≤ h)) := by show _ = _; simp [h1, h2]
                                    clear h2
                                    go_wp2_with fail
                                    go_meet
                                    case rel => exact ⟨⟨_, rfl, Hd.out⟩, by trivial⟩
                                · have d1 : decide ((m : Int) ≤ (i : Int)) = false := by simp; omega
                                  have Hd : Hid (false = decide (m ≤ i ∧ (m : Int) ≤ h)) := by show _ = _; simp [h1]
                                  go_wp2_with fail
                                  go_meet
                                  case rel => exact ⟨⟨_, rfl, Hd.out⟩, by trivial⟩
                                -- >>
                              case rest =>
                                obtain ⟨⟨b, rfl, Hb⟩, rfl⟩ := hcut
                                cases b
                                case true =>
                                  skip
                                  -- <<
                                  have hb : m ≤ i ∧ (m : Int) ≤ h := by have h9 := Hb.out; simpa using h9.symm
                                  have ce : w7.cell? ⟨b3, o3 + m, none⟩ = some (.int .i64 (fe m)) := HAr.out.ends m (by omega)
                                  have hmk : m < k := by omega
                                  go_wp2_with fail
                                  go_roundg (gk - 1)
                                  case measure => omega
                                  case rel => exact ⟨m + 1, fe m, by omega, by omega, by go_num, rfl, by show _ = _; rw [if_neg (by omega)]; rfl, by trivial⟩
                                  -- >>
                                case false =>
                                  have Hs3 : Hid (¬ (m ≤ i ∧ (m : Int) ≤ h)) := by
                                    intro h8
                                    have h9 := Hb.out
                                    rw [decide_eq_true h8] at h9
                                    cases h9
                                  have hmi : m ≤ i + 1 := by omega
                                  have Hmono : Hid (∀ a b, a < b → b < k → fe a < fe b) := inc_mono hinc.out
                                  clear Hb hmg
                                  go_wp2_with fail
                                  go_loopw [28, 29] (fun f j wx => ∃ (mm ft : Nat), mm ≤ k ∧ ft ≤ mm ∧ j = .int .i64 mm ∧ f = .int .i64 ft ∧ Hid ((∀ t, t < ft → fe t ≤ c) ∧ (∀ t, ft ≤ t → t < mm → c < fe t)) ∧ w7 = wx) (fun _ j _ => k - (intOf j).toNat)
                                  case atStart => exact ⟨0, 0, by omega, by omega, rfl, rfl, ⟨fun t ht => by omega, fun t h1 h2 => by omega⟩, rfl⟩
                                  case round =>
                                    obtain ⟨mm, ft, hmk, hft, rfl, rfl, H8, rfl⟩ := hrel
                                    by_cases hmlt : mm < k
                                    · skip
                                      -- <<
                                      have ce : w7.cell? ⟨b3, o3 + mm, none⟩ = some (.int .i64 (fe mm)) := HAr.out.ends mm hmlt
                                      by_cases hc : fe mm ≤ c
                                      · have d1 : decide (fe mm ≤ c) = true := by simp; omega
                                        have Hftm : Hid (ft = mm) := by
                                          show _ = _
                                          rcases Nat.lt_or_ge ft mm with h9 | h9
                                          · have h10 := H8.out.2 ft (Nat.le_refl _) h9
                                            have h11 := Hmono.out ft mm h9 hmlt
                                            omega
                                          · omega
                                        have Hc : Hid (fe mm ≤ c) := hc
                                        clear hc
                                        go_wp2_with fail
                                        go_roundw
                                        case rel =>
                                          refine ⟨mm + 1, ft + 1, by omega, by omega, by go_num, by go_num, ⟨fun t ht => ?_, fun t h1 h2 => ?_⟩, by trivial⟩
                                          · by_cases h9 : t = ft
                                            · rw [h9, Hftm.out]; exact Hc.out
                                            · exact H8.out.1 t (by omega)
                                          · have h9 := Hftm.out
                                            omega
                                        case measure => simp [intOf]; omega
                                      · have d1 : decide (fe mm ≤ c) = false := by simp; omega
                                        have Hc : Hid (c < fe mm) := by show _ < _; omega
                                        clear hc
                                        go_wp2_with fail
                                        go_roundw
                                        case rel =>
                                          refine ⟨mm + 1, ft, by omega, by omega, by go_num, rfl, ⟨H8.out.1, fun t h1 h2 => ?_⟩, by trivial⟩
                                          by_cases h9 : t = mm
                                          · rw [h9]; exact Hc.out
                                          · exact H8.out.2 t h1 (by omega)
                                        case measure => simp [intOf]; omega
                                      -- >>
                                    · obtain rfl : k = mm := by omega
                                      clear hmk hmlt
                                      obtain ⟨kp, hkp⟩ : ∃ kp : Nat, (kp : Int) = if (ft : Int) < h + 1 then h + 1 else ft := ⟨(if (ft : Int) < h + 1 then h + 1 else (ft : Int)).toNat, by split <;> omega⟩
                                      have Hkp : Hid ((kp : Int) = if (ft : Int) < h + 1 then h + 1 else ft) := hkp
                                      have hkpk : kp ≤ k := by split at hkp <;> omega
                                      clear hkp
                                      have eh : IntKind.i64.wrap (h + 1) = h + 1 := IntWalk.i64_in _ (by omega)
                                      go_upto_if 294 with fail
                                      go_cut [30] from 291 to 296 (fun x wx => x = .int .i64 (kp : Int) ∧ w7 = wx)
                                      case first =>
                                        skip
                                        -- <<
                                        by_cases hlt : (ft : Int) < h + 1
                                        · have d1 : decide ((ft : Int) < h + 1) = true := by simp; omega
                                          have Hv : Hid (h + 1 = (kp : Int)) := by
                                            have h9 := Hkp.out
                                            rw [if_pos hlt] at h9
                                            exact h9.symm
                                          go_wp2_with fail
                                          go_meet
                                          case rel => exact ⟨by rw [Hv.out], by trivial⟩
                                        · have d1 : decide ((ft : Int) < h + 1) = false := by simp; omega
                                          have Hv : Hid ((ft : Int) = (kp : Int)) := by
                                            have h9 := Hkp.out
                                            rw [if_neg hlt] at h9
                                            exact h9.symm
                                          go_wp2_with fail
                                          go_meet
                                          case rel => exact ⟨by rw [Hv.out], by trivial⟩
                                        -- >>
                                      case rest =>
                                        obtain ⟨rfl, rfl⟩ := hcut
                                        obtain ⟨T, hT⟩ : ∃ T : Int, T = if kp = 0 then 0 else fe (kp - 1) := ⟨_, rfl⟩
                                        have HT : Hid (T = if kp = 0 then 0 else fe (kp - 1)) := hT
                                        clear hT
                                        go_upto_if 298 with fail
                                        go_cut [31] from 299 to 303 (fun x wx => x = .int .i64 T ∧ w7 = wx)
                                        case first =>
                                          skip
                                          -- <<
                                          by_cases h0 : kp = 0
                                          · have d1 : decide ((0 : Int) < (kp : Int)) = false := by simp; omega
                                            have d2 : ¬ 0 < kp := by omega
                                            have Ht : Hid (T = 0) := by show _ = _; rw [HT.out, if_pos h0]
                                            clear h0
                                            go_wp2_with fail
                                            go_meet
                                            case rel => exact ⟨by rw [Ht.out], by trivial⟩
                                          · have d1 : decide ((0 : Int) < (kp : Int)) = true := by simp; omega
                                            obtain ⟨p, hp⟩ : ∃ p : Nat, p = kp - 1 := ⟨_, rfl⟩
                                            have e3 : IntKind.i64.wrap ((kp : Int) - 1) = (p : Int) := by rw [IntWalk.i64_in _ (by omega)]; omega
                                            have e4 : (kp : Int) - 1 = (p : Int) := by omega
                                            have hpk : p < k := by omega
                                            have hpos : 0 < kp := by omega
                                            have cp : w7.cell? ⟨b3, o3 + p, none⟩ = some (.int .i64 (fe p)) := HAr.out.ends p hpk
                                            have Ht : Hid (T = fe p) := by show _ = _; rw [HT.out, if_neg h0, hp]
                                            clear h0 hp
                                            go_wp2_with fail
                                            go_meet
                                            case rel => exact ⟨by rw [Ht.out], by trivial⟩
                                          -- >>
                                        case rest =>
                                          obtain ⟨rfl, rfl⟩ := hcut
                                          have hFacts : Facts k n fi fe fs i := by
                                            refine ⟨hk0, hk, hn, fun j hj => ⟨?_, Hwe.out j hj⟩, Hwi.out, Hinj.out, Hsrt.out, Hins.out, Hmem.out⟩
                                            have h9 := Hp0.out
                                            by_cases hj0 : j = 0
                                            · subst hj0; omega
                                            · have h10 := Hmono.out 0 j (by omega) hj
                                              omega
                                          have hfl := HFl.out
                                          rw [Hu.out] at hfl
                                          have h17 := release17 (sh := m) hFacts hfl hft H8.out.1 H8.out.2 (by rw [Hr.out, Hh.out]; exact Hkp.out) hmi (by rw [Hr.out, Hh.out]; exact hmh) (by rw [Hr.out, Hh.out]; exact Hs3.out)
                                          rw [← HSH.out, Hr.out] at h17
                                          clear HFl hfl hFacts HAr Hrc
                                          go_wp2_with fail
                                          refine h17.mono ?_
                                          rintro x w8 ⟨rfl, hFin⟩
                                          clear h17
                                          have h18 := fin18 hFin
                                          have h19 := fin19 hFin
                                          have h20 := fin20 hFin
                                          have h21 := fin21 hFin
                                          rw [← HT.out] at h20
                                          rw [← HLr.out] at h21
                                          have HFin : Hid (Final wd B [(g, cur, 3)] R B P c (IntKind.u64.wrap (e + 1)) fi fe r i k kp w8) := hFin
                                          clear hFin
                                          go_wp2_with fail
                                          refine h18.mono ?_
                                          rintro x w9 ⟨rfl, rfl⟩
                                          clear h18
                                          go_wp2_with fail
                                          refine h19.mono ?_
                                          rintro x w10 ⟨rfl, rfl⟩
                                          clear h19
                                          go_wp2_with fail
                                          refine h20.mono ?_
                                          rintro x w11 ⟨rfl, rfl⟩
                                          clear h20
                                          go_wp2_with fail
                                          refine h21.mono ?_
                                          rintro x w12 ⟨rfl, rfl⟩
                                          clear h21
                                          go_wp2_with fail
                                          go_loopw [33] (fun j wx => ∃ (mm q : Nat), mm ≤ L ∧ j = .int .i64 mm ∧ wx = w12.drewN q) (fun j _ => L - (intOf j).toNat)
                                          case atStart => exact ⟨0, 0, by omega, rfl, rfl⟩
                                          case round =>
                                            obtain ⟨mm, q, hmL, rfl, rfl⟩ := hrel
                                            by_cases hmlt : mm < L
                                            · skip
                                              -- <<
                                              obtain ⟨x, hx⟩ : ∃ x, r[mm]? = some x := ⟨_, List.getElem?_eq_getElem (by have h9 := HLr.out; omega)⟩
                                              have cx : w12.cell? ⟨g, mm, none⟩ = some (.int .i64 x) := (Joins.cell_of_block HFin.out.row mm).trans (Hcc.out mm x hx)
                                              have h27 : ∀ W, (∃ q', W = w12.drewN q') → Calls Try.prog 27 #[.pointer (some ⟨P, 0, none⟩), .int .i64 (mm : Int)] W fun y w' => y = .returned (.int .i64 x) ∧ w' = W := by
                                                rintro W ⟨q', rfl⟩
                                                exact fin27 (HFin.out.drewN q') (by have h9 := HLr.out; omega) mm x hx
                                              clear hx
                                              go_wp2_with fail
                                              go_quiet (first | (go_at_call 27; exact (h27 _ ⟨_, rfl⟩).mono fun _ _ hq => ⟨hq.1, _, hq.2⟩))
                                              go_wp2_with fail
                                              go_roundw
                                              case rel => exact ⟨mm + 1, _, by omega, by go_num, by first | rfl | (simp; rfl)⟩
                                              case measure => simp [intOf]; omega
                                              -- >>
                                            · obtain rfl : L = mm := by omega
                                              clear hmL hmlt
                                              have HF3 : Hid (Final wd B [(g, cur, 3)] R B P c (IntKind.u64.wrap (e + 1)) fi fe r i k kp (w12.drewN q)) := HFin.out.drewN q
                                              clear HFin
                                              generalize w12.drewN q = w13 at *
                                              have h22 := fin22 HF3.out
                                              have h23 := fin23 HF3.out
                                              rw [Hh.out] at h22
                                              generalize hLF : (if h + 1 < (kp : Int) then (1 : Int) else 0) = LF at h22
                                              generalize hSP : (if kp = 0 then (1 : Int) else 0) = SP at h23
                                              have HLF : Hid ((if h + 1 < (kp : Int) then (1 : Int) else 0) = LF) := hLF
                                              have HSP : Hid ((if kp = 0 then (1 : Int) else 0) = SP) := hSP
                                              clear hLF hSP
                                              go_upto_if 352 with fail
                                              go_cut [34] from 352 to 352 (fun x wx => x = .int .i64 LF ∧ w13 = wx)
                                              case first =>
                                                skip
                                                -- <<
                                                by_cases hlt : h + 1 < (kp : Int)
                                                · have d1 : decide (h + 1 < (kp : Int)) = true := by simp; omega
                                                  have Hv : Hid (LF = 1) := by show _ = _; rw [← HLF.out, if_pos hlt]
                                                  go_wp2_with fail
                                                  go_meet
                                                  case rel => exact ⟨by rw [Hv.out], by trivial⟩
                                                · have d1 : decide (h + 1 < (kp : Int)) = false := by simp; omega
                                                  have Hv : Hid (LF = 0) := by show _ = _; rw [← HLF.out, if_neg hlt]
                                                  go_wp2_with fail
                                                  go_meet
                                                  case rel => exact ⟨by rw [Hv.out], by trivial⟩
                                                -- >>
                                              case rest =>
                                                obtain ⟨rfl, rfl⟩ := hcut
                                                go_upto_if 354 with fail
                                                go_cut [35] from 354 to 354 (fun x wx => x = .int .i64 SP ∧ w13 = wx)
                                                case first =>
                                                  skip
                                                  -- <<
                                                  by_cases h0 : kp = 0
                                                  · have d1 : ((kp : Int) == 0) = true := by simp [h0]
                                                    have Hv : Hid (SP = 1) := by show _ = _; rw [← HSP.out, if_pos h0]
                                                    go_wp2_with fail
                                                    go_meet
                                                    case rel => exact ⟨by rw [Hv.out], by trivial⟩
                                                  · have d1 : ((kp : Int) == 0) = false := by simp [h0]
                                                    have Hv : Hid (SP = 0) := by show _ = _; rw [← HSP.out, if_neg h0]
                                                    go_wp2_with fail
                                                    go_meet
                                                    case rel => exact ⟨by rw [Hv.out], by trivial⟩
                                                  -- >>
                                                case rest =>
                                                  obtain ⟨rfl, rfl⟩ := hcut
                                                  go_wp2_with fail
                                                  refine h22.mono ?_
                                                  rintro x w14 ⟨rfl, rfl⟩
                                                  clear h22
                                                  go_wp2_with fail
                                                  refine h23.mono ?_
                                                  rintro x w15 ⟨rfl, rfl⟩
                                                  clear h23
                                                  go_wp2_with fail
                                                  go_loopw [36] (fun j wx => ∃ (mm : Nat), mm ≤ k ∧ j = .int .i64 mm ∧ Final wd B [(g, cur, 3)] R B P c (IntKind.u64.wrap (e + 1)) fi fe r i k kp wx) (fun j _ => k - (intOf j).toNat)
                                                  case atStart => exact ⟨0, by omega, rfl, HF3.out⟩
                                                  case round =>
                                                    clear HF3
                                                    obtain ⟨mm, hmk, rfl, hFin⟩ := hrel
                                                    by_cases hmlt : mm < k
                                                    · skip
                                                      -- <<
                                                      have ci : wr.cell? ⟨b2, o2 + mm, none⟩ = some (.int .i64 (fi mm)) := (HF.out _ hFin.below).ids mm hmlt
                                                      have h24 := fin24 hFin mm hmlt (Hwi.out mm hmlt)
                                                      clear hFin
                                                      by_cases hlt : mm < kp
                                                      · have d1 : decide (mm < kp) = true := by simp; omega
                                                        have d2 : decide ((mm : Int) < (kp : Int)) = true := by simp; omega
                                                        rw [d1] at h24
                                                        go_wp2_with fail
                                                        refine h24.mono ?_
                                                        rintro x w16 ⟨rfl, hFin⟩
                                                        clear h24 ci
                                                        go_wp2_with fail
                                                        go_roundw
                                                        case rel => exact ⟨mm + 1, by omega, by go_num, hFin⟩
                                                        case measure => simp [intOf]; omega
                                                      · have d1 : decide (mm < kp) = false := by simp; omega
                                                        have d2 : decide ((mm : Int) < (kp : Int)) = false := by simp; omega
                                                        rw [d1] at h24
                                                        go_wp2_with fail
                                                        refine h24.mono ?_
                                                        rintro x w16 ⟨rfl, hFin⟩
                                                        clear h24 ci
                                                        go_wp2_with fail
                                                        go_roundw
                                                        case rel => exact ⟨mm + 1, by omega, by go_num, hFin⟩
                                                        case measure => simp [intOf]; omega
                                                      -- >>
                                                    · obtain rfl : k = mm := by omega
                                                      clear hmk hmlt
                                                      obtain ⟨w17, rfl⟩ : ∃ w17, w17 = wr := ⟨_, rfl⟩
                                                      have HFin : Hid (Final wd B [(g, cur, 3)] R B P c (IntKind.u64.wrap (e + 1)) fi fe r i k kp w17) := hFin
                                                      clear hFin
                                                      go_wp2_with fail
                                                      go_loopw [37] (fun j wx => ∃ (mm : Nat), mm ≤ kp ∧ j = .int .i64 mm ∧ w17 = wx) (fun j _ => kp - (intOf j).toNat)
                                                      case atStart => exact ⟨0, by omega, rfl, rfl⟩
                                                      case round =>
                                                        obtain ⟨mm, hmk, rfl, rfl⟩ := hrel
                                                        by_cases hmlt : mm < kp
                                                        · skip
                                                          -- <<
                                                          have h25 := fin25 HFin.out hk mm hmlt
                                                          by_cases hmi : mm = i
                                                          · have d1 : ((mm : Int) == (i : Int)) = true := by simp [hmi]
                                                            rw [if_pos hmi] at h25
                                                            clear hmi
                                                            go_wp2_with fail
                                                            refine h25.mono ?_
                                                            rintro x w18 ⟨rfl, rfl⟩
                                                            clear h25
                                                            go_wp2_with fail
                                                            go_roundw
                                                            case rel => exact ⟨mm + 1, by omega, by go_num, by trivial⟩
                                                            case measure => simp [intOf]; omega
                                                          · have d1 : ((mm : Int) == (i : Int)) = false := by simp; omega
                                                            rw [if_neg hmi] at h25
                                                            clear hmi
                                                            go_wp2_with fail
                                                            refine h25.mono ?_
                                                            rintro x w18 ⟨rfl, rfl⟩
                                                            clear h25
                                                            go_wp2_with fail
                                                            go_roundw
                                                            case rel => exact ⟨mm + 1, by omega, by go_num, by trivial⟩
                                                            case measure => simp [intOf]; omega
                                                          -- >>
                                                        · obtain rfl : kp = mm := by omega
                                                          clear hmk hmlt
                                                          go_wp2_with fail
                                                          go_ret
                                                          exact ⟨rfl, Hbd.out.trans (HFin.out.below.mono HBd.out)⟩

end Go.Proofs.Qxb6609224a
