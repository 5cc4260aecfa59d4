/-
  ZZnewDisjunction (12).
-/
import Derived.Test.Qxb6609229aMember
import Derived.Deep.AppendLies
import Derived.Deep.RegionLaw
namespace Go.Proofs.Qxb6609229a
open Go.RowKit

/-- ms are the members that the codes L name. -/
def Mems (L : List Int) (ms : List Value) : Prop := ms.length = L.length ∧ ∀ (j : Nat) (c : Int) (v : Value), L[j]? = some c → ms[j]? = some v → IsMem c v

theorem Mems.nil : Mems [] [] := ⟨rfl, fun j c v h => by cases h⟩
theorem Mems.snoc {L : List Int} {ms : List Value} (h : Mems L ms) (c : Int) (v : Value) (hv : IsMem c v) : Mems (L ++ [c]) (ms ++ [v]) := by
  refine ⟨by simp [h.1], fun j d u hd hu => ?_⟩
  by_cases hj : j < L.length
  · rw [List.getElem?_append_left hj] at hd
    rw [List.getElem?_append_left (by rw [h.1]; exact hj)] at hu
    exact h.2 j d u hd hu
  · rw [List.getElem?_append_right (by omega)] at hd
    rw [List.getElem?_append_right (by rw [h.1]; omega)] at hu
    have hj0 : j - L.length = 0 := by
      have := (List.getElem?_eq_some_iff.1 hd).1
      simp at this
      omega
    rw [hj0] at hd
    rw [h.1, hj0] at hu
    simp at hd hu
    subst hd; subst hu
    exact hv

theorem own_below {w w' : World} {B : Nat} {e : TypeId} {k : Nat} {v : Value} {n : Nat} {xs : List Value} (h : w.ownsRow B e k v n xs) (hb : Below w.heap.size w w') : w'.ownsRow B e k v n xs := by
  refine ⟨h.1, h.2.elim Or.inl ?_⟩
  rintro ⟨g, cap, cur, hv, hB, hg, r⟩
  have hlt : g < w.heap.size := by
    rcases Nat.lt_or_ge g w.heap.size with h' | h'
    · exact h'
    · rw [Array.getElem?_eq_none h'] at hg; cases hg
  exact Or.inr ⟨g, cap, cur, hv, hB, by rw [hb.block g hlt]; exact hg, r⟩

theorem own_ne {w : World} {B : Nat} {e : TypeId} {k : Nat} {v : Value} {n : Nat} {xs : List Value} (h : w.ownsRow (B + 1) e k v n xs) : (some B : Option Nat) ≠ v.ownBlock := by
  rcases h.2 with ⟨rfl, _⟩ | ⟨g, cap, cur, rfl, hB, _⟩
  · simp [Value.ownBlock]
  · simp [Value.ownBlock]; omega
theorem own_le {w : World} {B : Nat} {e : TypeId} {k : Nat} {v : Value} {n : Nat} {xs : List Value} (h : w.ownsRow (B + 1) e k v n xs) : ∀ r, v.ownBlock = some r → B ≤ r := by
  intro r hr
  rcases h.2 with ⟨rfl, _⟩ | ⟨g, cap, cur, rfl, hB, _⟩
  · simp [Value.ownBlock] at hr
  · simp [Value.ownBlock] at hr; omega

/-- The one cell of a new block, as what is appended. -/
theorem news_one (w : World) (v : Value) (t : TypeId) : ∀ j u, [v][j]? = some u → (w.alloc (.cells #[v] t)).cell? ((⟨w.heap.size, 0, none⟩ : Addr).add j) = some u := by
  intro j u hj
  match j, hj with
  | 0, hj =>
    simp at hj
    subst hj
    have hplain : (⟨w.heap.size, 0, none⟩ : Addr).add 0 = ⟨w.heap.size, 0, none⟩ := rfl
    rw [hplain, World.cell?_alloc_mark w _ t _ 0]
    rfl

set_option maxRecDepth 100000 in
set_option maxHeartbeats 1000000 in
theorem disj12 (p : Option Addr) (bk o c n : Nat) (L : List Int) (w : World) (hn : Hid (n = L.length)) (hs : Ints w bk o L) (hp : Hid (0 < n → p = some ⟨bk, o, none⟩ ∧ bk < w.heap.size)) (hm : n ≤ 8192) (hx : Hid (∀ x ∈ L, x ≤ 4096)) :
    Calls Try.prog 12 #[.slice p n c, .slice none 0 0] w fun e w' => e = .returned (.pointer (some ⟨w.heap.size, 0, none⟩)) ∧ Below w.heap.size w w' ∧
      ∃ v, w'.cell? ⟨w.heap.size, 0, none⟩ = some v ∧ ∃ ms, w'.ownsRow (w.heap.size + 1) 51 1 v n ms ∧ Mems L ms := by
  go_enter Try.func12, Try.ntmps12
  go_wp2_with fail
  obtain ⟨i0, hi, hz0, hz1, hz2⟩ := info_parts info51
  have hc0 : (w.alloc (.cells #[.slice none 0 0, .slice none 0 0, .int .i64 0, .int .i64 0, .int .i64 0, .bool false, .bool false, .bool false, .bool false, .bool false, .pointer none, .int .i64 0, .int .i64 0, .bool false] 49)).cell? ⟨w.heap.size, 0, none⟩ = some (.slice none 0 0) :=
    World.cell?_alloc_mark w _ 49 _ 0
  have hf0 : (w.alloc (.cells #[.slice none 0 0, .slice none 0 0, .int .i64 0, .int .i64 0, .int .i64 0, .bool false, .bool false, .bool false, .bool false, .bool false, .pointer none, .int .i64 0, .int .i64 0, .bool false] 49)).frozen? ⟨w.heap.size, 0, none⟩ = false :=
    World.frozen?_alloc_new _ _ _ _
  have hb0 : Below w.heap.size w (w.alloc (.cells #[.slice none 0 0, .slice none 0 0, .int .i64 0, .int .i64 0, .int .i64 0, .bool false, .bool false, .bool false, .bool false, .bool false, .pointer none, .int .i64 0, .int .i64 0, .bool false] 49)) := (Below.refl _ w).alloc (Nat.le_refl _) _
  have hl0 : w.heap.size < (w.alloc (.cells #[.slice none 0 0, .slice none 0 0, .int .i64 0, .int .i64 0, .int .i64 0, .bool false, .bool false, .bool false, .bool false, .bool false, .pointer none, .int .i64 0, .int .i64 0, .bool false] 49)).heap.size := by simp
  generalize w.alloc (.cells #[.slice none 0 0, .slice none 0 0, .int .i64 0, .int .i64 0, .int .i64 0, .bool false, .bool false, .bool false, .bool false, .bool false, .pointer none, .int .i64 0, .int .i64 0, .bool false] 49) = W0 at *
  go_loopw [14] (fun i wr => ∃ (k : Nat) (v : Value) (ms : List Value), k ≤ n ∧ i = .int .i64 k ∧ wr.cell? ⟨w.heap.size, 0, none⟩ = some v ∧ wr.frozen? ⟨w.heap.size, 0, none⟩ = false ∧ wr.ownsRow (w.heap.size + 1) 51 1 v k ms ∧ Mems (L.take k) ms ∧ Below w.heap.size w wr ∧ w.heap.size < wr.heap.size) (fun i _ => n - (intOf i).toNat)
  case atStart => exact ⟨0, _, [], Nat.zero_le _, rfl, hc0, hf0, World.ownsRow_nil _ _ _ _, Mems.nil, hb0, hl0⟩
  case round =>
    clear hc0 hf0 hb0 hl0
    obtain ⟨k, v, ms, hk, rfl, hcv, hfv, hown, hmem, hb, hl⟩ := hrel
    by_cases hlt : k < n
    · obtain ⟨x, hxx⟩ := at_lt L k (by rw [← hn.out]; exact hlt)
      obtain ⟨rfl, hbk⟩ := hp.out (by omega)
      have hcx : wr.cell? ⟨bk, o + k, none⟩ = some (.int .i64 x) := (hb.cell (p := ⟨bk, o + k, none⟩) hbk).trans (hs k x hxx)
      have hx4 : x ≤ 4096 := hx.out x (List.mem_of_getElem? hxx)
      have Hxx : Hid (L[k]? = some x) := hxx
      clear hxx
      go_wp2_with fail
      go_region_law (first
        | (refine step_append_lies _ rfl (.tmp 22) (.tmp 25) 40 rfl (w.heap.size + 1) 51 i0 .nilIface 1 16 Try.underlying40 hi hz0 hz1 hz2 rfl (by decide) v k ms (by simp [Act.eval]) (hown3.alloc _) ⟨w3.heap.size, 0, none⟩ 1 1 [.iface (if x < 0 then 53 else 66) (.pointer (some q))] (by simp [Act.eval]) rfl (news_one w3 _ 51) (by intro u hu; simp at hu; subst hu; rfl) (by decide) (by unfold maxLen; omega) (by omega) (by simp; omega) _ rfl ?_; intro g cap w4 hown4 hgrow4 hat4 hlt4; have hcv4 : w4.cell? ⟨w.heap.size, 0, none⟩ = some v := (hgrow4.cell_far ⟨w.heap.size, 0, none⟩ (by simp; omega) (own_ne hown3)).trans (cell_later ((Below.refl _ w3).alloc (Nat.le_refl _) _) hcv3); have hfv4 : w4.frozen? ⟨w.heap.size, 0, none⟩ = false := (hgrow4.frozen_far ⟨w.heap.size, 0, none⟩ (by simp; omega) (own_ne hown3)).trans ((((Below.refl _ w3).alloc (Nat.le_refl _) _).frozen (p := ⟨w.heap.size, 0, none⟩) hl3).trans hfv3))
        | (go_simp; go_at_call 15; refine (member15 x _ hx4).mono ?_; rintro e w3 ⟨⟨q, rfl⟩, hb3⟩; have hown3 := own_below (w := wr.drew) hown hb3; have hcv3 : w3.cell? ⟨w.heap.size, 0, none⟩ = some v := (hb3.cell (p := ⟨w.heap.size, 0, none⟩) hl).trans hcv; have hfv3 : w3.frozen? ⟨w.heap.size, 0, none⟩ = false := (hb3.frozen (p := ⟨w.heap.size, 0, none⟩) hl).trans hfv; have hl3 : w.heap.size < w3.heap.size := Nat.lt_of_lt_of_le hl hb3.size))
      all_goals
        have HM : Hid (Mems (L.take (k + 1)) (ms ++ [.iface (if x < 0 then 53 else 66) (.pointer (some q))])) := by
          rw [List.take_add_one, Hxx.out]
          exact hmem.snoc x _ ⟨q, rfl⟩
        have hb4 : Below w.heap.size w w4 := Below.grown (((hb.drew).trans (hb3.mono hb.size)).alloc (by omega) _) hgrow4 (by simp; omega) (own_le hown3)
        have HE : Hid ((w4.setCell ⟨w.heap.size, 0, none⟩ (.slice (some ⟨g, 0, none⟩) (k + 1) cap)).cell? ⟨w.heap.size, 0, none⟩ = some (.slice (some ⟨g, 0, none⟩) (k + 1) cap) ∧ (w4.setCell ⟨w.heap.size, 0, none⟩ (.slice (some ⟨g, 0, none⟩) (k + 1) cap)).frozen? ⟨w.heap.size, 0, none⟩ = false ∧ (w4.setCell ⟨w.heap.size, 0, none⟩ (.slice (some ⟨g, 0, none⟩) (k + 1) cap)).ownsRow (w.heap.size + 1) 51 1 (.slice (some ⟨g, 0, none⟩) (k + 1) cap) (k + 1) (ms ++ [.iface (if x < 0 then 53 else 66) (.pointer (some q))]) ∧ Mems (L.take (k + 1)) (ms ++ [.iface (if x < 0 then 53 else 66) (.pointer (some q))]) ∧ Below w.heap.size w (w4.setCell ⟨w.heap.size, 0, none⟩ (.slice (some ⟨g, 0, none⟩) (k + 1) cap)) ∧ w.heap.size < (w4.setCell ⟨w.heap.size, 0, none⟩ (.slice (some ⟨g, 0, none⟩) (k + 1) cap)).heap.size) :=
          ⟨World.cell?_setCell_same _ _ _ hcv4, by rw [World.frozen?_setCell]; exact hfv4, ownsRow_setCell_below hown4 (Nat.lt_succ_self _) _, HM.out, hb4.setCell (Nat.le_refl _) _, by rw [World.size_setCell]; have := hgrow4.size; simp at this; omega⟩
        clear HM hb4 hown4 hgrow4 hat4 hlt4 hcv4 hfv4 hown3 hcv3 hfv3 hl3 hb3 hown hmem hcv hfv
        go_wp2_with fail
        go_roundw
        case rel => exact ⟨k + 1, _, _, by omega, by go_num, HE.out⟩
        case measure => simp [intOf]; omega
    · go_wp2_with fail
      have hkn : k = n := by omega
      subst hkn
      rw [List.take_of_length_le (by rw [← hn.out]; exact Nat.le_refl _)] at hmem
      go_loop [32] (fun i => i = .int .i64 0) (fun _ => 0)
      case atStart => rfl
      case round =>
        subst hrel
        go_wp2_with fail
        go_ret
        exact ⟨rfl, hb, v, hcv, ms, hown, hmem⟩

end Go.Proofs.Qxb6609229a
