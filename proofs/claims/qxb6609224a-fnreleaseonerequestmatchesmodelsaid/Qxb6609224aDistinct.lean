/-
  zzB1Distinct (10): heap sort of a copy.
-/
import Derived.Test.Qxb6609224aSiftW
namespace Go.Proofs.Qxb6609224a
open Go.RowKit

theorem info2 : (Try.prog.info? 2).map (fun i => (i.zero, i.size, i.bytes)) = some (some (.int .i64 0), 1, 8) := by kernel_rfl
theorem size2 : (Try.prog.info? 2).map (·.size) = some 1 := by kernel_rfl

/-- The cells from ⟨bk, o⟩ on hold f's first n values. -/
def Ints (w : World) (bk o n : Nat) (f : Nat → Int) : Prop := ∀ j, j < n → w.cell? ⟨bk, o + j, none⟩ = some (.int .i64 (f j))
theorem Ints.later {w w' : World} {bk o n B : Nat} {f : Nat → Int} (h : Ints w bk o n f) (hb : Below B w w') (hB : bk < B) : Ints w' bk o n f :=
  fun j hj => (hb.cell (p := ⟨bk, o + j, none⟩) hB).trans (h j hj)

theorem make_i64 (n : Nat) (w : World) (hn : n ≤ 1048576) :
    (Instr.makeSlice 23 (.int .i64 (n : Int)) (.int .i64 (n : Int))).run Try.prog w = .ok (.slice (some ⟨w.heap.size, 0, none⟩) n n) (w.alloc (.cells (madeCells #[.int .i64 0] n) 2)) :=
  run_make_row' 23 2 (.int .i64 0) 8 Try.underlying23 info2 rfl .i64 .i64 n (by omega) (by omega) w

theorem copy_run (w : World) (bk o c n : Nat) (f : Nat → Int) (hs : Ints w bk o n f) :
    ∃ W2, (Builtin.copy_ #[23, 23] 3 #[.slice (some ⟨w.heap.size, 0, none⟩) n n, .slice (some ⟨bk, o, none⟩) n c]).run Try.prog (w.alloc (.cells (madeCells #[.int .i64 0] n) 2)) = .ok (.int .i64 (n : Int)) W2 ∧
      Row W2 w.heap.size n f ∧ Below w.heap.size w W2 := by
  have hg : (w.alloc (.cells (madeCells #[.int .i64 0] n) 2)).heap[w.heap.size]? = some (.cells (madeCells #[.int .i64 0] n) 2 (0, 0)) := by
    show (w.heap.push (.cells (madeCells #[.int .i64 0] n) 2))[w.heap.size]? = _
    simp
  have hlen : ((List.range n).map fun j => Value.int .i64 (f j)).length = n := by simp
  have hrun := run_copy_row (P := Try.prog) (w.alloc (.cells (madeCells #[.int .i64 0] n) 2)) 23 23 3 2 w.heap.size 0 n n ⟨bk, o, none⟩ n c (madeCells #[.int .i64 0] n) 2 ((List.range n).map fun j => Value.int .i64 (f j))
    Try.underlying23 size2 hg (by rw [hlen]; exact (Nat.min_self n).symm)
    (by
      intro j v hj
      rw [List.getElem?_map] at hj
      obtain ⟨x, hx, rfl⟩ := Option.map_eq_some_iff.1 hj
      obtain ⟨h1, h2⟩ := List.getElem?_eq_some_iff.1 hx
      simp at h1 h2
      subst h2
      have hplain : (⟨bk, o, none⟩ : Addr).add j = ⟨bk, o + j, none⟩ := by unfold Addr.add; split <;> simp_all
      rw [hplain]
      exact cell_later ((Below.refl _ w).alloc (Nat.le_refl _) _) (hs j h1))
    (by rw [hlen, size_madeCells]; omega)
    (by
      intro v hv
      obtain ⟨x, _, rfl⟩ := List.mem_map.1 hv
      rfl)
  have hrow := setRow_heap (w.alloc (.cells (madeCells #[.int .i64 0] n) 2)) w.heap.size _ (List.take 0 (madeCells #[.int .i64 0] n).toList ++ ((List.range n).map fun j => Value.int .i64 (f j)) ++ List.drop (0 + ((List.range n).map fun j => Value.int .i64 (f j)).length) (madeCells #[.int .i64 0] n).toList).toArray 2 _ hg
  refine ⟨_, by rw [hlen] at hrun; exact hrun, ?_, below_setRow ((Below.refl _ w).alloc (Nat.le_refl _) _) (Nat.le_refl _) _⟩
  intro j hj
  rw [hlen] at hrow
  refine ⟨?_, frozen_of_row _ _ _ _ 2 hrow⟩
  rw [Joins.cell_of_block hrow]
  simp only [List.take_zero, List.nil_append, List.getElem?_toArray]
  rw [List.getElem?_append_left (by rw [hlen]; exact hj), List.getElem?_map, List.getElem?_range hj]
  rfl

/-- From place E + 1 on the row is sorted, and nothing ahead of it is greater. -/
def Srt (f : Nat → Int) (E n : Nat) : Prop := ∀ i j, i < j → E < j → j < n → f i ≤ f j
theorem Srt.step {f g : Nat → Int} {E n : Nat} (h : Srt f E n) (hp : Hp f 0 (E + 1)) (hE : 0 < E) (hn : E < n) (hs : Shuf E (sw f 0 E) g) : Srt g (E - 1) n := by
  have top := hp.top
  have a0 : sw f 0 E 0 = f E := by simp [sw]
  have aE : sw f 0 E E = f 0 := by simp [sw]; omega
  have ao : ∀ j, j ≠ 0 → j ≠ E → sw f 0 E j = f j := fun j h1 h2 => by simp [sw, h1, h2]
  have up : ∀ v, (∀ j, j ≤ E → f j ≤ v) → ∀ j, j < E → g j ≤ v := by
    intro v hv
    refine hs.bound v (fun j hj => ?_)
    by_cases h0 : j = 0
    · subst h0; rw [a0]; exact hv E (Nat.le_refl _)
    · rw [ao j h0 (by omega)]; exact hv j (by omega)
  have gE : g E = f 0 := (hs.same E (Nat.le_refl _)).trans aE
  have go : ∀ j, E < j → g j = f j := fun j hj => (hs.same j (by omega)).trans (ao j (by omega) (by omega))
  intro i j hij hj hjn
  by_cases e1 : j = E
  · subst e1
    rw [gE]
    exact up (f 0) (fun j hj => top j (by omega)) i hij
  · rw [go j (by omega)]
    by_cases e2 : i < E
    · exact up (f j) (fun i hi => h i j (by omega) (by omega) hjn) i e2
    · by_cases e3 : i = E
      · subst e3; rw [gE]; exact h 0 j (by omega) (by omega) hjn
      · rw [go i (by omega)]; exact h i j hij (by omega) hjn
theorem Srt.inj {f : Nat → Int} {n : Nat} (h : Srt f 0 n) (hd : ∀ j, 0 < j → j < n → f j ≠ f (j - 1)) : Inj n f := by
  have lt : ∀ i j, i < j → j < n → f i < f j := by
    intro i j hij hj
    have h1 := h (j - 1) j (by omega) (by omega) hj
    have h2 := hd j (by omega) hj
    have h3 : f i ≤ f (j - 1) := by
      by_cases e : i = j - 1
      · rw [e]; exact Int.le_refl _
      · exact h i (j - 1) (by omega) (by omega) (by omega)
    omega
  intro i j hi hj he
  rcases Nat.lt_trichotomy i j with h' | h' | h'
  · have := lt i j h' hj; omega
  · exact h'
  · have := lt j i h' hi; omega

set_option maxRecDepth 100000 in
set_option maxHeartbeats 2000000 in
theorem distinct10 (bk o c n : Nat) (f : Nat → Int) (w : World) (hs : Ints w bk o n f) (h0 : 0 < n) (hn : n ≤ 65536) :
    Calls Try.prog 10 #[.slice (some ⟨bk, o, none⟩) n c] w fun e w' => ((e = .returned (.bool true) ∧ Inj n f) ∨ e = .returned (.bool false)) ∧ Below w.heap.size w w' := by
  have hmk := make_i64 n w (by omega)
  obtain ⟨W2, hcp, hrow2, hb2⟩ := copy_run w bk o c n f hs
  clear hs
  go_enter Try.func10, Try.ntmps10
  go_wp2_with fail
  clear hcp hmk
  have ed : (n : Int).tdiv 2 = ((n / 2 : Nat) : Int) := by rw [Int.tdiv_eq_ediv_of_nonneg (by omega)]; omega
  go_loopw [5] (fun i wr => ∃ (y : Nat) (s : Int) (f' : Nat → Int), i = .int .i64 s ∧ Hid (s = (y : Int) - 1) ∧ y ≤ 65536 ∧ Row wr w.heap.size n f' ∧ Shuf n f f' ∧ Hp f' y n ∧ Below w.heap.size w wr) (fun i _ => (intOf i + 1).toNat)
  case atStart =>
    refine ⟨n / 2, _, f, rfl, ?_, by omega, hrow2, Shuf.refl _ _, fun i j hi hj hjn => by omega, hb2⟩
    show _ = _
    omega
  case round =>
    clear hrow2 hb2 ed
    obtain ⟨y, s, f', rfl, hsy, hy, hrow, hsh, hhp, hb⟩ := hrel
    by_cases hy0 : y = 0
    · subst hy0
      obtain rfl : s = -1 := by have := hsy.out; omega
      clear hsy
      go_wp2_with fail
      go_loopw [6] (fun i wr => ∃ (E : Nat) (f' : Nat → Int), i = .int .i64 (E : Int) ∧ E < n ∧ Row wr w.heap.size n f' ∧ Shuf n f f' ∧ Hp f' 0 (E + 1) ∧ Srt f' E n ∧ Below w.heap.size w wr) (fun i _ => (intOf i).toNat)
      case atStart =>
        refine ⟨n - 1, f', ?_, by omega, hrow, hsh, by rw [show n - 1 + 1 = n from by omega]; exact hhp, fun i j hij hE hj => by omega, hb⟩
        go_num
      case round =>
        clear hrow hsh hhp hb
        obtain ⟨E, f', rfl, hE, hrow, hsh, hhp, hsrt, hb⟩ := hrel
        by_cases hE0 : E = 0
        · subst hE0
          go_wp2_with fail
          go_loopw [8] (fun i wr => ∃ (j : Nat), i = .int .i64 (j : Int) ∧ 1 ≤ j ∧ j ≤ n ∧ Row wr w.heap.size n f' ∧ Hid (∀ i, 0 < i → i < j → f' i ≠ f' (i - 1)) ∧ Below w.heap.size w wr) (fun i _ => n - (intOf i).toNat)
          case atStart => exact ⟨1, rfl, Nat.le_refl _, by omega, hrow, fun i h1 h2 => by omega, hb⟩
          case round =>
            clear hrow hb
            obtain ⟨j, rfl, hj1, hjn, hrow, hdis, hb⟩ := hrel
            by_cases hjl : j < n
            · obtain ⟨c1, _⟩ := hrow j hjl
              obtain ⟨c2, _⟩ := hrow (j - 1) (by omega)
              obtain ⟨p, hp⟩ : ∃ p : Nat, p = j - 1 := ⟨_, rfl⟩
              rw [← hp] at c2
              have e1 : IntKind.i64.wrap ((j : Int) - 1) = (p : Int) := by rw [IntWalk.i64_in _ (by omega)]; omega
              have e2 : (j : Int) - 1 = (p : Int) := by omega
              have hpn : p < n := by omega
              have Hp1 : Hid (p = j - 1) := hp
              have Hrow : Hid (Row wr w.heap.size n f') := hrow
              clear hp hrow
              have Hhp : Hid (Hp f' 0 (0 + 1)) := hhp
              have Hsrt : Hid (Srt f' 0 n) := hsrt
              clear hhp hsrt
              by_cases heq : f' j = f' p
              · have hd : (f' j == f' p) = true := by simp [heq]
                clear heq
                go_wp2_with fail
                go_quiet (fail)
                go_wp2_with fail
                go_ret
                exact ⟨Or.inr rfl, below_drewN hb _⟩
              · have hd : (f' j == f' p) = false := by simp [heq]
                have Hne : Hid (f' j ≠ f' p) := heq
                clear heq
                go_wp2_with fail
                go_quiet (fail)
                go_wp2_with fail
                go_roundw
                case rel =>
                  refine ⟨j + 1, by go_num, by omega, by omega, Hrow.out, ?_, below_drewN hb _⟩
                  intro i hi hij
                  by_cases e : i = j
                  · subst e; rw [← Hp1.out]; exact Hne.out
                  · exact hdis.out i hi (by omega)
                case measure => simp [intOf]; omega
            · go_wp2_with fail
              go_ret
              exact ⟨Or.inl ⟨rfl, hsh.inj n (Nat.le_refl _) (hsrt.inj (fun i hi hin => hdis.out i hi (by omega)))⟩, hb⟩
        · obtain ⟨c0, f0⟩ := hrow 0 h0
          obtain ⟨cE, fE⟩ := hrow E hE
          have Hrow : Hid (Row wr w.heap.size n f') := hrow
          have hne : ¬ E = 0 := hE0
          clear hrow
          have hEp : 0 < E := by omega
          go_wp2_with fail
          have hr1 : Row ((wr.setCell ⟨w.heap.size, 0, none⟩ (.int .i64 (f' E))).setCell ⟨w.heap.size, E, none⟩ (.int .i64 (f' 0))) w.heap.size n (sw f' 0 E) := Row.swap Hrow.out h0 hE
          refine (sift43 w.heap.size n 0 E (sw f' 0 E) _ hr1 (by omega) hn (by omega) ?_).mono ?_
          · intro i j hi hj hjE
            have e1 : sw f' 0 E j = f' j := by simp only [sw]; rw [if_neg (by omega), if_neg (by omega)]
            have e2 : sw f' 0 E i = f' i := by simp only [sw]; rw [if_neg (by omega), if_neg (by omega)]
            rw [e1, e2]
            exact hhp i j (by omega) hj (by omega)
          rintro e w3 ⟨rfl, f3, hrow3, hsh3, hhp3, hb3⟩
          have HR : Hid (Row w3 w.heap.size n f3 ∧ Shuf n f f3 ∧ Hp f3 0 (E - 1 + 1) ∧ Srt f3 (E - 1) n ∧ Below w.heap.size w w3) :=
            ⟨hrow3, (hsh.trans (Shuf.sw n f' 0 E h0 hE)).trans (hsh3.mono (by omega)), by rw [show E - 1 + 1 = E from by omega]; exact hhp3, hsrt.step hhp hEp hE hsh3, ((hb.setCell (Nat.le_refl _) _).setCell (Nat.le_refl _) _).trans hb3⟩
          clear hrow3 hsh3 hhp3 hb3 hr1 hhp hsrt hsh hb
          go_wp2_with fail
          go_roundw
          case rel => exact ⟨E - 1, f3, by go_num, by omega, HR.out⟩
          case measure => simp [intOf]; omega
    · obtain ⟨z, rfl⟩ : ∃ z, y = z + 1 := ⟨y - 1, by omega⟩
      obtain rfl : s = (z : Int) := by have := hsy.out; omega
      clear hsy hy0
      go_wp2_with fail
      refine (sift43 w.heap.size n z n f' _ hrow (Nat.le_refl _) hn (by omega) hhp).mono ?_
      rintro e w3 ⟨rfl, f3, hrow3, hsh3, hhp3, hb3⟩
      have HR : Hid (Row w3 w.heap.size n f3 ∧ Shuf n f f3 ∧ Hp f3 z n ∧ Below w.heap.size w w3) := ⟨hrow3, hsh.trans hsh3, hhp3, hb.trans hb3⟩
      clear hrow3 hsh3 hhp3 hb3 hrow hsh hhp hb
      go_wp2_with fail
      go_roundw
      case rel => exact ⟨z, _, f3, rfl, rfl, by omega, HR.out⟩
      case measure => simp [intOf]

end Go.Proofs.Qxb6609224a
