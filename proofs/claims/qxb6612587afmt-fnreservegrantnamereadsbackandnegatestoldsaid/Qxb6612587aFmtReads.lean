/-
  THE NAME READ BACK; THE WALK OF FnReserveGrantNameReadsBackAndNegates (function 3).
-/
import Derived.Test.Qxb6612587aFmtParse
import Derived.Deep.QuietTactic
import Derived.BigQuiet
import Derived.Deep.RegionWith
namespace Go.Proofs.Qxb6612587aFmt
open Go.RowKit Go.Kit Go.Extern.Stop Go.Stop Go.Extern

theorem ext_mk (l : List UInt8) (a b : Nat) : (ByteArray.mk l.toArray).extract a b = ⟨((l.drop a).take (b - a)).toArray⟩ := by
  apply ByteArray.ext
  apply Array.toList_inj.1
  simp [ByteArray.data_extract, List.extract_eq_take_drop]

theorem nmB_pre (n : Int) : (nmB n).extract 0 8 = ⟨#[114, 101, 115, 101, 114, 118, 101, 45]⟩ := by
  rw [nmB, ext_mk]
  rfl
theorem nmB_tail (n : Int) : (nmB n).extract 8 (nmB n).size = ⟨(Lib.itoa n).toArray⟩ := by
  have hs : (nmB n).size = (nm n).length := rfl
  rw [hs, nmB, ext_mk]
  congr 2
  have e : List.drop 8 (nm n) = Lib.itoa n := rfl
  rw [e, List.take_of_length_le]
  simp [nm]

theorem nmB_size8 (n : Int) : (nmB n).size = 8 + (Lib.itoa n).length := by
  show (nm n).length = _
  simp [nm]; omega

theorem size_mk (l : List UInt8) : (ByteArray.mk l.toArray).size = l.length := rfl
theorem ne_empty {r : ByteArray} (h : 0 < r.size) : ¬ r = ByteArray.empty := by
  intro e
  rw [e] at h
  simp at h

theorem decB_zero (u : Nat) (hu : u = 0) (h : 0 < (decB u).size) : ((decB u)[0]).toNat = 48 := by
  subst hu
  have hd : Lib.decDigits 0 = [48] := by rw [Lib.decDigits, dif_pos (by omega)]; rfl
  have e : ((Lib.decDigits 0)[0]'(by rw [hd]; simp)).toNat = 48 := by
    simp only [hd, List.getElem_cons_zero]
    rfl
  exact e

theorem parse6 (n : Int) (w : World) (h1 : -9223372036854775808 ≤ n) (h2 : n ≤ 9223372036854775807) :
    Calls Tryf.prog 6 #[.string (nmB n)] w fun e w' => e = .returned (.tuple #[.bool (decide (n < 0)), .int .u64 (n.natAbs : Nat), .bool true]) ∧ w' = w := by
  have hp := Lib.nDigits_pos n.natAbs
  have hl := Lib.nDigits_le20 n.natAbs (by omega)
  have hsz := decB_size n.natAbs
  have h0 : 0 < (decB n.natAbs).size := by omega
  have hd0 := decB_get n.natAbs 0 h0
  by_cases hn : n < 0
  · have ei : Lib.itoa n = 45 :: Lib.decDigits n.natAbs := by rw [Lib.itoa, if_pos hn]
    have et := nmB_tail n
    rw [ei] at et
    have hq0 : (ByteArray.mk (45 :: Lib.decDigits n.natAbs).toArray).size = 1 + Lib.nDigits n.natAbs := by
      rw [size_mk, List.length_cons, Lib.decDigits_length]; omega
    have er : (ByteArray.mk (45 :: Lib.decDigits n.natAbs).toArray).extract 1 (ByteArray.mk (45 :: Lib.decDigits n.natAbs).toArray).size = decB n.natAbs := by
      rw [hq0, ext_mk, decB]
      congr 2
      rw [List.drop_succ_cons, List.drop_zero, List.take_of_length_le]
      rw [Lib.decDigits_length]; omega
    have := parse_neg n.natAbs _ _ (nmB n) w (show Hid (decB n.natAbs = decB n.natAbs) from rfl) (by omega) (by rw [nmB_size8, ei, List.length_cons, Lib.decDigits_length]; omega) (nmB_pre n) et (by omega) er h0 (ne_empty h0) (by omega)
      (by rfl) (by have := decB_head n.natAbs (by omega) h0; simp; omega)
    rw [decide_eq_true hn]
    exact this
  · have ei : Lib.itoa n = Lib.decDigits n.natAbs := by rw [Lib.itoa, if_neg hn]; congr 1; omega
    have et := nmB_tail n
    rw [ei] at et
    have := parse_pos n.natAbs (decB n.natAbs) (nmB n) w (show Hid (decB n.natAbs = decB n.natAbs) from rfl) (by omega) (by rw [nmB_size8, ei, Lib.decDigits_length]; omega) (nmB_pre n) et h0 (ne_empty h0) (by omega)
      (by simp; omega) (by
        by_cases hz : n = 0
        · have hz0 : n.natAbs = 0 := by omega
          have := decB_zero n.natAbs hz0 h0
          have h1' := Lib.nDigits_small (u := n.natAbs) (by omega)
          exact Or.inr ⟨by simp; omega, by omega⟩
        · have := decB_head n.natAbs (by omega) h0
          exact Or.inl (by simp; omega))
    rw [decide_eq_false hn]
    exact this

/-- For n > 0: the name of -n out of the two parts of the name of n. -/
theorem neg_name (n : Int) (hn : 1 ≤ n) : ((nmB (-n)).toList == ((ByteArray.mk #[114, 101, 115, 101, 114, 118, 101, 45] ++ ByteArray.mk #[45]) ++ ByteArray.mk (Lib.itoa n).toArray).toList) = true := by
  have e : nmB (-n) = (ByteArray.mk #[114, 101, 115, 101, 114, 118, 101, 45] ++ ByteArray.mk #[45]) ++ ByteArray.mk (Lib.itoa n).toArray := by
    have ei : Lib.itoa (-n) = 45 :: Lib.itoa n := by
      unfold Lib.itoa
      rw [if_pos (by omega), if_neg (by omega)]
      congr 2
      omega
    apply ByteArray.ext
    simp [nmB, nm, ei]
  rw [e]; simp

set_option maxHeartbeats 400000 in
theorem reads_neg (F : Interp) (n : Int) (w : World) (hF : F.told.answers w.tape) (h1 : -9223372036854775808 ≤ n) (h2 : n ≤ 0) :
    Calls Tryf.prog 3 #[.int .i64 n] w fun e w' => e = .returned (.bool true) ∧ Below w.heap.size w w' := by
  go_enter Tryf.func3, Tryf.ntmps3
  go_wp2_with fail
  refine (name5 F n _ (by exact hF) (wf64 _ (by omega) (by omega))).mono ?_
  rintro e w' ⟨rfl, rfl⟩
  go_wp2_with fail
  refine (parse6 n _ (by omega) (by omega)).mono ?_
  rintro e w' ⟨rfl, rfl⟩
  go_wp2_with fail
  refine (mag7 n _ (by omega) (by omega)).mono ?_
  rintro e w' ⟨rfl, rfl⟩
  go_wp2_with fail
  go_ret
  exact ⟨rfl, ((Below.refl _ _).alloc (Nat.le_refl _) _).drew⟩

set_option maxHeartbeats 1000000 in
theorem reads_pos (F : Interp) (n : Int) (w : World) (hF : F.told.answers w.tape) (h1 : 1 ≤ n) (h2 : n ≤ 9223372036854775807) :
    Calls Tryf.prog 3 #[.int .i64 n] w fun e w' => e = .returned (.bool true) ∧ Below w.heap.size w w' := by
  have hs8 := nmB_size8 n
  have hs28 := nmB_le n (by omega) (by omega)
  have hl8 : 8 ≤ (nmB n).size := by omega
  have hil : (Lib.itoa n).length ≤ 21 := by omega
  have hpre := nmB_pre n
  have htail := nmB_tail n
  have heq := neg_name n h1
  have hsz : (ByteArray.mk (Lib.itoa n).toArray).size ≤ 21 := by rw [size_mk]; exact hil
  have hwr : IntKind.i64.wrap (-n) = -n := by
    simp [IntKind.wrap, IntKind.signed, IntKind.bits]; omega
  clear hs8
  generalize (ByteArray.mk (Lib.itoa n).toArray) = t at *
  go_enter Tryf.func3, Tryf.ntmps3
  go_wp2_with fail
  refine (name5 F n _ (by exact hF) (wf64 _ (by omega) (by omega))).mono ?_
  rintro e w' ⟨rfl, rfl⟩
  go_wp2_with fail
  refine (parse6 n _ (by omega) (by omega)).mono ?_
  rintro e w' ⟨rfl, rfl⟩
  go_wp2_with fail
  refine (mag7 n _ (by omega) (by omega)).mono ?_
  rintro e w' ⟨rfl, rfl⟩
  go_wp2_with fail
  go_region_with (go_at_call 5; refine (name5 F (-n) _ ?_ (wf64 _ (by omega) (by omega))).mono ?_; exact hF; rintro e w' ⟨rfl, rfl⟩)
  all_goals
    go_wp2
    go_ret
    refine ⟨?_, ?_⟩
    · rfl
    · exact ((((Below.refl _ _).alloc (Nat.le_refl _) _).drew.drew).alloc (by simp) _).drew

end Go.Proofs.Qxb6612587aFmt
