/-
  THE WALK OF FnReserveGrantNameGrowsByADigit (function 4).
-/
import Derived.Test.Qxb6612587aFmtDigits
namespace Go.Proofs.Qxb6612587aFmt
open Go.RowKit Go.Kit Go.Extern.Stop Go.Stop Go.Extern

set_option maxHeartbeats 400000 in
theorem grows_out (n d : Int) (w : World) (h : n < 1 ∨ 922337203685477579 < n ∨ d < 0 ∨ 9 < d) :
    Calls Tryf.prog 4 #[.int .i64 n, .int .i64 d] w fun e w' => e = .returned (.bool true) ∧ w' = w := by
  by_cases h1 : n < 1
  · go_enter Tryf.func4, Tryf.ntmps4
    go_wp2
    go_ret
    exact ⟨rfl, rfl⟩
  by_cases h2 : 922337203685477579 < n
  · go_enter Tryf.func4, Tryf.ntmps4
    go_wp2
    go_ret
    exact ⟨rfl, rfl⟩
  by_cases h3 : d < 0
  · go_enter Tryf.func4, Tryf.ntmps4
    go_wp2
    go_ret
    exact ⟨rfl, rfl⟩
  have h4 : 9 < d := by omega
  go_enter Tryf.func4, Tryf.ntmps4
  go_wp2
  go_ret
  exact ⟨rfl, rfl⟩

/-- The digit's own string. -/
def digB (d : Int) : ByteArray := ⟨#[UInt8.ofNat (48 + d.toNat)]⟩

theorem conv1 (w : World) (d : Int) (h3 : 0 ≤ d) :
    (convert 28 9 (.slice (some ⟨w.heap.size, 0, none⟩) 1 1)).run Tryf.prog (w.alloc (.cells #[.int .u8 (48 + d)] 5)) = .ok (.string (digB d)) (w.alloc (.cells #[.int .u8 (48 + d)] 5)) := by
  rw [run_convert_bytes_arg (w.alloc (.cells #[.int .u8 (48 + d)] 5)) 28 5 Tryf.underlying28 Tryf.underlying5 w.heap.size 0 1 1 [48 + d] rfl ?_ 9 Tryf.underlying9]
  · have e : (48 + d).toNat = 48 + d.toNat := by omega
    simp [strOfNums, digB, e]
  · intro i hi
    have : i = 0 := by omega
    subst this
    exact World.cell?_alloc_mark w _ 5 _ 0

theorem wf64 (n : Int) (h1 : -9223372036854775808 ≤ n) (h2 : n ≤ 9223372036854775807) : (Lit.int .i64 n).wf = true := by
  simp [Lit.wf, IntKind.min, IntKind.max, IntKind.signed, IntKind.bits]; omega

theorem nmB_le (n : Int) (h1 : -9223372036854775808 ≤ n) (h2 : n ≤ 9223372036854775807) : (nmB n).size ≤ 29 := by
  have := FmtText.itoa_length_le (wf64 n h1 h2)
  show (nm n).toArray.size ≤ 29
  simp [nm]; omega
theorem digB_le (d : Int) : (digB d).size ≤ 1 := Nat.le_refl _

theorem nm_eq (m n d : Int) (h : nm m = nm n ++ [UInt8.ofNat (48 + d.toNat)]) : ((nmB m).toList == (nmB n ++ digB d).toList) = true := by
  have e : nmB m = nmB n ++ digB d := by
    apply ByteArray.ext
    simp [nmB, digB, h]
  rw [e]; simp

set_option maxHeartbeats 400000 in
theorem grows_in (F : Interp) (n d : Int) (w : World) (hF : F.told.answers w.tape) (h1 : 1 ≤ n) (h2 : n ≤ 922337203685477579) (h3 : 0 ≤ d) (h4 : d ≤ 9) :
    Calls Tryf.prog 4 #[.int .i64 n, .int .i64 d] w fun e w' => e = .returned (.bool true) ∧ Below w.heap.size w w' := by
  have hcv := conv1 w d h3
  have e1 := nm_eq _ _ _ (nm_snoc n d h1 h3 h4)
  have e2 := nm_eq _ _ _ (nm_neg_snoc n d h1 h3 h4)
  have l1 := nmB_le n (by omega) (by omega)
  have l2 := nmB_le (-n) (by omega) (by omega)
  have l3 := digB_le d
  have HS : Hid (((nmB n).size : Int) = 8 + (Lib.nDigits n.toNat : Nat)) := by
    have := nmB_size n h1
    show _ = _
    omega
  have l4 := Lib.nDigits_le20 n.toNat (by omega)
  have e3 : ((((nmB n).size : Nat) : Int) == 8 + ((Lib.nDigits n.toNat : Nat) : Int)) = true := by rw [HS.out]; simp
  go_enter Tryf.func4, Tryf.ntmps4
  go_wp2_with fail
  refine (name5 F n _ (by exact hF) (wf64 _ (by omega) (by omega))).mono ?_
  rintro e w' ⟨rfl, rfl⟩
  go_wp2_with fail
  refine (name5 F (10 * n + d) _ (by exact hF) (wf64 _ (by omega) (by omega))).mono ?_
  rintro e w' ⟨rfl, rfl⟩
  go_wp2_with fail
  refine (name5 F (-(10 * n + d)) _ (by exact hF) (wf64 _ (by omega) (by omega))).mono ?_
  rintro e w' ⟨rfl, rfl⟩
  go_wp2_with fail
  refine (name5 F (-n) _ (by exact hF) (wf64 _ (by omega) (by omega))).mono ?_
  rintro e w' ⟨rfl, rfl⟩
  go_wp2_with fail
  refine (digits8 n h1 (by omega) _).mono ?_
  rintro e w' ⟨rfl, rfl⟩
  go_wp2_with fail
  go_ret
  exact ⟨by simp, ((((((((Below.refl _ _).alloc (Nat.le_refl _) _).alloc (by simp) _).alloc (by simp; omega) _).alloc (by simp; omega) _).alloc (by simp; omega) _).drew).drew).drew.drew⟩

end Go.Proofs.Qxb6612587aFmt
