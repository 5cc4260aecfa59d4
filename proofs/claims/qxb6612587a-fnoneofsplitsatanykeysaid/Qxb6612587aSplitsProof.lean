/-
  THE ROW OF FnOneOfSplitsAtAnyKey, out of its walk.
-/
import Derived.Test.Qxb6612587aSplits
import Derived.Test.Qxb6612587aAddsProof
import Derived.ProofKit
import Derived.OpenShut
namespace Go.Proofs.Qxb6612587a
open Go.ChangeShapes Go.WideShapes Go.ChangeAt Go.RowKit

theorem splits_any (a0 : Option Addr) (len cap : Nat) (m : Int) (W : World)
    (h : (a0 = none ∧ len = 0) ∨ ∃ (a : Addr) (b off : Nat) (Xs : List ByteArray), a0 = some a ∧ Xs.length = len ∧ (0 < len → a = ⟨b, off, none⟩) ∧ Strs W b off Xs ∧ len ≤ maxLen ∧ (∀ (j : Nat) (y : ByteArray), Xs[j]? = some y → y.size ≤ maxLen)) :
    Calls Try.prog 4 #[.slice a0 len cap, .int .i64 m] W fun e w' => e = .returned (.bool true) ∧ Below W.heap.size W w' := by
  have em : maxLen = 9223372036854775807 := rfl
  rw [em] at h
  rcases h with ⟨rfl, rfl⟩ | ⟨a, b, off, Xs, rfl, hl, ha, hs, hm, hx⟩
  · exact splits_nil cap m W
  · exact splits_some a b off cap len Xs m W hl.symm ha hs hm hx

set_option maxRecDepth 100000 in
theorem splits_lifted (os : Os) (started : os.Started) (H : Type) (enc : TypeId × Value → H) :
    ReturnsInHanded {} Try.checked os 4 .any (Rows.fnOneOfSplitsAtAnyKeySpec.pre6 enc Try.prog Try.f4 Rows.fnOneOfSplitsAtAnyKeyRow.domain false) (Rows.fnOneOfSplitsAtAnyKeySpec.post enc Try.prog Try.f4 false true false false) := by
  refine returnsInHanded_of_change (C := Try.checked) keys_own started (by kernel_rfl) Try.func4
    (ChangeSpec.witness6 (enc := enc) (C := Try.checked) false ⟨#[], #[.slice none 0 0, .int .i64 0], []⟩ 8 (by kernel_rfl) (by kernel_rfl) (by kernel_rfl) (by kernel_rfl)) ?_
  intro W base args ds gs before hval0 hW _ _
  have hval : ∀ (j : Nat) t v, Try.f4.params[j]? = some t → args[j]? = some v → Value.okWide Try.prog W .any base t v := hval0
  have hW' := hW
  obtain ⟨p, q, hA0, hV, rfl, _, _⟩ := hW
  have hA : DataW.TrodAll enc Try.prog W 0 (fun _ => true) true Try.f4.params.toList args.toList ds p := hA0
  rw [Try.params4] at hA hval
  obtain ⟨v0, v1, d0, d1, p0, p1, rfl, rfl, rfl, h0, h1⟩ := trodAll_two hA
  obtain ⟨rfl, rfl⟩ := trodVars_none hV
  obtain ⟨a0, len, cap, rfl⟩ := okWide_slice Try.underlying22 (hval 0 22 v0 rfl rfl)
  obtain ⟨m, rfl, rfl, rfl, wm⟩ := open_int Try.underlying3 (hval 1 3 v1 rfl rfl) h1
  have h0k := h0
  obtain ⟨fuel, hf⟩ := h0
  clear hA0 hval0
  simp only [List.append_nil] at hW'
  have hlt : ∀ x ∈ p0, x.block < W.heap.size := fun x hx => by simpa using hW'.lt x hx
  refine (splits_any a0 len cap m W (open_keys hf)).mono fun e W' ⟨he, hb⟩ => ?_
  subst he
  have harg : DataW.Trod enc Try.prog W' 0 (fun b => decide (b < W.heap.size)) true 22 (.slice a0 len cap) d0 p0 :=
    Below.trod keys_laidOut (by kernel_rfl) (of_decide_eq_true (by kernel_rfl)) h0k hb hlt
  refine ⟨_, rfl, _, _, _, [], p0 ++ [], [], hW', ?_, ?_, rfl, hb.frame _, fun h => by cases h⟩
  · exact trodAll_mk1 (shut_bool Try.underlying4 true)
  · exact trodAll_mk2 harg (shut_int Try.underlying3 wm)

theorem splits_proved : Rows.FnOneOfSplitsAtAnyKeySaid :=
  OpenClaim.holds_of_wide 4 Try.f4 rfl rfl rfl rfl rfl rfl rfl ⟨rfl, rfl, rfl, rfl, rfl⟩ rfl rfl rfl rfl rfl (by kernel_rfl) Try.func4 (by kernel_rfl)
    (of_decide_eq_true (by kernel_rfl)) (by unfold Func.isWrapper; first | (rw [if_pos (by decide +kernel)]; kernel_rfl) | (rw [if_neg (by decide +kernel)]; exact ⟨rfl, rfl⟩))
    (fun os started H enc _ => splits_lifted os started H enc)

end Go.Proofs.Qxb6612587a
