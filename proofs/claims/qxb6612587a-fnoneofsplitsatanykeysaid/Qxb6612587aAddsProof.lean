/-
  THE ROW OF FnOneOfAddsAKey, out of its walk.
-/
import Derived.Test.Qxb6612587aAdds
import Derived.ProofKit
import Derived.OpenShut
import Derived.ShutString
import Derived.SliceStrings
namespace Go.Proofs.Qxb6612587a
open Go.ChangeShapes Go.WideShapes Go.ChangeAt Go.RowKit
open Go.ChangeMaps (open_string shut_string)

theorem cells9 : Try.prog.cellsOf 9 = 1 := by kernel_rfl
theorem keys_own : ownKnob Try.prog.godebug = none := by kernel_rfl
theorem keys_laidOut : laidOutB Try.prog = true := by kernel_rfl

/-- A []string that came in, nil or not, as the walks want it. -/
theorem open_keys {H : Type} {enc : TypeId × Value → H} {W : World} {a0 : Option Addr} {len cap fuel : Nat} {x : DataW H × List MemPlace}
    (hf : DataW.trod enc Try.prog W 0 (fun _ => true) true fuel 22 [.slice a0 len cap] = some x) :
    (a0 = none ∧ len = 0) ∨ ∃ (a : Addr) (b off : Nat) (Xs : List ByteArray), a0 = some a ∧ Xs.length = len ∧ (0 < len → a = ⟨b, off, none⟩) ∧ Strs W b off Xs ∧ len ≤ maxLen ∧ (∀ (j : Nat) (y : ByteArray), Xs[j]? = some y → y.size ≤ maxLen) := by
  rcases open_strings Try.underlying22 Try.underlying9 cells9 hf with ⟨hcs, hx⟩ | ⟨a, len', cap', ss, hcs, _, hl, hm, hz, hx, hcell, hws⟩
  · simp at hcs
    exact Or.inl ⟨hcs.1, hcs.2.1⟩
  · simp at hcs
    obtain ⟨rfl, rfl, rfl⟩ := hcs
    right
    simp only [if_true] at hz
    obtain ⟨b, off, spot⟩ := a
    refine ⟨_, b, off, ss.take len, rfl, by simp; omega, fun h0 => ?_, fun j X hX => ?_, by omega, fun j X hX => ?_⟩
    · have hspot : spot = none := by simpa [Addr.add] using World.cell?_spot (hcell 0 (by omega))
      rw [hspot]
    · have hj : j < len := by
        have := (List.getElem?_eq_some_iff.1 hX).1
        simp at this
        omega
      have hspot : spot = none := by simpa [Addr.add] using World.cell?_spot (hcell 0 (by omega))
      subst hspot
      have hX' : ss.getD j ByteArray.empty = X := by
        rw [List.getElem?_take_of_lt hj] at hX
        simp [List.getD, hX]
      have hplain : (⟨b, off, none⟩ : Addr).add j = ⟨b, off + j, none⟩ := by unfold Addr.add; split <;> simp_all
      rw [← hplain, ← hX']
      exact hcell j (by omega)
    · have hmem : X ∈ ss.take len := List.mem_of_getElem? hX
      exact hws X (List.mem_of_mem_take hmem)

theorem adds_any (a0 : Option Addr) (len cap : Nat) (k : ByteArray) (W : World) (hk : k.size ≤ maxLen)
    (h : (a0 = none ∧ len = 0) ∨ ∃ (a : Addr) (b off : Nat) (Xs : List ByteArray), a0 = some a ∧ Xs.length = len ∧ (0 < len → a = ⟨b, off, none⟩) ∧ Strs W b off Xs ∧ len ≤ maxLen ∧ (∀ (j : Nat) (y : ByteArray), Xs[j]? = some y → y.size ≤ maxLen)) :
    Calls Try.prog 3 #[.slice a0 len cap, .string k] W fun e w' => e = .returned (.bool true) ∧ Below W.heap.size W w' := by
  have em : maxLen = 9223372036854775807 := rfl
  rw [em] at hk h
  rcases h with ⟨rfl, rfl⟩ | ⟨a, b, off, Xs, rfl, hl, ha, hs, hm, hx⟩
  · exact adds_nil cap k W hk
  · exact adds_some a b off cap len Xs k W hl.symm ha hs hm hx hk

set_option maxRecDepth 100000 in
theorem adds_lifted (os : Os) (started : os.Started) (H : Type) (enc : TypeId × Value → H) :
    ReturnsInHanded {} Try.checked os 3 .any (Rows.fnOneOfAddsAKeySpec.pre6 enc Try.prog Try.f3 Rows.fnOneOfAddsAKeyRow.domain false) (Rows.fnOneOfAddsAKeySpec.post enc Try.prog Try.f3 false true false false) := by
  refine returnsInHanded_of_change (C := Try.checked) keys_own started (by kernel_rfl) Try.func3
    (ChangeSpec.witness6 (enc := enc) (C := Try.checked) false ⟨#[], #[.slice none 0 0, .string ByteArray.empty], []⟩ 8 (by kernel_rfl) (by kernel_rfl) (by kernel_rfl) (by kernel_rfl)) ?_
  intro W base args ds gs before hval0 hW _ _
  have hval : ∀ (j : Nat) t v, Try.f3.params[j]? = some t → args[j]? = some v → Value.okWide Try.prog W .any base t v := hval0
  have hW' := hW
  obtain ⟨p, q, hA0, hV, rfl, _, _⟩ := hW
  have hA : DataW.TrodAll enc Try.prog W 0 (fun _ => true) true Try.f3.params.toList args.toList ds p := hA0
  rw [Try.params3] at hA hval
  obtain ⟨v0, v1, d0, d1, p0, p1, rfl, rfl, rfl, h0, h1⟩ := trodAll_two hA
  obtain ⟨rfl, rfl⟩ := trodVars_none hV
  obtain ⟨a0, len, cap, rfl⟩ := okWide_slice Try.underlying22 (hval 0 22 v0 rfl rfl)
  obtain ⟨k, rfl, rfl, rfl, wk⟩ := open_string Try.underlying9 (hval 1 9 v1 rfl rfl) h1
  have h0k := h0
  obtain ⟨fuel, hf⟩ := h0
  clear hA0 hval0
  simp only [List.append_nil] at hW'
  have hlt : ∀ x ∈ p0, x.block < W.heap.size := fun x hx => by simpa using hW'.lt x hx
  refine (adds_any a0 len cap k W wk (open_keys hf)).mono fun e W' ⟨he, hb⟩ => ?_
  subst he
  have harg : DataW.Trod enc Try.prog W' 0 (fun b => decide (b < W.heap.size)) true 22 (.slice a0 len cap) d0 p0 :=
    Below.trod keys_laidOut (by kernel_rfl) (of_decide_eq_true (by kernel_rfl)) h0k hb hlt
  refine ⟨_, rfl, _, _, _, [], p0 ++ [], [], hW', ?_, ?_, rfl, hb.frame _, fun h => by cases h⟩
  · exact trodAll_mk1 (shut_bool Try.underlying4 true)
  · exact trodAll_mk2 harg (shut_string Try.underlying9 wk)

theorem adds_proved : Rows.FnOneOfAddsAKeySaid :=
  OpenClaim.holds_of_wide 3 Try.f3 rfl rfl rfl rfl rfl rfl rfl ⟨rfl, rfl, rfl, rfl, rfl⟩ rfl rfl rfl rfl rfl (by kernel_rfl) Try.func3 (by kernel_rfl)
    (of_decide_eq_true (by kernel_rfl)) (by unfold Func.isWrapper; first | (rw [if_pos (by decide +kernel)]; kernel_rfl) | (rw [if_neg (by decide +kernel)]; exact ⟨rfl, rfl⟩))
    (fun os started H enc _ => adds_lifted os started H enc)

end Go.Proofs.Qxb6612587a
