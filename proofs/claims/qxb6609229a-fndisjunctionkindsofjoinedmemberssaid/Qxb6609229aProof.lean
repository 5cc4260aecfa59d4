/-
  THE ROW OF FnDisjunctionKindsOfJoinedMembers, out of its walk.
-/
import Derived.Test.Qxb6609229aNil
import Derived.ProofKit
import Derived.OpenShut
namespace Go.Proofs.Qxb6609229a
open Go.ChangeShapes Go.WideShapes Go.ChangeAt Go.RowKit

theorem cells3 : Try.prog.cellsOf 3 = 1 := by kernel_rfl
theorem dis_own : ownKnob Try.prog.godebug = none := by kernel_rfl
theorem dis_laidOut : laidOutB Try.prog = true := by kernel_rfl

theorem block_lt {w : World} {a : Addr} {v : Value} (h : w.cell? a = some v) : a.block < w.heap.size := by
  rcases Nat.lt_or_ge a.block w.heap.size with h' | h'
  · exact h'
  · simp [World.cell?, Array.getElem?_eq_none h'] at h

/-- A []int that came in, nil or not. -/
theorem came {H : Type} {enc : TypeId × Value → H} {W : World} {a0 : Option Addr} {len cap fuel : Nat} {x : DataW H × List MemPlace}
    (hf : DataW.trod enc Try.prog W 0 (fun _ => true) true fuel 30 [.slice a0 len cap] = some x) :
    ∃ L b o, Came W a0 len L b o ∧ (a0 = none → cap = 0) := by
  rcases open_ints Try.underlying30 Try.underlying3 cells3 hf with ⟨hcs, hx⟩ | ⟨a, len', cap', zs, hcs, _, hl, hm, hz, hx, hcell, hwz⟩
  · simp at hcs
    obtain ⟨rfl, rfl, rfl⟩ := hcs
    exact ⟨[], 0, 0, ⟨rfl, Nat.zero_le _, fun _ => rfl, fun h => by omega, no_ints W⟩, fun _ => rfl⟩
  · simp at hcs
    obtain ⟨rfl, rfl, rfl⟩ := hcs
    simp only [if_true] at hz
    obtain ⟨b, off, spot⟩ := a
    have hml : len ≤ 9223372036854775807 := by have e : maxLen = 9223372036854775807 := rfl; omega
    refine ⟨zs.take len, b, off, ⟨by simp; omega, hml, (fun h => by cases h), ?_, ?_⟩, (fun h => by cases h)⟩
    · intro h0
      have h := hcell 0 (by omega)
      have hspot : spot = none := by simpa [Addr.add] using World.cell?_spot h
      subst hspot
      exact ⟨rfl, block_lt h⟩
    · intro j y hy
      have hj : j < len := by
        have := (List.getElem?_eq_some_iff.1 hy).1
        simp at this
        omega
      have h := hcell 0 (by omega)
      have hspot : spot = none := by simpa [Addr.add] using World.cell?_spot h
      subst hspot
      have hy' : zs.getD j 0 = y := by
        rw [List.getElem?_take_of_lt hj] at hy
        simp [List.getD, hy]
      have hplain : (⟨b, off, none⟩ : Addr).add j = ⟨b, off + j, none⟩ := by unfold Addr.add; split <;> simp_all
      rw [← hplain, ← hy']
      exact hcell j (by omega)

set_option maxRecDepth 100000 in
theorem dis_lifted (os : Os) (started : os.Started) (H : Type) (enc : TypeId × Value → H) :
    ReturnsInHanded {} Try.checked os 4 .any (Rows.fnDisjunctionKindsOfJoinedMembersSpec.pre6 enc Try.prog Try.f4 Rows.fnDisjunctionKindsOfJoinedMembersRow.domain false) (Rows.fnDisjunctionKindsOfJoinedMembersSpec.post enc Try.prog Try.f4 false true false false) := by
  refine returnsInHanded_of_change (C := Try.checked) dis_own started (by kernel_rfl) Try.func4
    (ChangeSpec.witness6 (enc := enc) (C := Try.checked) false ⟨#[], #[.slice none 0 0, .slice none 0 0], []⟩ 8 (by kernel_rfl) (by kernel_rfl) (by kernel_rfl) (by kernel_rfl)) ?_
  intro W base args ds gs before hval0 hW _ _
  have hval : ∀ (j : Nat) t v, Try.f4.params[j]? = some t → args[j]? = some v → Value.okWide Try.prog W .any base t v := hval0
  have hW' := hW
  obtain ⟨p, q, hA0, hV, rfl, _, _⟩ := hW
  have hA : DataW.TrodAll enc Try.prog W 0 (fun _ => true) true Try.f4.params.toList args.toList ds p := hA0
  rw [Try.params4] at hA hval
  obtain ⟨v0, v1, d0, d1, p0, p1, rfl, rfl, rfl, h0, h1⟩ := trodAll_two hA
  obtain ⟨rfl, rfl⟩ := trodVars_none hV
  obtain ⟨a0, len, cap, rfl⟩ := okWide_slice Try.underlying30 (hval 0 30 v0 rfl rfl)
  obtain ⟨b0, len1, cap1, rfl⟩ := okWide_slice Try.underlying30 (hval 1 30 v1 rfl rfl)
  have h0k := h0
  have h1k := h1
  obtain ⟨fuel, hf⟩ := h0
  obtain ⟨fuel1, hf1⟩ := h1
  clear hA0 hval0
  simp only [List.append_nil] at hW'
  have hlt0 : ∀ x ∈ p0, x.block < W.heap.size := fun x hx => hW'.lt x (by simp [hx])
  have hlt1 : ∀ x ∈ p1, x.block < W.heap.size := fun x hx => hW'.lt x (by simp [hx])
  obtain ⟨A, ba, oa, hCA, hca⟩ := came hf
  obtain ⟨B, bb, ob, hCB, hcb⟩ := came hf1
  refine (law_any a0 b0 len len1 cap cap1 ba oa bb ob A B W hCA hCB hca hcb).mono fun e W' ⟨he, hb⟩ => ?_
  subst he
  have harg0 : DataW.Trod enc Try.prog W' 0 (fun b => decide (b < W.heap.size)) true 30 (.slice a0 len cap) d0 p0 :=
    Below.trod dis_laidOut (by kernel_rfl) (of_decide_eq_true (by kernel_rfl)) h0k hb hlt0
  have harg1 : DataW.Trod enc Try.prog W' 0 (fun b => decide (b < W.heap.size)) true 30 (.slice b0 len1 cap1) d1 p1 :=
    Below.trod dis_laidOut (by kernel_rfl) (of_decide_eq_true (by kernel_rfl)) h1k hb hlt1
  refine ⟨_, rfl, _, _, _, [], p0 ++ p1, [], hW', ?_, ?_, rfl, hb.frame _, fun h => by cases h⟩
  · exact trodAll_mk1 (shut_bool Try.underlying4 true)
  · exact trodAll_mk2 harg0 harg1

theorem dis_proved : Rows.FnDisjunctionKindsOfJoinedMembersSaid :=
  OpenClaim.holds_of_wide 4 Try.f4 rfl rfl rfl rfl rfl rfl rfl ⟨rfl, rfl, rfl, rfl, rfl⟩ rfl rfl rfl rfl rfl (by kernel_rfl) Try.func4 (by kernel_rfl)
    (of_decide_eq_true (by kernel_rfl)) (by unfold Func.isWrapper; first | (rw [if_pos (by decide +kernel)]; kernel_rfl) | (rw [if_neg (by decide +kernel)]; exact ⟨rfl, rfl⟩))
    (fun os started H enc _ => dis_lifted os started H enc)

end Go.Proofs.Qxb6609229a
