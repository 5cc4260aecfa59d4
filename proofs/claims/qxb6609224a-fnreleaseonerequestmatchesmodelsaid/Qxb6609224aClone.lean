/-
  slices.Clone at []recordedBlock (61).
-/
import Derived.Test.Qxb6609224aTok
namespace Go.Proofs.Qxb6609224a
open Go.RowKit Go.Maps

section
variable {Z : World} {B : Nat} {K : List (Nat × Array Value × TypeId)} {R M P : Nat} {c : Int} {w : World} {t e : Int} {sp : Nat} {lf : Int} {nl : Nat} {lv : List Value} {bl : List (Int × Int × Int)} {ss : List Int} {D : DataW Unit} {nm : Nat}

theorem own_le_base {w : World} {B B' : Nat} {e : TypeId} {k : Nat} {v : Value} {n : Nat} {xs : List Value} (h : w.ownsRow B e k v n xs) (hB : B' ≤ B) : w.ownsRow B' e k v n xs := by
  refine ⟨h.1, h.2.elim Or.inl ?_⟩
  rintro ⟨g, cap, cur, hv, hg, r⟩
  exact Or.inr ⟨g, cap, cur, hv, by omega, r⟩
theorem flat_one (bl : List (Int × Int × Int)) : ∀ u ∈ flat bl, u.oneCell' = true := by
  intro u hu
  unfold flat at hu
  obtain ⟨b, _, hb⟩ := List.mem_flatMap.1 hu
  simp at hb
  rcases hb with rfl | rfl | rfl | rfl <;> rfl

set_option maxRecDepth 100000 in
set_option maxHeartbeats 2000000 in
theorem clone61 (gb cap : Nat) (ho : w.ownsRow B 86 4 (.slice (some ⟨gb, 0, none⟩) bl.length cap) bl.length (flat bl)) (hB : B ≤ w.heap.size) (hl : bl.length ≤ 65536) :
    Calls Try.prog 61 #[.slice (some ⟨gb, 0, none⟩) bl.length cap] w fun x w' => ∃ v', x = .returned v' ∧ w'.ownsRow B 86 4 v' bl.length (flat bl) ∧ Below w.heap.size w w' := by
  have heq := Lib.run_eql_slice_nil (P := Try.prog) w 82 86 (some ⟨gb, 0, none⟩) bl.length cap 0 0 Try.underlying82
  obtain ⟨i0, hi, hz0, hz1, hz2⟩ := info_parts info86
  have hb0 := below_alloc w (.cells #[] 86)
  have ho0 : (w.alloc (.cells #[] 86)).ownsRow w.heap.size 86 4 (.slice (some ⟨w.heap.size, 0, none⟩) 0 0) 0 [] := World.ownsRow_made w #[] 0 (Nat.le_refl _) (by decide) rfl
  have hn0 : ∀ j u, (flat bl)[j]? = some u → (w.alloc (.cells #[] 86)).cell? ((⟨gb, 0, none⟩ : Addr).add j) = some u := (ho.alloc _).cells rfl
  go_enter Try.func61, Try.ntmps61
  go_wp2_with (first
    | (at_builtin; refine wpList_append_own _ rfl (.tmp 5) (.tmp 6) 82 rfl w.heap.size 86 i0 _ 4 32 Try.underlying82 hi hz0 hz1 hz2 rfl (by decide) _ 0 [] rfl ho0 ⟨gb, 0, none⟩ bl.length cap (flat bl) rfl (flat_length bl) hn0 (flat_one bl) (by unfold maxLen; omega) (by omega) (by simp) ?_; intro v' w4 hown4 hgrow4 hnil4))
  go_ret
  refine ⟨v', rfl, ?_, ?_⟩
  · rw [Nat.zero_add, List.nil_append] at hown4
    exact own_le_base hown4 hB
  · exact Below.grown hb0 hgrow4 (by simp) (fun k hk => by have := Option.some.inj hk; exact Nat.le_of_eq this)
end

end Go.Proofs.Qxb6609224a
