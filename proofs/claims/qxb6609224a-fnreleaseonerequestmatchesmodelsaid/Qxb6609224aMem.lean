/-
  THE STATE: a record (block R), its one path (block P), its map (block M), the rows of blocks, stops and leaves.
-/
import Derived.Test.Qxb6609224aRows
import Derived.WalkKit
import Derived.WalkSpells
import Derived.WalkLawsBesides
import Derived.Deep.OwnRows
import Derived.Deep.AppendLies
import Derived.Deep.RegionLaw
import Derived.Lib.SmallJoins
import Derived.Lib.JoinLaws
import Derived.Lib.OwnKind
import Derived.OneCell
import Derived.Maps.OwnSet
import Derived.Laws.CopyOwn
namespace Go.Proofs.Qxb6609224a
open Go.RowKit Go.Maps

/-! ### the cells of a row of blocks -/
def flat (bl : List (Int × Int × Int)) : List Value := bl.flatMap fun b => [.int .i64 b.1, .int .i64 b.2.1, .int .u64 b.2.2, .int .i64 0]
theorem flat_cons (b : Int × Int × Int) (bl) : flat (b :: bl) = .int .i64 b.1 :: .int .i64 b.2.1 :: .int .u64 b.2.2 :: .int .i64 0 :: flat bl := rfl
theorem flat_append (a b) : flat (a ++ b) = flat a ++ flat b := List.flatMap_append
theorem flat_length : ∀ bl, (flat bl).length = bl.length * 4
  | [] => rfl
  | b :: bl => by rw [flat_cons]; simp only [List.length_cons, flat_length bl]; omega
theorem flat_get : ∀ (bl : List (Int × Int × Int)) (j : Nat) (b : Int × Int × Int), bl[j]? = some b →
    (flat bl)[j * 4]? = some (.int .i64 b.1) ∧ (flat bl)[j * 4 + 1]? = some (.int .i64 b.2.1) ∧ (flat bl)[j * 4 + 2]? = some (.int .u64 b.2.2) ∧ (flat bl)[j * 4 + 3]? = some (.int .i64 0)
  | [], j, b, h => by simp at h
  | x :: bl, 0, b, h => by simp at h; subst h; simp [flat_cons]
  | x :: bl, j + 1, b, h => by
    have ih := flat_get bl j b (by simpa using h)
    rw [flat_cons, show (j + 1) * 4 = j * 4 + 1 + 1 + 1 + 1 from by omega]
    simpa using ih
theorem flat_take : ∀ (bl : List (Int × Int × Int)) (m : Nat), flat (bl.take m) = (flat bl).take (m * 4)
  | [], m => by simp [flat]
  | x :: bl, 0 => by simp [flat]
  | x :: bl, m + 1 => by
    rw [List.take_succ_cons, flat_cons, flat_cons, show (m + 1) * 4 = m * 4 + 1 + 1 + 1 + 1 from by omega, flat_take bl m]
    simp
theorem flat_set : ∀ (bl : List (Int × Int × Int)) (j : Nat) (b : Int × Int × Int) (u : Int), bl[j]? = some b → flat (bl.set j (b.1, b.2.1, u)) = (flat bl).set (j * 4 + 2) (.int .u64 u)
  | [], j, b, u, h => by simp at h
  | x :: bl, 0, b, u, h => by simp at h; subst h; simp [flat_cons]
  | x :: bl, j + 1, b, u, h => by
    have ih := flat_set bl j b u (by simpa using h)
    rw [List.set_cons_succ, flat_cons, flat_cons, ih, show (j + 1) * 4 + 2 = j * 4 + 2 + 1 + 1 + 1 + 1 from by omega]
    simp

/-! ### the map's elements -/
def placeElem : Value → Option (DataW Unit × List MemPlace)
  | .agg cs => match cs.toList with
    | [.pointer _, .int .i64 _] => some (.agg [], [])
    | _ => none
  | _ => none
theorem placeElem_mk (p : Option Addr) (i : Int) : placeElem (.agg #[.pointer p, .int .i64 i]) = some (.agg [], []) := rfl
theorem placeElem_inv {v : Value} {z : DataW Unit × List MemPlace} (h : placeElem v = some z) : ∃ p i, v = .agg #[.pointer p, .int .i64 i] := by
  unfold placeElem at h
  split at h
  · rename_i cs
    split at h
    · rename_i p i hcs
      exact ⟨p, i, by rw [← hcs]⟩
    · cases h
  · cases h

/-! ### the state -/
structure StAt (Z : World) (B : Nat) (K : List (Nat × Array Value × TypeId)) (R M P : Nat) (c : Int) (w : World) (t e : Int) (sp : Nat) (lf : Int) (nl : Nat) (lv : List Value)
    (bl : List (Int × Int × Int)) (ss : List Int) (D : DataW Unit) (nm : Nat) (vb vs vl vsp : Value) : Prop where
  hr : w.heap[R]? = some (.cells #[.int .i64 c, .int .i64 t, .map (some M), vl, .int .u64 e, vsp] 81 (0, 0))
  hp : w.heap[P]? = some (.cells #[.pointer none, .int .i64 0, vb, vs, .int .i64 lf] 84 (0, 0))
  ob : w.ownsRow B 86 4 vb bl.length (flat bl)
  os : w.ownsRow B 3 1 vs ss.length (ss.map (Value.int .i64))
  ol : w.ownsRow B 29 1 vl nl lv
  om : w.ownsMap Try.prog 2 placeElem M nm D
  spare : ∃ a cap, vsp = .slice a sp cap ∧ (sp = 0 → a = none ∧ cap = 0)
  below : Below B Z w
  base : B ≤ R ∧ B ≤ P ∧ B ≤ M
  kept : ∀ X cur ty, (X, cur, ty) ∈ K → (w.heap[X]? = some (.cells cur ty (0, 0)) ∧ vs.ownBlock ≠ some X) ∧ (ty = 3 ∨ ty = 88)

theorem label_ne {w : World} {a b : Nat} {x y : Array Value} {t u : TypeId} {f g : Nat × Nat} (ha : w.heap[a]? = some (.cells x t f)) (hb : w.heap[b]? = some (.cells y u g)) (h : t ≠ u) : a ≠ b := by
  intro e; subst e; rw [ha] at hb; cases hb; exact h rfl
theorem map_ne {w : World} {a b : Nat} {x : Array Value} {t : TypeId} {f : Nat × Nat} {n : Nat} {D : DataW Unit} {Rd} (ha : w.heap[a]? = some (.cells x t f)) (hb : w.ownsMap Try.prog 2 Rd b n D) : a ≠ b := by
  obtain ⟨es, clock, hb, _⟩ := hb
  intro e; subst e; rw [ha] at hb; cases hb
theorem own_label {w : World} {B : Nat} {e : TypeId} {k : Nat} {v : Value} {n : Nat} {xs : List Value} (h : w.ownsRow B e k v n xs) {b : Nat} {x : Array Value} {t : TypeId} {f : Nat × Nat} (hb : w.heap[b]? = some (.cells x t f)) (hne : e ≠ t) : v.ownBlock ≠ some b := by
  intro hv
  obtain ⟨c, fz, hc⟩ := Go.Lib.ownsRow_kind h b hv
  exact label_ne hc hb hne rfl
theorem own_own {w : World} {B : Nat} {e e' : TypeId} {k k' : Nat} {v v' : Value} {n n' : Nat} {xs xs' : List Value} (h : w.ownsRow B e k v n xs) (h' : w.ownsRow B e' k' v' n' xs') (hne : e ≠ e') : v.ownBlock = none ∨ v.ownBlock ≠ v'.ownBlock := by
  cases hv : v.ownBlock with
  | none => exact Or.inl rfl
  | some g =>
    right
    intro hv'
    obtain ⟨c, fz, hc⟩ := Go.Lib.ownsRow_kind h g hv
    obtain ⟨c', fz', hc'⟩ := Go.Lib.ownsRow_kind h' g hv'.symm
    exact label_ne hc hc' hne rfl
theorem own_map {w : World} {B : Nat} {e : TypeId} {k : Nat} {v : Value} {n m : Nat} {xs : List Value} {b : Nat} {D : DataW Unit} {Rd} (h : w.ownsRow B e k v n xs) (hb : w.ownsMap Try.prog 2 Rd b m D) : v.ownBlock ≠ some b := by
  intro hv
  obtain ⟨c, fz, hc⟩ := Go.Lib.ownsRow_kind h b hv
  exact map_ne hc hb rfl
theorem own_base {w : World} {B : Nat} {e : TypeId} {k : Nat} {v : Value} {n : Nat} {xs : List Value} (h : w.ownsRow B e k v n xs) : ∀ r, v.ownBlock = some r → B ≤ r := fun r hr => (h.lt r hr).1
theorem blk_kept {w w1 : World} {row : Option Nat} {b : Nat} {o : Obj} (hg : w.grownBy w1 row) (hb : w.heap[b]? = some o) (hne : row ≠ some b) : w1.heap[b]? = some o :=
  (hg.block b (Array.getElem?_eq_some_iff.1 hb).1 (Ne.symm hne)).trans hb
theorem grown_setCell (w : World) (b i : Nat) (u : Value) : w.grownBy (w.setCell ⟨b, i, none⟩ u) (some b) :=
  ⟨rfl, rfl, rfl, by simp [World.setCell], fun k _ hk => Below.heap_setCell _ _ _ _ (fun e => hk (by rw [e]))⟩
theorem grown_refl (w : World) (row : Option Nat) : w.grownBy w row := ⟨rfl, rfl, rfl, Nat.le_refl _, fun _ _ _ => rfl⟩
theorem grown_none {w w' : World} (h : Below w.heap.size w w') (row : Option Nat) : w.grownBy w' row := ⟨h.os, h.tape, h.output, h.size, fun k hk _ => h.block k hk⟩

section
variable {Z : World} {B : Nat} {K : List (Nat × Array Value × TypeId)} {R M P : Nat} {c : Int} {w w1 : World} {t e : Int} {sp : Nat} {lf : Int} {nl : Nat} {lv : List Value} {bl : List (Int × Int × Int)} {ss : List Int} {D : DataW Unit} {nm : Nat} {vb vs vl vsp : Value}

theorem StAt.size (h : StAt Z B K R M P c w t e sp lf nl lv bl ss D nm vb vs vl vsp) : B ≤ w.heap.size := by
  have := (Array.getElem?_eq_some_iff.1 h.hr).1
  have := h.base.1
  omega
theorem StAt.ltR (h : StAt Z B K R M P c w t e sp lf nl lv bl ss D nm vb vs vl vsp) : R < w.heap.size := (Array.getElem?_eq_some_iff.1 h.hr).1
theorem StAt.ltP (h : StAt Z B K R M P c w t e sp lf nl lv bl ss D nm vb vs vl vsp) : P < w.heap.size := (Array.getElem?_eq_some_iff.1 h.hp).1
theorem StAt.RP (h : StAt Z B K R M P c w t e sp lf nl lv bl ss D nm vb vs vl vsp) : R ≠ P := label_ne h.hr h.hp (by decide)

/-- New blocks, draws: nothing of the state turns. -/
theorem StAt.later (h : StAt Z B K R M P c w t e sp lf nl lv bl ss D nm vb vs vl vsp) (hb : Below w.heap.size w w1) : StAt Z B K R M P c w1 t e sp lf nl lv bl ss D nm vb vs vl vsp where
  hr := blk_kept (grown_none hb none) h.hr (by simp)
  hp := blk_kept (grown_none hb none) h.hp (by simp)
  ob := h.ob.kept (grown_none hb none) (by cases vb.ownBlock <;> simp)
  os := h.os.kept (grown_none hb none) (by cases vs.ownBlock <;> simp)
  ol := h.ol.kept (grown_none hb none) (by cases vl.ownBlock <;> simp)
  om := h.om.kept (grown_none hb none) (by simp)
  spare := h.spare
  below := h.below.trans (hb.mono h.size)
  base := h.base
  kept := fun X cur ty hK => ⟨⟨blk_kept (grown_none hb none) (h.kept X cur ty hK).1.1 (by simp), (h.kept X cur ty hK).1.2⟩, (h.kept X cur ty hK).2⟩

/-- The row of blocks is written or grows; the path is handed the new slice. -/
theorem StAt.newB {vb' : Value} {bl' : List (Int × Int × Int)} (h : StAt Z B K R M P c w t e sp lf nl lv bl ss D nm vb vs vl vsp) (hg : w.grownBy w1 vb.ownBlock) (ho : w1.ownsRow B 86 4 vb' bl'.length (flat bl')) :
    StAt Z B K R M P c (w1.setCell ⟨P, 2, none⟩ vb') t e sp lf nl lv bl' ss D nm vb' vs vl vsp := by
  have hR := own_label h.ob h.hr (by decide)
  have hP := own_label h.ob h.hp (by decide)
  have hp1 := blk_kept hg h.hp hP
  have hr1 := blk_kept hg h.hr hR
  have os1 := h.os.kept hg (own_own h.os h.ob (by decide))
  have ol1 := h.ol.kept hg (own_own h.ol h.ob (by decide))
  have om1 := h.om.kept hg (Ne.symm (own_map h.ob h.om))
  have g2 := grown_setCell w1 P 2 vb'
  refine ⟨blk_kept g2 hr1 (by simp; exact fun e => h.RP e.symm), ?_, ho.kept g2 (Or.inr (own_label ho hp1 (by decide))), os1.kept g2 (Or.inr (own_label os1 hp1 (by decide))), ol1.kept g2 (Or.inr (own_label ol1 hp1 (by decide))), om1.kept g2 (by simp; exact fun e => map_ne hp1 om1 e.symm), h.spare, ?_, h.base, ?_⟩
  · rw [heap_setCell_same w1 P 2 _ 84 vb' hp1]; rfl
  · exact (Below.grown h.below hg h.size (own_base h.ob)).setCell h.base.2.1 _
  · intro X cur ty hK
    obtain ⟨⟨k1, k2⟩, k0⟩ := h.kept X cur ty hK
    have k3 := blk_kept hg k1 (own_label h.ob k1 (by rcases k0 with rfl | rfl <;> decide))
    exact ⟨⟨blk_kept g2 k3 (by simp; exact label_ne hp1 k3 (by rcases k0 with rfl | rfl <;> decide)), k2⟩, k0⟩
theorem StAt.newS {vs' : Value} {ss' : List Int} (h : StAt Z B K R M P c w t e sp lf nl lv bl ss D nm vb vs vl vsp) (hg : w.grownBy w1 vs.ownBlock) (ho : w1.ownsRow B 3 1 vs' ss'.length (ss'.map (Value.int .i64))) (hX : vs'.ownBlock = vs.ownBlock ∨ vs'.ownBlock = none ∨ ∃ g, vs'.ownBlock = some g ∧ w.heap.size ≤ g) :
    StAt Z B K R M P c (w1.setCell ⟨P, 3, none⟩ vs') t e sp lf nl lv bl ss' D nm vb vs' vl vsp := by
  have hR := own_label h.os h.hr (by decide)
  have hP := own_label h.os h.hp (by decide)
  have hp1 := blk_kept hg h.hp hP
  have hr1 := blk_kept hg h.hr hR
  have ob1 := h.ob.kept hg (own_own h.ob h.os (by decide))
  have ol1 := h.ol.kept hg (own_own h.ol h.os (by decide))
  have om1 := h.om.kept hg (Ne.symm (own_map h.os h.om))
  have g2 := grown_setCell w1 P 3 vs'
  refine ⟨blk_kept g2 hr1 (by simp; exact fun e => h.RP e.symm), ?_, ob1.kept g2 (Or.inr (own_label ob1 hp1 (by decide))), ho.kept g2 (Or.inr (own_label ho hp1 (by decide))), ol1.kept g2 (Or.inr (own_label ol1 hp1 (by decide))), om1.kept g2 (by simp; exact fun e => map_ne hp1 om1 e.symm), h.spare, ?_, h.base, ?_⟩
  · rw [heap_setCell_same w1 P 3 _ 84 vs' hp1]; rfl
  · exact (Below.grown h.below hg h.size (own_base h.os)).setCell h.base.2.1 _
  · intro X cur ty hK
    obtain ⟨⟨k1, k2⟩, k0⟩ := h.kept X cur ty hK
    have k3 := blk_kept hg k1 k2
    refine ⟨⟨blk_kept g2 k3 (by simp; exact label_ne hp1 k3 (by rcases k0 with rfl | rfl <;> decide)), ?_⟩, k0⟩
    rcases hX with e | e | ⟨g, e, hge⟩
    · rw [e]; exact k2
    · rw [e]; simp
    · rw [e]
      have := (Array.getElem?_eq_some_iff.1 k1).1
      simp; omega
theorem StAt.newL {vl' : Value} {nl' : Nat} {lv' : List Value} (h : StAt Z B K R M P c w t e sp lf nl lv bl ss D nm vb vs vl vsp) (hg : w.grownBy w1 vl.ownBlock) (ho : w1.ownsRow B 29 1 vl' nl' lv') :
    StAt Z B K R M P c (w1.setCell ⟨R, 3, none⟩ vl') t e sp lf nl' lv' bl ss D nm vb vs vl' vsp := by
  have hR := own_label h.ol h.hr (by decide)
  have hP := own_label h.ol h.hp (by decide)
  have hp1 := blk_kept hg h.hp hP
  have hr1 := blk_kept hg h.hr hR
  have ob1 := h.ob.kept hg (own_own h.ob h.ol (by decide))
  have os1 := h.os.kept hg (own_own h.os h.ol (by decide))
  have om1 := h.om.kept hg (Ne.symm (own_map h.ol h.om))
  have g2 := grown_setCell w1 R 3 vl'
  refine ⟨?_, blk_kept g2 hp1 (by simp; exact h.RP), ob1.kept g2 (Or.inr (own_label ob1 hr1 (by decide))), os1.kept g2 (Or.inr (own_label os1 hr1 (by decide))), ho.kept g2 (Or.inr (own_label ho hr1 (by decide))), om1.kept g2 (by simp; exact fun e => map_ne hr1 om1 e.symm), h.spare, ?_, h.base, ?_⟩
  · rw [heap_setCell_same w1 R 3 _ 81 vl' hr1]; rfl
  · exact (Below.grown h.below hg h.size (own_base h.ol)).setCell h.base.1 _
  · intro X cur ty hK
    obtain ⟨⟨k1, k2⟩, k0⟩ := h.kept X cur ty hK
    have k3 := blk_kept hg k1 (own_label h.ol k1 (by rcases k0 with rfl | rfl <;> decide))
    exact ⟨⟨blk_kept g2 k3 (by simp; exact label_ne hr1 k3 (by rcases k0 with rfl | rfl <;> decide)), k2⟩, k0⟩
/-- A row is written without the path or the record being told. -/
theorem StAt.turnB {bl' : List (Int × Int × Int)} (h : StAt Z B K R M P c w t e sp lf nl lv bl ss D nm vb vs vl vsp) (hg : w.grownBy w1 vb.ownBlock) (ho : w1.ownsRow B 86 4 vb bl'.length (flat bl')) :
    StAt Z B K R M P c w1 t e sp lf nl lv bl' ss D nm vb vs vl vsp where
  hr := blk_kept hg h.hr (own_label h.ob h.hr (by decide))
  hp := blk_kept hg h.hp (own_label h.ob h.hp (by decide))
  ob := ho
  os := h.os.kept hg (own_own h.os h.ob (by decide))
  ol := h.ol.kept hg (own_own h.ol h.ob (by decide))
  om := h.om.kept hg (Ne.symm (own_map h.ob h.om))
  spare := h.spare
  below := Below.grown h.below hg h.size (own_base h.ob)
  base := h.base
  kept := fun X cur ty hK => ⟨⟨blk_kept hg (h.kept X cur ty hK).1.1 (own_label h.ob (h.kept X cur ty hK).1.1 (by rcases (h.kept X cur ty hK).2 with rfl | rfl <;> decide)), (h.kept X cur ty hK).1.2⟩, (h.kept X cur ty hK).2⟩
theorem StAt.turnL {lv' : List Value} (h : StAt Z B K R M P c w t e sp lf nl lv bl ss D nm vb vs vl vsp) (hg : w.grownBy w1 vl.ownBlock) (ho : w1.ownsRow B 29 1 vl nl lv') :
    StAt Z B K R M P c w1 t e sp lf nl lv' bl ss D nm vb vs vl vsp where
  hr := blk_kept hg h.hr (own_label h.ol h.hr (by decide))
  hp := blk_kept hg h.hp (own_label h.ol h.hp (by decide))
  ob := h.ob.kept hg (own_own h.ob h.ol (by decide))
  os := h.os.kept hg (own_own h.os h.ol (by decide))
  ol := ho
  om := h.om.kept hg (Ne.symm (own_map h.ol h.om))
  spare := h.spare
  below := Below.grown h.below hg h.size (own_base h.ol)
  base := h.base
  kept := fun X cur ty hK => ⟨⟨blk_kept hg (h.kept X cur ty hK).1.1 (own_label h.ol (h.kept X cur ty hK).1.1 (by rcases (h.kept X cur ty hK).2 with rfl | rfl <;> decide)), (h.kept X cur ty hK).1.2⟩, (h.kept X cur ty hK).2⟩
theorem StAt.turnM {D' : DataW Unit} {nm' : Nat} (h : StAt Z B K R M P c w t e sp lf nl lv bl ss D nm vb vs vl vsp) (hg : w.grownBy w1 (some M)) (ho : w1.ownsMap Try.prog 2 placeElem M nm' D') :
    StAt Z B K R M P c w1 t e sp lf nl lv bl ss D' nm' vb vs vl vsp where
  hr := blk_kept hg h.hr (by simp; exact fun e => map_ne h.hr h.om e.symm)
  hp := blk_kept hg h.hp (by simp; exact fun e => map_ne h.hp h.om e.symm)
  ob := h.ob.kept hg (Or.inr (own_map h.ob h.om))
  os := h.os.kept hg (Or.inr (own_map h.os h.om))
  ol := h.ol.kept hg (Or.inr (own_map h.ol h.om))
  om := ho
  spare := h.spare
  below := Below.grown h.below hg h.size (fun k hk => by cases hk; exact h.base.2.2)
  base := h.base
  kept := fun X cur ty hK => ⟨⟨blk_kept hg (h.kept X cur ty hK).1.1 (by simp; exact fun e => map_ne (h.kept X cur ty hK).1.1 h.om e.symm), (h.kept X cur ty hK).1.2⟩, (h.kept X cur ty hK).2⟩
/-- One cell of the path or of the record. -/
theorem StAt.setP {i : Nat} {u : Value} (h : StAt Z B K R M P c w t e sp lf nl lv bl ss D nm vb vs vl vsp) (lf' : Int) (hi : i = 4) (hu : u = .int .i64 lf') :
    StAt Z B K R M P c (w.setCell ⟨P, i, none⟩ u) t e sp lf' nl lv bl ss D nm vb vs vl vsp := by
  subst hi; subst hu
  have g2 := grown_setCell w P 4 (.int .i64 lf')
  refine ⟨blk_kept g2 h.hr (by simp; exact fun e => h.RP e.symm), ?_, h.ob.kept g2 (Or.inr (own_label h.ob h.hp (by decide))), h.os.kept g2 (Or.inr (own_label h.os h.hp (by decide))), h.ol.kept g2 (Or.inr (own_label h.ol h.hp (by decide))), h.om.kept g2 (by simp; exact fun e => map_ne h.hp h.om e.symm), h.spare, h.below.setCell h.base.2.1 _, h.base, ?_⟩
  · rw [heap_setCell_same w P 4 _ 84 _ h.hp]; rfl
  · intro X cur ty hK
    obtain ⟨⟨k1, k2⟩, k0⟩ := h.kept X cur ty hK
    exact ⟨⟨blk_kept g2 k1 (by simp; exact label_ne h.hp k1 (by rcases k0 with rfl | rfl <;> decide)), k2⟩, k0⟩
theorem StAt.setR {i : Nat} {u : Value} {t' e' : Int} {sp' : Nat} {vsp' : Value} (h : StAt Z B K R M P c w t e sp lf nl lv bl ss D nm vb vs vl vsp) (hs : ∃ a cap, vsp' = .slice a sp' cap ∧ (sp' = 0 → a = none ∧ cap = 0))
    (hi : (#[.int .i64 c, .int .i64 t, .map (some M), vl, .int .u64 e, vsp] : Array Value).setIfInBounds i u = #[.int .i64 c, .int .i64 t', .map (some M), vl, .int .u64 e', vsp']) :
    StAt Z B K R M P c (w.setCell ⟨R, i, none⟩ u) t' e' sp' lf nl lv bl ss D nm vb vs vl vsp' := by
  have g2 := grown_setCell w R i u
  refine ⟨?_, blk_kept g2 h.hp (by simp; exact h.RP), h.ob.kept g2 (Or.inr (own_label h.ob h.hr (by decide))), h.os.kept g2 (Or.inr (own_label h.os h.hr (by decide))), h.ol.kept g2 (Or.inr (own_label h.ol h.hr (by decide))), h.om.kept g2 (by simp; exact fun e => map_ne h.hr h.om e.symm), hs, h.below.setCell h.base.1 _, h.base, ?_⟩
  · rw [heap_setCell_same w R i _ 81 u h.hr, hi]
  · intro X cur ty hK
    obtain ⟨⟨k1, k2⟩, k0⟩ := h.kept X cur ty hK
    exact ⟨⟨blk_kept g2 k1 (by simp; exact label_ne h.hr k1 (by rcases k0 with rfl | rfl <;> decide)), k2⟩, k0⟩

/-- One more block is kept; one is let go. -/
theorem StAt.keep (h : StAt Z B K R M P c w t e sp lf nl lv bl ss D nm vb vs vl vsp) (X : Nat) (cur : Array Value) (ty : TypeId) (hX : w.heap[X]? = some (.cells cur ty (0, 0))) (hne : vs.ownBlock ≠ some X) (hty : ty = 3 ∨ ty = 88) :
    StAt Z B ((X, cur, ty) :: K) R M P c w t e sp lf nl lv bl ss D nm vb vs vl vsp := by
  refine ⟨h.hr, h.hp, h.ob, h.os, h.ol, h.om, h.spare, h.below, h.base, fun X' cur' ty' hK => ?_⟩
  rcases List.mem_cons.1 hK with e | hK
  · cases e; exact ⟨⟨hX, hne⟩, hty⟩
  · exact h.kept X' cur' ty' hK
theorem StAt.forget {x : Nat × Array Value × TypeId} (h : StAt Z B (x :: K) R M P c w t e sp lf nl lv bl ss D nm vb vs vl vsp) : StAt Z B K R M P c w t e sp lf nl lv bl ss D nm vb vs vl vsp :=
  ⟨h.hr, h.hp, h.ob, h.os, h.ol, h.om, h.spare, h.below, h.base, fun X' cur' ty' hK => h.kept X' cur' ty' (List.mem_cons_of_mem _ hK)⟩

/-! ### the cells, for the walk -/
theorem StAt.r0 (h : StAt Z B K R M P c w t e sp lf nl lv bl ss D nm vb vs vl vsp) : w.cell? ⟨R, 0, none⟩ = some (.int .i64 c) := by rw [cell_of_row w R 0 _ 81 (0, 0) h.hr]; rfl
theorem StAt.r1 (h : StAt Z B K R M P c w t e sp lf nl lv bl ss D nm vb vs vl vsp) : w.cell? ⟨R, 1, none⟩ = some (.int .i64 t) := by rw [cell_of_row w R 1 _ 81 (0, 0) h.hr]; rfl
theorem StAt.r2 (h : StAt Z B K R M P c w t e sp lf nl lv bl ss D nm vb vs vl vsp) : w.cell? ⟨R, 2, none⟩ = some (.map (some M)) := by rw [cell_of_row w R 2 _ 81 (0, 0) h.hr]; rfl
theorem StAt.r3 (h : StAt Z B K R M P c w t e sp lf nl lv bl ss D nm vb vs vl vsp) : w.cell? ⟨R, 3, none⟩ = some vl := by rw [cell_of_row w R 3 _ 81 (0, 0) h.hr]; rfl
theorem StAt.r4 (h : StAt Z B K R M P c w t e sp lf nl lv bl ss D nm vb vs vl vsp) : w.cell? ⟨R, 4, none⟩ = some (.int .u64 e) := by rw [cell_of_row w R 4 _ 81 (0, 0) h.hr]; rfl
theorem StAt.r5 (h : StAt Z B K R M P c w t e sp lf nl lv bl ss D nm vb vs vl vsp) : w.cell? ⟨R, 5, none⟩ = some vsp := by rw [cell_of_row w R 5 _ 81 (0, 0) h.hr]; rfl
theorem StAt.p0 (h : StAt Z B K R M P c w t e sp lf nl lv bl ss D nm vb vs vl vsp) : w.cell? ⟨P, 0, none⟩ = some (.pointer none) := by rw [cell_of_row w P 0 _ 84 (0, 0) h.hp]; rfl
theorem StAt.p1 (h : StAt Z B K R M P c w t e sp lf nl lv bl ss D nm vb vs vl vsp) : w.cell? ⟨P, 1, none⟩ = some (.int .i64 0) := by rw [cell_of_row w P 1 _ 84 (0, 0) h.hp]; rfl
theorem StAt.p2 (h : StAt Z B K R M P c w t e sp lf nl lv bl ss D nm vb vs vl vsp) : w.cell? ⟨P, 2, none⟩ = some vb := by rw [cell_of_row w P 2 _ 84 (0, 0) h.hp]; rfl
theorem StAt.p3 (h : StAt Z B K R M P c w t e sp lf nl lv bl ss D nm vb vs vl vsp) : w.cell? ⟨P, 3, none⟩ = some vs := by rw [cell_of_row w P 3 _ 84 (0, 0) h.hp]; rfl
theorem StAt.p4 (h : StAt Z B K R M P c w t e sp lf nl lv bl ss D nm vb vs vl vsp) : w.cell? ⟨P, 4, none⟩ = some (.int .i64 lf) := by rw [cell_of_row w P 4 _ 84 (0, 0) h.hp]; rfl
theorem StAt.fR (h : StAt Z B K R M P c w t e sp lf nl lv bl ss D nm vb vs vl vsp) (i : Nat) : w.frozen? ⟨R, i, none⟩ = false := frozen_of_row w R i _ 81 h.hr
theorem StAt.fP (h : StAt Z B K R M P c w t e sp lf nl lv bl ss D nm vb vs vl vsp) (i : Nat) : w.frozen? ⟨P, i, none⟩ = false := frozen_of_row w P i _ 84 h.hp
theorem StAt.len_b (h : StAt Z B K R M P c w t e sp lf nl lv bl ss D nm vb vs vl vsp) : ∃ a cap, vb = .slice a bl.length cap := by
  rcases h.ob.2 with ⟨e, h0⟩ | ⟨g, cap, cur, e, _⟩
  · exact ⟨none, 0, by rw [e, h0]⟩
  · exact ⟨_, cap, e⟩
end

end Go.Proofs.Qxb6609224a
