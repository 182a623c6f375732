import Derived.WalkKit
import Derived.Below
import Derived.Laws.IdiomCopy
import Derived.Deep.OwnRows
namespace Go.Proofs.Qxb6613208a.Ld
open Go.RowKit

theorem below_setCells (B b : Nat) (hB : B ≤ b) (a : World) : ∀ (vs : List Value) (o : Nat) (w : World), Below B a w → Below B a (w.setCells b o vs)
  | [], _, _, h => h
  | v :: r, o, _, h => below_setCells B b hB a r (o + 1) _ (h.setCell (p := ⟨b, o, none⟩) hB v)

theorem size_setCells (b : Nat) : ∀ (vs : List Value) (o : Nat) (w : World), (w.setCells b o vs).heap.size = w.heap.size
  | [], _, _ => rfl
  | v :: r, o, w => by rw [World.setCells, size_setCells b r]; simp

/-- 'zzc := make([]T, len(x)); copy(zzc, x)': what the copy leaves, in one new block. -/
theorem copy_new {P : Program} (T E : TypeId) (hu : P.underlying T = some (.slice E)) (hs : (P.info? E).map (·.size) = some 1) (z : Value) (w : World) (a : Option Addr) (n c : Nat) (vs : List Value)
    (hl : vs.length = n) (h1 : ∀ v ∈ vs, v.oneCell' = true) (hc : ∀ j v, vs[j]? = some v → ∃ b off, a = some ⟨b, off, none⟩ ∧ w.cell? ⟨b, off + j, none⟩ = some v ∧ b < w.heap.size) :
    ∃ W1, (∀ ty, (Builtin.copy_ #[T, T] ty #[.slice (some ⟨w.heap.size, 0, none⟩) n n, .slice a n c]).run P (w.alloc (.cells (madeCells #[z] n) E)) = .ok (.int .i64 n) W1) ∧
      (∀ j v, vs[j]? = some v → W1.cell? ⟨w.heap.size, j, none⟩ = some v) ∧ (∀ j, W1.frozen? ⟨w.heap.size, j, none⟩ = false) ∧ Below w.heap.size w W1 ∧ W1.heap.size = w.heap.size + 1 := by
  have hb0 : Below w.heap.size w (w.alloc (.cells (madeCells #[z] n) E)) := (Below.refl _ _).alloc (Nat.le_refl _) _
  have hfr : ∀ j, (w.alloc (.cells (madeCells #[z] n) E)).frozen? ⟨w.heap.size, j, none⟩ = false := fun j => World.frozen?_alloc_new w _ _ j
  by_cases hn : n = 0
  · subst hn
    have hv : vs = [] := List.eq_nil_of_length_eq_zero hl
    subst hv
    refine ⟨_, fun ty => ?_, fun j v h => by simp at h, hfr, hb0, by simp⟩
    rw [run_copy_none _ T T ty E _ _ _ _ _ _ hu hs (by simp)]
    rfl
  · obtain ⟨v0, hv0⟩ : ∃ v, vs[0]? = some v := ⟨vs[0]'(by omega), List.getElem?_eq_getElem _⟩
    obtain ⟨b, off, rfl, _, hbl⟩ := hc 0 v0 hv0
    have hcell : ∀ j, j < vs.length → ((w.alloc (.cells (madeCells #[z] n) E)).cell? ⟨w.heap.size, 0 + j, none⟩).isSome = true := by
      intro j hj
      have := (World.rowIs_made w z n E).cell (i := j) (by omega)
      rw [Nat.zero_add, this]
      rfl
    refine ⟨(w.alloc (.cells (madeCells #[z] n) E)).setCells w.heap.size 0 vs, fun ty => ?_, ?_, ?_, below_setCells _ _ (Nat.le_refl _) _ _ _ _ hb0, by rw [size_setCells]; simp⟩
    · rw [run_copy_cells _ T T ty E w.heap.size 0 n n ⟨b, off, none⟩ n c vs hu hs (by rw [hl]; exact (Nat.min_self n).symm) ?_ hcell (fun j _ => hfr _) h1]
      · rw [hl]; rfl
      · intro j v hj
        obtain ⟨b', off', he, hcl, _⟩ := hc j v hj
        simp only [Option.some.injEq, Addr.mk.injEq, and_true] at he
        obtain ⟨rfl, rfl⟩ := he
        rw [WideShapes.add_plain, World.cell?_alloc_lt _ _ _ hbl]
        exact hcl
    · intro j v hj
      have hjl : j < vs.length := by
        rcases Nat.lt_or_ge j vs.length with h | h
        · exact h
        · rw [List.getElem?_eq_none h] at hj; cases hj
      have := World.cell?_setCells_in w.heap.size vs 0 _ hcell j hjl
      rw [Nat.zero_add] at this
      rw [this]
      rw [List.getElem?_eq_getElem hjl] at hj
      exact hj
    · intro j
      rw [World.frozen?_setCells]
      exact hfr j

end Go.Proofs.Qxb6613208a.Ld
