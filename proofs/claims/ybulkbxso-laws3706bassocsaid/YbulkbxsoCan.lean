/-
  eisen's Canonical: what its walk holds on to.
-/
import Derived.Test.YbulkbxsoEis4
namespace Go.Proofs.Ybulkbxso
open Go.RowKit
set_option linter.unusedVariables false

abbrev nil2 : Obj := .cells #[.pointer none, .pointer none] 24 (0, 0)
/-- The four own blocks of Canonical, and x. -/
def Cn (w W : World) (x1 x2 : Option Addr) (a b : Int) : Prop :=
  Below w.heap.size w W ∧ W.heap[w.heap.size]? = some (.cells #[] 29 (0, 0)) ∧ W.heap[w.heap.size + 1]? = some (.cells #[.pointer x1, .pointer x2] 24 (0, 0)) ∧ W.heap[w.heap.size + 2]? = some nil2 ∧ W.heap[w.heap.size + 3]? = some nil2 ∧ IntV W (.agg #[.pointer x1, .pointer x2]) a b
/-- The start. -/
abbrev W0 (w : World) (x1 x2 : Option Addr) : World := (((w.alloc (.cells #[] 29)).alloc (.cells #[.pointer x1, .pointer x2] 24)).alloc nil2).alloc nil2

variable {w W W' : World} {x1 x2 : Option Addr} {a b : Int}
theorem lt_of_heap {W : World} {k : Nat} {o : Obj} (h : W.heap[k]? = some o) : k < W.heap.size := by
  rcases Nat.lt_or_ge k W.heap.size with h1 | h1
  · exact h1
  · rw [Array.getElem?_eq_none h1] at h; cases h
theorem Cn.lt (h : Cn w W x1 x2 a b) : w.heap.size + 3 < W.heap.size := lt_of_heap h.2.2.2.2.1
theorem Cn.go (h : Cn w W x1 x2 a b) (hb : Below W.heap.size W W') : Cn w W' x1 x2 a b := by
  have := h.lt
  obtain ⟨h1, h2, h3, h4, h5, h6⟩ := h
  exact ⟨h1.trans (bel_less hb (by omega)), (hb.block _ (by omega)).trans h2, (hb.block _ (by omega)).trans h3, (hb.block _ (by omega)).trans h4, (hb.block _ (by omega)).trans h5, h6.below hb⟩
theorem Cn.start (h : IntV w (.agg #[.pointer x1, .pointer x2]) a b) : Cn w (W0 w x1 x2) x1 x2 a b := by
  have hb : Below w.heap.size w (W0 w x1 x2) := ((((Below.refl _ _).alloc (Nat.le_refl _) _).alloc (by simp) _).alloc (by simp; omega) _).alloc (by simp; omega) _
  have sz : ∀ (w : World) (o : Obj), (w.alloc o).heap.size = w.heap.size + 1 := fun w o => by simp
  have nw : ∀ (w : World) (o : Obj) (k : Nat), w.heap.size = k → (w.alloc o).heap[k]? = some o := fun w o k e => by subst e; exact heap_alloc_new w o
  have od : ∀ (w : World) (o o' : Obj) (k : Nat), k < w.heap.size → w.heap[k]? = some o' → (w.alloc o).heap[k]? = some o' := fun w o o' k h e => (heap_alloc_old w o h).trans e
  refine ⟨hb, ?_, ?_, ?_, ?_, h.below hb⟩
  · exact od _ _ _ _ (by rw [sz, sz, sz]; omega) (od _ _ _ _ (by rw [sz, sz]; omega) (od _ _ _ _ (by rw [sz]; omega) (nw _ _ _ rfl)))
  · exact od _ _ _ _ (by rw [sz, sz, sz]; omega) (od _ _ _ _ (by rw [sz, sz]; omega) (nw _ _ _ (by rw [sz])))
  · exact od _ _ _ _ (by rw [sz, sz, sz]; omega) (nw _ _ _ (by rw [sz, sz]))
  · exact nw _ _ _ (by rw [sz, sz, sz])
/-- The facts on x's box. -/
theorem Cn.f1 (h : Cn w W x1 x2 a b) : W.cell? ⟨w.heap.size + 1, 0, none⟩ = some (.pointer x1) ∧ W.cell? ⟨w.heap.size + 1, 1, none⟩ = some (.pointer x2) := cell_of_row h.2.2.1
/-- .. on the results. -/
theorem Cn.f2 (h : Cn w W x1 x2 a b) : W.cell? ⟨w.heap.size + 2, 0, none⟩ = some (.pointer none) ∧ W.cell? ⟨w.heap.size + 2, 1, none⟩ = some (.pointer none) ∧ W.frozen? ⟨w.heap.size + 2, 0, none⟩ = false ∧ W.frozen? ⟨w.heap.size + 2, 1, none⟩ = false
    ∧ W.cell? ⟨w.heap.size + 3, 0, none⟩ = some (.pointer none) ∧ W.cell? ⟨w.heap.size + 3, 1, none⟩ = some (.pointer none) ∧ W.frozen? ⟨w.heap.size + 3, 0, none⟩ = false ∧ W.frozen? ⟨w.heap.size + 3, 1, none⟩ = false :=
  ⟨(cell_of_row h.2.2.2.1).1, (cell_of_row h.2.2.2.1).2, frozen_of_row _ _ _ _ _ h.2.2.2.1, frozen_of_row _ _ _ _ _ h.2.2.2.1, (cell_of_row h.2.2.2.2.1).1, (cell_of_row h.2.2.2.2.1).2, frozen_of_row _ _ _ _ _ h.2.2.2.2.1, frozen_of_row _ _ _ _ _ h.2.2.2.2.1⟩

/-- The end. -/
abbrev Wend (w W : World) (c1 c2 u1 u2 : Option Addr) : World := putRes (putRes W (w.heap.size + 2) (.pointer c1) (.pointer c2)) (w.heap.size + 3) (.pointer u1) (.pointer u2)
theorem Cn.fin (h : Cn w W x1 x2 a b) (c1 c2 u1 u2 : Option Addr) : (∀ p v, BigV W p v → BigV (Wend w W c1 c2 u1 u2) p v) ∧ Below w.heap.size w (Wend w W c1 c2 u1 u2) := by
  obtain ⟨f0, f1, -, -, f2, f3, -, -⟩ := h.f2
  refine ⟨fun p v hp => (hp.put2 c1 c2 f0).put2 (y := none) u1 u2 ?_, bel_putRes (bel_putRes h.1 (by omega) _ _) (by omega) _ _⟩
  rw [World.cell?_setCell_other _ _ _ _ (by simp), World.cell?_setCell_other _ _ _ _ (by simp)]
  exact f2
end Go.Proofs.Ybulkbxso
