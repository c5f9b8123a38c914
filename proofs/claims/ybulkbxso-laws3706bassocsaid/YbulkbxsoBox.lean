/-
  The laws' own boxes (blocks that hold an Int).
-/
import Derived.Test.YbulkbxsoCan2
import Derived.Test.YbulkbxsoPlain
namespace Go.Proofs.Ybulkbxso
open Go.RowKit
set_option linter.unusedVariables false

/-- A block with an Int. -/
def Ob (W : World) (X : Nat) (x1 x2 : Option Addr) : Prop := W.heap[X]? = some (.cells #[.pointer x1, .pointer x2] 24 (0, 0))
theorem Ob.lt {W : World} {X : Nat} {x1 x2 : Option Addr} (h : Ob W X x1 x2) : X < W.heap.size := lt_of_heap h
theorem Ob.go {W W' : World} {X : Nat} {x1 x2 : Option Addr} (h : Ob W X x1 x2) (hb : Below W.heap.size W W') : Ob W' X x1 x2 := (hb.block _ h.lt).trans h
theorem Ob.cells {W : World} {X : Nat} {x1 x2 : Option Addr} (h : Ob W X x1 x2) : W.cell? ⟨X, 0, none⟩ = some (.pointer x1) ∧ W.cell? ⟨X, 1, none⟩ = some (.pointer x2) := cell_of_row h
theorem Ob.free {W : World} {X : Nat} {x1 x2 : Option Addr} (h : Ob W X x1 x2) : W.frozen? ⟨X, 0, none⟩ = false ∧ W.frozen? ⟨X, 1, none⟩ = false := ⟨frozen_of_row _ _ _ _ _ h, frozen_of_row _ _ _ _ _ h⟩
theorem Ob.put {W : World} {X : Nat} {y1 y2 : Option Addr} (h : Ob W X y1 y2) (x1 x2 : Option Addr) : Ob (putRes W X (.pointer x1) (.pointer x2)) X x1 x2 :=
  heap_setCell_same _ X 1 _ 24 _ (heap_setCell_same W X 0 _ 24 _ h)
theorem Ob.other {W : World} {X z : Nat} {y1 y2 : Option Addr} (h : Ob W X y1 y2) (hz : X ≠ z) (u v : Value) : Ob (putRes W z u v) X y1 y2 := by
  unfold Ob
  rw [heap_setCell_other _ _ X v (by simpa using hz), heap_setCell_other _ _ X u (by simpa using hz)]
  exact h
theorem Ob.new (W : World) : Ob (W.alloc nil2) W.heap.size none none := heap_alloc_new W _

/-- One box made. -/
theorem box_new (W : World) (x1 x2 : Option Addr) : Ob (putRes (W.alloc nil2) W.heap.size (.pointer x1) (.pointer x2)) W.heap.size x1 x2 ∧ Below W.heap.size W (putRes (W.alloc nil2) W.heap.size (.pointer x1) (.pointer x2)) :=
  ⟨(Ob.new W).put _ _, bel_putRes ((Below.refl _ _).alloc (Nat.le_refl _) _) (Nat.le_refl _) _ _⟩
/-- Two boxes made. -/
theorem box_two (W : World) (c1 c2 u1 u2 : Option Addr) :
    Ob (putRes (putRes ((W.alloc nil2).alloc nil2) W.heap.size (.pointer c1) (.pointer c2)) (W.heap.size + 1) (.pointer u1) (.pointer u2)) W.heap.size c1 c2
    ∧ Ob (putRes (putRes ((W.alloc nil2).alloc nil2) W.heap.size (.pointer c1) (.pointer c2)) (W.heap.size + 1) (.pointer u1) (.pointer u2)) (W.heap.size + 1) u1 u2
    ∧ Below W.heap.size W (putRes (putRes ((W.alloc nil2).alloc nil2) W.heap.size (.pointer c1) (.pointer c2)) (W.heap.size + 1) (.pointer u1) (.pointer u2)) := by
  have s1 : (W.alloc nil2).heap.size = W.heap.size + 1 := by simp
  have o1 : Ob ((W.alloc nil2).alloc nil2) W.heap.size none none := (heap_alloc_old _ _ (by rw [s1]; omega)).trans (Ob.new W)
  have o2 : Ob ((W.alloc nil2).alloc nil2) (W.heap.size + 1) none none := by rw [← s1]; exact Ob.new _
  refine ⟨(o1.put _ _).other (by omega) _ _, (o2.other (by omega) _ _).put _ _, ?_⟩
  exact bel_putRes (bel_putRes (((Below.refl _ _).alloc (Nat.le_refl _) _).alloc (by rw [s1]; omega) _) (Nat.le_refl _) _ _) (by omega) _ _

/-- A law's x: its box, and what it says. -/
def Ex (w W : World) (v : Value) (a b : Int) : Prop := ∃ X x1 x2, v = ptr X ∧ w.heap.size ≤ X ∧ Below w.heap.size w W ∧ Ob W X x1 x2 ∧ IntV W (.agg #[.pointer x1, .pointer x2]) a b
/-- The contract of Canonical, as the laws take it. -/
abbrev Canon : Prop := ∀ (x1 x2 : Option Addr) (a b : Int) (w : World), IntV w (.agg #[.pointer x1, .pointer x2]) a b → a.natAbs + b.natAbs < 18446744073709551616 →
    Calls Yba.prog 9 #[.agg #[], .agg #[.pointer x1, .pointer x2]] w fun e w' => CanOut w (mulP (kP a b) a b).1 (mulP (kP a b) a b).2 (unitP (kP a b)).1 (unitP (kP a b)).2 e w'
end Go.Proofs.Ybulkbxso
