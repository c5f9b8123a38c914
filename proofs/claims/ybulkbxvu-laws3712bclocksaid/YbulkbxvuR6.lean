/-
  reverse, at the law's chain: events of thread 0, the step of thread 1.
-/
import Derived.Test.YbulkbxvuR5
namespace Go.Proofs.Ybulkbxvu
open Go.RowKit
set_option linter.unusedVariables false

/-- A world with other scratch slices (first, initials) in the explorer, and new blocks. -/
structure RS (W0 W : World) (X : Nat) (F I : Value) : Prop where
  os : W.os = W0.os
  tape : W.tape = W0.tape
  output : W.output = W0.output
  size : W0.heap.size ≤ W.heap.size
  blk : ∀ k, k < W0.heap.size → k ≠ X → W.heap[k]? = W0.heap[k]?
  xc : ∀ o, o ≠ 22 → o ≠ 27 → W.cell? ⟨X, o, none⟩ = W0.cell? ⟨X, o, none⟩
  fz : ∀ o, W.frozen? ⟨X, o, none⟩ = W0.frozen? ⟨X, o, none⟩
  x22 : W.cell? ⟨X, 22, none⟩ = some F
  x27 : W.cell? ⟨X, 27, none⟩ = some I
section
variable {W0 W W' : World} {X : Nat} {F I : Value}
theorem RS.start (h1 : W.cell? ⟨X, 22, none⟩ = some F) (h2 : W.cell? ⟨X, 27, none⟩ = some I) : RS W W X F I :=
  ⟨rfl, rfl, rfl, Nat.le_refl _, fun _ _ _ => rfl, fun _ _ _ => rfl, fun _ => rfl, h1, h2⟩
theorem RS.below (h : RS W0 W X F I) (hb : Below W.heap.size W W') : RS W0 W' X F I := by
  have hl := cell_lt h.x22
  have hs := h.size
  exact ⟨hb.os.trans h.os, hb.tape.trans h.tape, hb.output.trans h.output, Nat.le_trans h.size hb.size, fun k hk hne => (hb.block k (by omega)).trans (h.blk k hk hne),
    fun o h1 h2 => (hb.cell hl).trans (h.xc o h1 h2), fun o => (hb.frozen hl).trans (h.fz o), (hb.cell hl).trans h.x22, (hb.cell hl).trans h.x27⟩
theorem RS.drewN (h : RS W0 W X F I) (k : Nat) : RS W0 (W.drewN k) X F I := ⟨h.os, h.tape, h.output, h.size, h.blk, h.xc, h.fz, h.x22, h.x27⟩
theorem RS.set22 (h : RS W0 W X F I) (v : Value) : RS W0 (W.setCell ⟨X, 22, none⟩ v) X v I := by
  refine ⟨h.os, h.tape, h.output, by simp [World.setCell]; exact h.size, fun k hk hne => ?_, fun o h1 h2 => ?_, fun o => ?_, ?_, ?_⟩
  · rw [heap_setCell_other _ _ k _ (by simpa using hne)]; exact h.blk k hk hne
  · rw [World.cell?_setCell_other _ _ _ _ (by simp)]; exact h.xc o h1 h2
  · rw [World.frozen?_setCell]; exact h.fz o
  · exact World.cell?_setCell_same _ _ _ h.x22
  · rw [World.cell?_setCell_other _ _ _ _ (by simp)]; exact h.x27
theorem RS.set27 (h : RS W0 W X F I) (v : Value) : RS W0 (W.setCell ⟨X, 27, none⟩ v) X F v := by
  refine ⟨h.os, h.tape, h.output, by simp [World.setCell]; exact h.size, fun k hk hne => ?_, fun o h1 h2 => ?_, fun o => ?_, ?_, ?_⟩
  · rw [heap_setCell_other _ _ k _ (by simpa using hne)]; exact h.blk k hk hne
  · rw [World.cell?_setCell_other _ _ _ _ (by simp)]; exact h.xc o h1 h2
  · rw [World.frozen?_setCell]; exact h.fz o
  · rw [World.cell?_setCell_other _ _ _ _ (by simp)]; exact h.x22
  · exact World.cell?_setCell_same _ _ _ h.x27
theorem RS.cell (h : RS W0 W X F I) {b o : Nat} {v : Value} (hb : b ≠ X) (hc : W0.cell? ⟨b, o, none⟩ = some v) : W.cell? ⟨b, o, none⟩ = some v := by
  rw [World.cell?_of_block (h.blk b (cell_lt hc) hb)]; exact hc
theorem RS.xcell (h : RS W0 W X F I) {o : Nat} {v : Value} (h1 : o ≠ 22) (h2 : o ≠ 27) (hc : W0.cell? ⟨X, o, none⟩ = some v) : W.cell? ⟨X, o, none⟩ = some v := (h.xc o h1 h2).trans hc
theorem EvR.rs {p : Pl} {D : Dat} (he : EvR W0 p D) (h : RS W0 W p.X F I) (h2 : p.ge ≠ p.X) (h3 : p.gc ≠ p.X) : EvR W p D :=
  ⟨h.xcell (by decide) (by decide) he.x2, h.xcell (by decide) (by decide) he.x3, fun k hk => h.cell h2 (he.e0 k hk), fun k hk => h.cell h2 (he.e1 k hk), fun k hk => h.cell h2 (he.e2 k hk), fun k hk => h.cell h2 (he.e3 k hk), fun j hj => h.cell h3 (he.cl j hj), he.cap, he.capm, he.small, he.tN⟩
end
end Go.Proofs.Ybulkbxvu
