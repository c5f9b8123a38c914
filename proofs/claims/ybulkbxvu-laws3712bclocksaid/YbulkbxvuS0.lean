/-
  slices.Sort at []int32: the row, what is kept of it (the set of its values), and the functions that only read.
-/
import Derived.Test.YbulkbxvuRows
import Derived.WalkKit
import Derived.WalkSpells
import Derived.BigQuiet
import Derived.BigCall
import Derived.CellFam
import Derived.Deep.QuietTactic
import Derived.Deep.RegionWith
import Derived.Deep.LoopGhost
import Derived.Deep.DeepCutAuto
import Derived.Deep.Light
import Derived.Handy
import Derived.Sort.AssemblyPlain
namespace Go.Proofs.Ybulkbxvu
open Go.RowKit
open Go.Sort (swp ltInt PermIn SortedIn)
set_option linter.unusedVariables false

/-- A row of int32s. -/
def RowG (W : World) (blk off m n : Nat) (G : Nat → Int) : Prop := ∃ C : Array Value, W.heap[blk]? = some (.cells C 21 (0, 0)) ∧ C.size = m ∧ off + n ≤ m ∧ ∀ j, j < n → C[off + j]? = some (.int .i32 (G j))
/-- All but the row's block is as it was. -/
def Fr (w W : World) (blk : Nat) : Prop := W.os = w.os ∧ W.tape = w.tape ∧ W.output = w.output ∧ w.heap.size ≤ W.heap.size ∧ ∀ k, k < w.heap.size → k ≠ blk → W.heap[k]? = w.heap[k]?
/-- The row holds d. -/
def SA (w W : World) (blk off m : Nat) (d : Array Int) : Prop := RowG W blk off m d.size (fun t => d[t]!) ∧ Fr w W blk ∧ blk < w.heap.size

theorem RowG.cells {W : World} {blk off m n : Nat} {G : Nat → Int} (h : RowG W blk off m n G) : (∀ t, t < n → W.cell? ⟨blk, off + t, none⟩ = some (.int .i32 (G t))) ∧ (∀ t, t < n → W.frozen? ⟨blk, off + t, none⟩ = false) := by
  obtain ⟨C, h1, h2, h3, h4⟩ := h
  exact ⟨fun t ht => by simp [World.cell?, h1, h4 t ht], fun t ht => by simp [World.frozen?, h1]⟩
theorem RowG.same {W W' : World} {blk off m n : Nat} {G : Nat → Int} (h : RowG W blk off m n G) (e : W'.heap[blk]? = W.heap[blk]?) : RowG W' blk off m n G := by
  obtain ⟨C, h1, h2⟩ := h
  exact ⟨C, e.trans h1, h2⟩
theorem RowG.set {W : World} {blk off m n : Nat} {G : Nat → Int} (h : RowG W blk off m n G) (i : Nat) (hi : i < n) (x : Int) : RowG (W.setCell ⟨blk, off + i, none⟩ (.int .i32 x)) blk off m n (fun t => if t = i then x else G t) := by
  obtain ⟨C, h1, h2, h3, h4⟩ := h
  refine ⟨C.setIfInBounds (off + i) (.int .i32 x), ?_, by simp [h2], h3, ?_⟩
  · simp [World.setCell, Array.getElem?_modify, h1]
  · intro j hj
    by_cases e : j = i
    · subst e
      rw [Array.getElem?_setIfInBounds]; simp; omega
    · rw [Array.getElem?_setIfInBounds]; simp [e, h4 j hj]; omega
theorem Fr.refl (w : World) (blk : Nat) : Fr w w blk := ⟨rfl, rfl, rfl, Nat.le_refl _, fun _ _ _ => rfl⟩
theorem Fr.set {w W : World} {blk : Nat} (h : Fr w W blk) (k i : Nat) (v : Value) (hk : k = blk ∨ w.heap.size ≤ k) : Fr w (W.setCell ⟨k, i, none⟩ v) blk := by
  obtain ⟨h1, h2, h3, h4, h5⟩ := h
  refine ⟨h1, h2, h3, by simp [World.setCell]; exact h4, fun j hj hne => ?_⟩
  rw [← h5 j hj hne]
  simp [World.setCell, Array.getElem?_modify]
  intro e; subst e
  rcases hk with rfl | hk
  · exact absurd rfl hne
  · omega
theorem Fr.drewN {w W : World} {blk : Nat} (h : Fr w W blk) (k : Nat) : Fr w (W.drewN k) blk := h
section
variable {w W : World} {blk off m : Nat} {d : Array Int}
theorem SA.drewN (h : SA w W blk off m d) (k : Nat) : SA w (W.drewN k) blk off m d := h
/-- What a walk needs. -/
theorem SA.facts (h : SA w W blk off m d) : ∃ G : Nat → Int, Hid (∀ t, G t = d[t]!) ∧ (∀ t, t < d.size → W.cell? ⟨blk, off + t, none⟩ = some (.int .i32 (G t))) ∧ (∀ t, t < d.size → W.frozen? ⟨blk, off + t, none⟩ = false) :=
  ⟨fun t => d[t]!, fun _ => rfl, h.1.cells.1, h.1.cells.2⟩
/-- A swap. -/
theorem SA.swap (h : SA w W blk off m d) (i j : Nat) (hi : i < d.size) (hj : j < d.size) (k : Nat) (x y : Int) (hx : x = d[j]!) (hy : y = d[i]!) :
    SA w (((W.drewN k).setCell ⟨blk, off + i, none⟩ (.int .i32 x)).setCell ⟨blk, off + j, none⟩ (.int .i32 y)) blk off m (swp d i j) := by
  subst hx hy
  obtain ⟨h1, h3, h4⟩ := h
  have r1 : RowG (W.drewN k) blk off m d.size (fun t => d[t]!) := h1
  have r2 := (r1.set i hi d[j]!).set j hj d[i]!
  refine ⟨?_, ((h3.drewN k).set _ _ _ (.inl rfl)).set _ _ _ (.inl rfl), h4⟩
  rw [Sort.size_swp]
  have e : (fun t => (swp d i j)[t]!) = (fun t => if t = j then d[i]! else if t = i then d[j]! else d[t]!) := by
    funext t; exact Sort.swp_get d hi hj t
  rw [e]
  exact r2
theorem SA.alloc (h : SA w W blk off m d) (o : Obj) : SA w (W.alloc o) blk off m d := by
  obtain ⟨h1, ⟨f1, f2, f3, f4, f5⟩, h4⟩ := h
  refine ⟨h1.same (heap_alloc_old W o (by omega)), ⟨f1, f2, f3, by simp; omega, fun k hk hne => (heap_alloc_old W o (by omega)).trans (f5 k hk hne)⟩, h4⟩
end

set_option maxHeartbeats 1000000 in
theorem isNaN_any (x : Int) (w : World) : Calls Yba.prog 60 #[.int .i32 x] w fun e w' => e = .returned (.bool false) ∧ w' = w := by
  go_enter Yba.func60, Yba.ntmps60
  go_wp2
  go_ret
  exact ⟨by simp, rfl⟩
set_option maxHeartbeats 1000000 in
theorem less_any (x y : Int) (w : World) : Calls Yba.prog 45 #[.int .i32 x, .int .i32 y] w fun e w' => e = .returned (.bool (ltInt x y)) ∧ w' = w := by
  go_enter Yba.func45, Yba.ntmps45
  go_wp2_with (go_at_call 60; refine (isNaN_any _ _).mono ?_; rintro e w' ⟨rfl, rfl⟩)
  go_ret
  exact ⟨rfl, rfl⟩

/-- .. beside the counter of swaps. -/
def SQ (w W : World) (blk off m : Nat) (d : Array Int) (q : Nat) : Prop := SA w W blk off m d ∧ w.heap.size ≤ q ∧ ∃ v : Int, W.heap[q]? = some (.cells #[.int .i64 v] 3 (0, 0))

theorem SQ.bump {w W : World} {blk off m : Nat} {d : Array Int} {q : Nat} (h : SQ w W blk off m d q) (k : Nat) (x : Int) : SQ w ((W.drewN k).setCell ⟨q, 0, none⟩ (.int .i64 x)) blk off m d q := by
  obtain ⟨⟨hR, hF, hl⟩, hq, v, hv⟩ := h
  refine ⟨⟨hR.same ?_, (hF.drewN k).set _ _ _ (.inr hq), hl⟩, hq, x, ?_⟩
  · exact heap_setCell_other (W.drewN k) ⟨q, 0, none⟩ blk _ (by simp; omega)
  · exact heap_setCell_same (W.drewN k) q 0 #[.int .i64 v] 3 _ hv

abbrev sl (blk off n c : Nat) : Value := .slice (some ⟨blk, off, none⟩) n c
abbrev pt (q : Nat) : Value := .pointer (some ⟨q, 0, none⟩)

set_option maxHeartbeats 2000000 in
set_option maxRecDepth 100000 in
theorem order2_any (w W : World) (blk off m c : Nat) (d : Array Int) (q a b : Nat) (h : SQ w W blk off m d q) (ha : a < d.size) (hb : b < d.size) :
    Calls Yba.prog 64 #[sl blk off d.size c, .int .i64 a, .int .i64 b, pt q] W fun e W' => (e = .returned (.tuple #[.int .i64 a, .int .i64 b]) ∨ e = .returned (.tuple #[.int .i64 b, .int .i64 a])) ∧ SQ w W' blk off m d q := by
  have HQ : Hid (SQ w W blk off m d q) := h
  obtain ⟨G, hG, c1, c2⟩ := h.1.facts
  obtain ⟨-, hq, v, hv⟩ := h
  have v1 : W.cell? ⟨q, 0, none⟩ = some (.int .i64 v) := by simp [World.cell?, hv]
  have v2 : W.frozen? ⟨q, 0, none⟩ = false := by simp [World.frozen?, hv]
  clear hv hq
  go_enter Yba.func64, Yba.ntmps64
  go_wp2
  go_quiet (first | (go_at_call 45; exact Calls.quiet_of_same (less_any _ _ _)))
  go_wp2
  · go_ret2
    exact ⟨.inr rfl, HQ.out.bump nq _⟩
  · go_ret2
    exact ⟨.inl rfl, HQ.out⟩
end Go.Proofs.Ybulkbxvu
