/-
  math/big at integers of at most one word: how they lie in memory; NewInt, Sign.
-/
import Derived.Test.YbulkbxsoRows
import Derived.WalkKit
import Derived.WalkSpells
import Derived.Handy
import Derived.Deep.QuietTactic
import Derived.BigQuiet
import Derived.Deep.Light
namespace Go.Proofs.Ybulkbxso
open Go.RowKit

/-- A nat of at most one word: no word for 0, else one. -/
def NatV (w : World) (v : Value) (m : Nat) : Prop :=
  (m = 0 ∧ ∃ ao c, v = .slice ao 0 c) ∨ (0 < m ∧ ∃ b c, v = .slice (some ⟨b, 0, none⟩) 1 c ∧ 1 ≤ c ∧ w.cell? ⟨b, 0, none⟩ = some (.int .u64 (m : Int)))
/-- A big.Int at block p. -/
def BigV (w : World) (p : Nat) (v : Int) : Prop := ∃ a t, w.heap[p]? = some (.cells #[.bool (decide (v < 0)), a] t (0, 0)) ∧ NatV w a v.natAbs
theorem BigV.cells {w : World} {p : Nat} {v : Int} (h : BigV w p v) : w.cell? ⟨p, 0, none⟩ = some (.bool (decide (v < 0))) ∧ ∃ a, w.cell? ⟨p, 1, none⟩ = some a ∧ NatV w a v.natAbs := by
  obtain ⟨a, t, h1, h2⟩ := h
  exact ⟨by simp [World.cell?, h1], a, by simp [World.cell?, h1], h2⟩

theorem NatV.below {w w' : World} {v : Value} {m : Nat} (h : NatV w v m) (hb : Below w.heap.size w w') : NatV w' v m := by
  rcases h with h | ⟨h1, b, c, h2, h3, h4⟩
  · exact .inl h
  · exact .inr ⟨h1, b, c, h2, h3, (hb.cell (p := ⟨b, 0, none⟩) (World.block_lt_of_cell? w ⟨b, 0, none⟩ h4)).trans h4⟩
theorem BigV.below {w w' : World} {p : Nat} {v : Int} (h : BigV w p v) (hb : Below w.heap.size w w') : BigV w' p v := by
  obtain ⟨a, t, h1, h2⟩ := h
  have hp : p < w.heap.size := by
    rcases Nat.lt_or_ge p w.heap.size with h | h
    · exact h
    · rw [Array.getElem?_eq_none h] at h1; cases h1
  exact ⟨a, t, (hb.block p hp).trans h1, h2.below hb⟩
theorem BigV.lt {w : World} {p : Nat} {v : Int} (h : BigV w p v) : p < w.heap.size := World.block_lt_of_cell? w ⟨p, 0, none⟩ h.cells.1

/-- What a function that makes a big.Int hands back. -/
def MadeBig (w : World) (v : Int) (e : Ending) (w' : World) : Prop := ∃ p, e = .returned (.pointer (some ⟨p, 0, none⟩)) ∧ w.heap.size ≤ p ∧ BigV w' p v ∧ Below w.heap.size w w'

set_option maxHeartbeats 1000000 in
set_option maxRecDepth 100000 in
theorem newInt_pos (x : Nat) (w : World) (hx : 0 < (x : Int)) (hw : IntKind.u64.wrap (x : Int) = (x : Int)) : Calls Yba.prog 8 #[.int .i64 (x : Int)] w fun e w' => MadeBig w (x : Int) e w' := by
  have hx0 : ((x : Int) == 0) = false := by simp; omega
  have hx1 : ¬ (x : Int) < 0 := by omega
  go_enter Yba.func8, Yba.ntmps8
  go_wp2
  go_ret
  refine ⟨w.heap.size + 1, rfl, by omega, ⟨.slice (some ⟨w.heap.size, 0, none⟩) 1 1, _, (by rw [show decide ((x : Int) < 0) = false from decide_eq_false (by omega)]; exact heap_alloc2_new w _ _), ?_⟩, (((Below.refl _ _).alloc (Nat.le_refl _) _).alloc (by simp) _)⟩
  exact .inr ⟨by omega, w.heap.size, 1, rfl, Nat.le_refl _, by simp [go_sem]⟩

set_option maxHeartbeats 1000000 in
set_option maxRecDepth 100000 in
theorem newInt_zero (w : World) : Calls Yba.prog 8 #[.int .i64 0] w fun e w' => MadeBig w 0 e w' := by
  go_enter Yba.func8, Yba.ntmps8
  go_wp2
  go_ret
  exact ⟨w.heap.size, rfl, Nat.le_refl _, ⟨.slice none 0 0, _, heap_alloc_new w _, .inl ⟨rfl, _, _, rfl⟩⟩, (Below.refl _ _).alloc (Nat.le_refl _) _⟩

set_option maxHeartbeats 1000000 in
set_option maxRecDepth 100000 in
theorem newInt_neg (x : Nat) (w : World) (hx : 0 < (x : Int)) (y : Nat) (hw : IntKind.u64.wrap (-(x : Int)) = (y : Int)) (hw2 : IntKind.u64.wrap (-(y : Int)) = (x : Int)) : Calls Yba.prog 8 #[.int .i64 (-(x : Int))] w fun e w' => MadeBig w (-(x : Int)) e w' := by
  have hx0 : (-(x : Int) == 0) = false := by simp; omega
  have hx1 : -(x : Int) < 0 := by omega
  go_enter Yba.func8, Yba.ntmps8
  go_wp2
  go_ret
  refine ⟨w.heap.size + 1, rfl, by omega, ⟨.slice (some ⟨w.heap.size, 0, none⟩) 1 1, 60, (by rw [show decide (-(x : Int) < 0) = true from decide_eq_true (by omega)]; exact heap_alloc2_new w _ _), ?_⟩, (((Below.refl _ _).alloc (Nat.le_refl _) _).alloc (by simp) _)⟩
  exact .inr ⟨by omega, w.heap.size, 1, rfl, Nat.le_refl _, by simp [go_sem]⟩

/-- math/big.NewInt. -/
theorem newInt_any (x : Int) (w : World) (h1 : -4611686018427387904 < x) (h2 : x < 4611686018427387904) : Calls Yba.prog 8 #[.int .i64 x] w fun e w' => MadeBig w x e w' := by
  have h3 : x < 0 ∨ x = 0 ∨ 0 < x := by omega
  rcases h3 with h3 | rfl | h3
  · obtain ⟨n, rfl⟩ : ∃ n : Nat, x = -(n : Int) := ⟨x.natAbs, by omega⟩
    exact newInt_neg n w (by omega) (18446744073709551616 - n) (by rw [IntKind.wrap_u64]; omega) (by rw [IntKind.wrap_u64]; omega)
  · exact newInt_zero w
  · obtain ⟨n, rfl⟩ := Int.eq_ofNat_of_zero_le (Int.le_of_lt h3)
    exact newInt_pos n w h3 (by rw [IntKind.wrap_u64]; omega)

def sgn (v : Int) : Int := if v < 0 then -1 else if v = 0 then 0 else 1
set_option maxHeartbeats 1000000 in
set_option maxRecDepth 100000 in
/-- (*Int).Sign. -/
theorem sign_any (p : Nat) (v : Int) (w : World) (h : BigV w p v) : Calls Yba.prog 30 #[.pointer (some ⟨p, 0, none⟩)] w fun e w' => e = .returned (.int .i64 (sgn v)) ∧ w' = w := by
  obtain ⟨hn, a, ha, hv⟩ := h.cells
  clear h
  rcases hv with ⟨h0, ao, c, rfl⟩ | ⟨h0, b, c, rfl, hc, hcell⟩
  · obtain rfl : v = 0 := by omega
    have e : sgn 0 = 0 := by decide
    rw [e]
    go_enter Yba.func30, Yba.ntmps30
    go_wp2
    go_ret
    exact ⟨rfl, rfl⟩
  · by_cases hv : v < 0
    · have e : sgn v = -1 := by simp [sgn, hv]
      rw [e]
      rw [decide_eq_true hv] at hn
      clear e hcell h0 hc
      go_enter Yba.func30, Yba.ntmps30
      go_wp2
      go_ret
      exact ⟨rfl, rfl⟩
    · have e : sgn v = 1 := by simp [sgn, hv]; omega
      rw [e]
      rw [decide_eq_false hv] at hn
      clear e hcell h0 hc
      go_enter Yba.func30, Yba.ntmps30
      go_wp2
      go_ret
      exact ⟨rfl, rfl⟩
end Go.Proofs.Ybulkbxso
