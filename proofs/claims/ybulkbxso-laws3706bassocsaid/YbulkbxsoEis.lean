/-
  eisen's small functions: neg, sub, unit (Canonical's three closures), A, B, New, One.
-/
import Derived.Test.YbulkbxsoInt3
import Derived.Test.YbulkbxsoCmp
namespace Go.Proofs.Ybulkbxso
open Go.RowKit
set_option linter.unusedVariables false

/-- A pointer at the block p. -/
abbrev ptr (p : Nat) : Value := .pointer (some ⟨p, 0, none⟩)

set_option maxHeartbeats 1000000 in
set_option maxRecDepth 100000 in
theorem neg_any (p : Nat) (v : Int) (w : World) (h : BigV w p v) : Calls Yba.prog 25 #[ptr p] w fun e w' => MadeBig w (-v) e w' := by
  have HN : Hid (Calls Yba.prog 26 #[ptr w.heap.size, ptr p] (w.alloc (.cells #[.bool false, .slice none 0 0] 60)) fun e w' => e = .returned (ptr w.heap.size) ∧ BigV w' w.heap.size (-v) ∧ Below w.heap.size (w.alloc (.cells #[.bool false, .slice none 0 0] 60)) w') :=
    intNeg w.heap.size p v _ (by have := h.lt; omega) ⟨60, heap_alloc_new w _⟩ (h.below ((Below.refl _ _).alloc (Nat.le_refl _) _))
  clear h
  go_enter Yba.func25, Yba.ntmps25
  go_wp2_with (go_at_call 26; refine HN.out.mono ?_; rintro e w' ⟨rfl, hB, hb⟩)
  go_ret
  exact ⟨w.heap.size, rfl, Nat.le_refl _, hB, ((Below.refl _ _).alloc (Nat.le_refl _) _).trans hb⟩

set_option maxHeartbeats 1000000 in
set_option maxRecDepth 100000 in
theorem sub2_any (p q : Nat) (v u : Int) (w : World) (hvu : v.natAbs + u.natAbs < 18446744073709551616) (h : BigV w p v) (h' : BigV w q u) : Calls Yba.prog 27 #[ptr p, ptr q] w fun e w' => MadeBig w (v - u) e w' := by
  have hal : Below w.heap.size w (w.alloc (.cells #[.bool false, .slice none 0 0] 60)) := (Below.refl _ _).alloc (Nat.le_refl _) _
  have HN : Hid (Calls Yba.prog 28 #[ptr w.heap.size, ptr p, ptr q] (w.alloc (.cells #[.bool false, .slice none 0 0] 60)) fun e w' => e = .returned (ptr w.heap.size) ∧ BigV w' w.heap.size (v - u) ∧ Below w.heap.size (w.alloc (.cells #[.bool false, .slice none 0 0] 60)) w') :=
    intSub w.heap.size p q v u _ hvu ⟨60, heap_alloc_new w _⟩ (h.below hal) (h'.below hal)
  clear h h' hvu
  go_enter Yba.func27, Yba.ntmps27
  go_wp2_with (go_at_call 28; refine HN.out.mono ?_; rintro e w' ⟨rfl, hB, hb⟩)
  go_ret
  exact ⟨w.heap.size, rfl, Nat.le_refl _, hB, hal.trans hb⟩

/-- An eisen.Int: the zero value, or two big.Ints. -/
def IntV (w : World) (x : Value) (a b : Int) : Prop :=
  (x = .agg #[.pointer none, .pointer none] ∧ a = 0 ∧ b = 0) ∨ ∃ p q, x = .agg #[ptr p, ptr q] ∧ p ≠ q ∧ BigV w p a ∧ BigV w q b
theorem IntV.below {w w' : World} {x : Value} {a b : Int} (h : IntV w x a b) (hb : Below w.heap.size w w') : IntV w' x a b := by
  rcases h with h | ⟨p, q, h1, h2, h3, h4⟩
  · exact .inl h
  · exact .inr ⟨p, q, h1, h2, h3.below hb, h4.below hb⟩

set_option maxHeartbeats 1000000 in
set_option maxRecDepth 100000 in
theorem A_some (p : Nat) (y : Option Addr) (w : World) : Calls Yba.prog 13 #[.agg #[ptr p, .pointer y]] w fun e w' => e = .returned (ptr p) ∧ w' = w.alloc (.cells #[ptr p, .pointer y] 24) := by
  go_enter Yba.func13, Yba.ntmps13
  go_wp2
  go_ret
  exact ⟨rfl, rfl⟩
set_option maxHeartbeats 1000000 in
set_option maxRecDepth 100000 in
theorem B_some (q : Nat) (y : Option Addr) (w : World) : Calls Yba.prog 15 #[.agg #[.pointer y, ptr q]] w fun e w' => e = .returned (ptr q) ∧ w' = w.alloc (.cells #[.pointer y, ptr q] 24) := by
  go_enter Yba.func15, Yba.ntmps15
  go_wp2
  go_ret
  exact ⟨rfl, rfl⟩
set_option maxHeartbeats 1000000 in
set_option maxRecDepth 100000 in
theorem A_nil (y : Option Addr) (w : World) : Calls Yba.prog 13 #[.agg #[.pointer none, .pointer y]] w fun e w' => e = .returned (ptr (w.heap.size + 1)) ∧ w' = (w.alloc (.cells #[.pointer none, .pointer y] 24)).alloc (.cells #[.bool false, .slice none 0 0] 60) := by
  go_enter Yba.func13, Yba.ntmps13
  go_wp2
  go_ret
  exact ⟨by simp, rfl⟩
set_option maxHeartbeats 1000000 in
set_option maxRecDepth 100000 in
theorem B_nil (y : Option Addr) (w : World) : Calls Yba.prog 15 #[.agg #[.pointer y, .pointer none]] w fun e w' => e = .returned (ptr (w.heap.size + 1)) ∧ w' = (w.alloc (.cells #[.pointer y, .pointer none] 24)).alloc (.cells #[.bool false, .slice none 0 0] 60) := by
  go_enter Yba.func15, Yba.ntmps15
  go_wp2
  go_ret
  exact ⟨by simp, rfl⟩

set_option maxHeartbeats 1000000 in
set_option maxRecDepth 100000 in
theorem new_any (y z : Option Addr) (w : World) : Calls Yba.prog 7 #[.pointer y, .pointer z] w fun e w' => e = .returned (.agg #[.pointer y, .pointer z]) ∧ w' = w.alloc (.cells #[.pointer y, .pointer z] 24) := by
  go_enter Yba.func7, Yba.ntmps7
  go_wp2
  exact bodyPost_ret (v := .agg #[.pointer y, .pointer z]) (by simp [results, Yba.results7, go_sem]) rfl ⟨rfl, rfl⟩

/-- The result's own block. -/
def Res (w W : World) : Prop := Below w.heap.size w W ∧ W.heap[w.heap.size]? = some (.cells #[.pointer none, .pointer none] 24 (0, 0))
theorem Res.go {w W W' : World} (h : Res w W) (hb : Below W.heap.size W W') : Res w W' := by
  have hl : w.heap.size < W.heap.size := by
    rcases Nat.lt_or_ge w.heap.size W.heap.size with h1 | h1
    · exact h1
    · have := h.2; rw [Array.getElem?_eq_none h1] at this; cases this
  exact ⟨h.1.trans (bel_less hb (Nat.le_of_lt hl)), (hb.block _ hl).trans h.2⟩
theorem Res.facts {w W : World} (h : Res w W) : W.cell? ⟨w.heap.size, 0, none⟩ = some (.pointer none) ∧ W.cell? ⟨w.heap.size, 1, none⟩ = some (.pointer none) ∧ W.frozen? ⟨w.heap.size, 0, none⟩ = false ∧ W.frozen? ⟨w.heap.size, 1, none⟩ = false :=
  ⟨(cell_of_row h.2).1, (cell_of_row h.2).2, frozen_of_row _ _ _ _ _ h.2, frozen_of_row _ _ _ _ _ h.2⟩
theorem Res.start (w : World) : Res w (w.alloc (.cells #[.pointer none, .pointer none] 24)) := ⟨(Below.refl _ _).alloc (Nat.le_refl _) _, heap_alloc_new w _⟩

/-- A call of NewInt behind the result's block. -/
theorem newInt_res (x : Int) (h1 : -4611686018427387904 < x) (h2 : x < 4611686018427387904) (w : World) : ∀ W, Res w W → Calls Yba.prog 8 #[.int .i64 x] W fun e W' => ∃ p, e = .returned (ptr p) ∧ W.heap.size ≤ p ∧ BigV W' p x ∧ Below W.heap.size W W' ∧ Res w W'
    ∧ W'.cell? ⟨w.heap.size, 0, none⟩ = some (.pointer none) ∧ W'.cell? ⟨w.heap.size, 1, none⟩ = some (.pointer none) ∧ W'.frozen? ⟨w.heap.size, 0, none⟩ = false ∧ W'.frozen? ⟨w.heap.size, 1, none⟩ = false := by
  intro W hR
  refine (newInt_any x W h1 h2).mono ?_
  rintro e W' ⟨p, he, hp, hB, hb⟩
  have hR' := hR.go hb
  exact ⟨p, he, hp, hB, hb, hR', hR'.facts⟩

theorem BigV.put {w : World} {p z i : Nat} {v : Int} {u : Value} {y : Option Addr} (h : BigV w p v) (hz : w.cell? ⟨z, 0, none⟩ = some (.pointer y)) : BigV (w.setCell ⟨z, i, none⟩ u) p v := by
  obtain ⟨a, t, h1, h2⟩ := h
  refine ⟨a, t, ?_, ?_⟩
  · rw [heap_setCell_other w _ p u (by intro e; subst e; rw [(cell_of_row h1).1] at hz; cases hz)]
    exact h1
  · rcases h2 with h | ⟨h1, b, c, h2, h3, h4⟩
    · exact .inl h
    · refine .inr ⟨h1, b, c, h2, h3, ?_⟩
      rw [World.cell?_setCell_other _ _ _ _ (by intro e; injection e with e _; subst e; rw [h4] at hz; cases hz)]
      exact h4
/-- The world behind the store of a struct of two pointers. -/
abbrev putRes (W : World) (z : Nat) (x y : Value) : World := (W.setCell ⟨z, 0, none⟩ x).setCell ⟨z, 1, none⟩ y
theorem BigV.put2 {w : World} {p z : Nat} {v : Int} {y : Option Addr} (x1 x2 : Option Addr) (h : BigV w p v) (hz : w.cell? ⟨z, 0, none⟩ = some (.pointer y)) : BigV (putRes w z (.pointer x1) (.pointer x2)) p v :=
  (h.put hz).put (y := x1) (World.cell?_setCell_same _ _ _ hz)
theorem bel_putRes {B z : Nat} {w W : World} (h : Below B w W) (hz : B ≤ z) (x y : Value) : Below B w (putRes W z x y) := (h.setCell (p := ⟨z, 0, none⟩) hz _).setCell (p := ⟨z, 1, none⟩) hz _
theorem BigV.ne {w : World} {p q : Nat} {v : Int} (h : BigV w p v) (hq : w.heap.size ≤ q) : p ≠ q := by have := h.lt; omega

set_option maxHeartbeats 1000000 in
set_option maxRecDepth 100000 in
theorem unit_any (x y : Int) (h1 : -4611686018427387904 < x) (h2 : x < 4611686018427387904) (h3 : -4611686018427387904 < y) (h4 : y < 4611686018427387904) (w : World) :
    Calls Yba.prog 29 #[.int .i64 x, .int .i64 y] w fun e w' => ∃ p q, e = .returned (.agg #[ptr p, ptr q]) ∧ IntV w' (.agg #[ptr p, ptr q]) x y ∧ Below w.heap.size w w' := by
  have HX : Hid _ := newInt_res x h1 h2 w
  have HY : Hid _ := newInt_res y h3 h4 w
  have R0 := Res.start w
  clear h1 h2 h3 h4
  go_enter Yba.func29, Yba.ntmps29
  go_wp2_with (first
    | (go_at_call_of 8 (Value.int IntKind.i64 x); refine (HX.out _ R0).mono ?_; rintro e W1 ⟨p, rfl, hp, hB1, hb1, R1, c0, c1, f0, f1⟩)
    | (go_at_call_of 8 (Value.int IntKind.i64 y); refine (HY.out W1 R1).mono ?_; rintro e W2 ⟨q, rfl, hq, hB2, hb2, R2, d0, d1, g0, g1⟩))
  refine bodyPost_ret (v := .agg #[ptr p, ptr q]) (by simp [results, Yba.results29, go_sem, d0, d1]) rfl ?_
  exact ⟨p, q, rfl, .inr ⟨p, q, rfl, hB1.ne hq, (hB1.below hb2).put2 _ _ d0, hB2.put2 _ _ d0⟩, bel_putRes R2.1 (Nat.le_refl _) _ _⟩
end Go.Proofs.Ybulkbxso
