/-
  eisen's One; the law's helper zzs3706beq.
-/
import Derived.Test.YbulkbxsoEis2
namespace Go.Proofs.Ybulkbxso
open Go.RowKit
set_option linter.unusedVariables false

/-- x boxed at the first new block. -/
def Bx (w W : World) (x1 x2 : Option Addr) (a b : Int) : Prop := Below w.heap.size w W ∧ W.heap[w.heap.size]? = some (.cells #[.pointer x1, .pointer x2] 24 (0, 0)) ∧ IntV W (.agg #[.pointer x1, .pointer x2]) a b
def BxC (w W : World) (x1 x2 : Option Addr) : Prop := W.cell? ⟨w.heap.size, 0, none⟩ = some (.pointer x1) ∧ W.cell? ⟨w.heap.size, 1, none⟩ = some (.pointer x2)
theorem Bx.lt {w W : World} {x1 x2 : Option Addr} {a b : Int} (h : Bx w W x1 x2 a b) : w.heap.size < W.heap.size := by
  rcases Nat.lt_or_ge w.heap.size W.heap.size with h1 | h1
  · exact h1
  · have := h.2.1; rw [Array.getElem?_eq_none h1] at this; cases this
theorem Bx.go {w W W' : World} {x1 x2 : Option Addr} {a b : Int} (h : Bx w W x1 x2 a b) (hb : Below W.heap.size W W') : Bx w W' x1 x2 a b :=
  ⟨h.1.trans (bel_less hb (Nat.le_of_lt h.lt)), (hb.block _ h.lt).trans h.2.1, h.2.2.below hb⟩
theorem Bx.c {w W : World} {x1 x2 : Option Addr} {a b : Int} (h : Bx w W x1 x2 a b) : W.cell? ⟨w.heap.size, 0, none⟩ = some (.pointer x1) ∧ W.cell? ⟨w.heap.size, 1, none⟩ = some (.pointer x2) := cell_of_row h.2.1

theorem cmp3_zero (a c : Int) : (cmp3 a c == 0) = decide (a = c) := by
  unfold cmp3
  by_cases h : a = c
  · subst h; simp
  · by_cases h2 : a < c
    · simp [h, h2]
    · have : c < a := by omega
      simp [h, h2, this]

set_option maxHeartbeats 1000000 in
set_option maxRecDepth 100000 in
theorem beq_any (x1 x2 : Option Addr) (a b c d : Int) (w : World) (h1 : -4611686018427387904 < c) (h2 : c < 4611686018427387904) (h3 : -4611686018427387904 < d) (h4 : d < 4611686018427387904) (h : IntV w (.agg #[.pointer x1, .pointer x2]) a b) :
    Calls Yba.prog 12 #[.agg #[.pointer x1, .pointer x2], .int .i64 c, .int .i64 d] w fun e w' => e = .returned (.bool (decide (a = c) && decide (b = d))) ∧ Below w.heap.size w w' := by
  have B0 : Bx w (w.alloc (.cells #[.pointer x1, .pointer x2] 24)) x1 x2 a b := ⟨(Below.refl _ _).alloc (Nat.le_refl _) _, heap_alloc_new w _, h.below ((Below.refl _ _).alloc (Nat.le_refl _) _)⟩
  have H13 : Hid (∀ W, Bx w W x1 x2 a b → Calls Yba.prog 13 #[.agg #[.pointer x1, .pointer x2]] W fun e W' => ∃ p, e = .returned (ptr p) ∧ Bx w W' x1 x2 a b ∧ BigV W' p a ∧ W'.cell? ⟨w.heap.size, 0, none⟩ = some (.pointer x1) ∧ W'.cell? ⟨w.heap.size, 1, none⟩ = some (.pointer x2)) := by
    intro W hB
    refine (A_any x1 x2 a b W hB.2.2).mono ?_
    rintro e W' ⟨p, he, h5, h6⟩
    exact ⟨p, he, hB.go h6, h5, (hB.go h6).c⟩
  have H15 : Hid (∀ W, Bx w W x1 x2 a b → Calls Yba.prog 15 #[.agg #[.pointer x1, .pointer x2]] W fun e W' => ∃ p, e = .returned (ptr p) ∧ Bx w W' x1 x2 a b ∧ BigV W' p b ∧ W'.cell? ⟨w.heap.size, 0, none⟩ = some (.pointer x1) ∧ W'.cell? ⟨w.heap.size, 1, none⟩ = some (.pointer x2)) := by
    intro W hB
    refine (B_any x1 x2 a b W hB.2.2).mono ?_
    rintro e W' ⟨p, he, h5, h6⟩
    exact ⟨p, he, hB.go h6, h5, (hB.go h6).c⟩
  have H8 : ∀ (y : Int), -4611686018427387904 < y → y < 4611686018427387904 → ∀ (p : Nat) (v : Int) (W : World), Bx w W x1 x2 a b → BigV W p v → Calls Yba.prog 8 #[.int .i64 y] W fun e W' => ∃ r, e = .returned (ptr r) ∧ Bx w W' x1 x2 a b ∧ BigV W' p v ∧ BigV W' r y ∧ p ≠ r ∧ W'.cell? ⟨w.heap.size, 0, none⟩ = some (.pointer x1) ∧ W'.cell? ⟨w.heap.size, 1, none⟩ = some (.pointer x2) := by
    intro y hy1 hy2 p v W hB hp
    refine (newInt_any y W hy1 hy2).mono ?_
    rintro e W' ⟨r, he, hr, h5, h6⟩
    exact ⟨r, he, hB.go h6, hp.below h6, h5, hp.ne hr, (hB.go h6).c⟩
  have H8c : Hid _ := H8 c h1 h2
  have H8d : Hid _ := H8 d h3 h4
  have H14 : Hid (∀ (p r : Nat) (v y : Int) (W : World), Bx w W x1 x2 a b → BigV W p v → BigV W r y → p ≠ r → Calls Yba.prog 14 #[ptr p, ptr r] W fun e W' => e = .returned (.int .i64 (cmp3 v y)) ∧ Bx w W' x1 x2 a b ∧ W'.cell? ⟨w.heap.size, 0, none⟩ = some (.pointer x1) ∧ W'.cell? ⟨w.heap.size, 1, none⟩ = some (.pointer x2)) := by
    intro p r v y W hB hp hr hne
    refine (intCmp p r v y W hne hp hr).mono ?_
    rintro e W' ⟨he, m, rfl⟩
    exact ⟨he, hB.go (bel_drewN _ _ _), (hB.go (bel_drewN _ _ _)).c⟩
  clear h h1 h2 h3 h4 H8
  have hc0 := cmp3_zero a c
  have hd0 := cmp3_zero b d
  by_cases hac : a = c
  · rw [decide_eq_true hac] at hc0 ⊢
    rw [Bool.true_and]
    clear hac
    generalize hs : decide (b = d) = s at hd0 ⊢
    clear hs
    go_enter Yba.func12, Yba.ntmps12
    go_wp2_with (first
      | (go_at_call 13; refine (H13.out _ B0).mono ?_; rintro e W1 ⟨p, rfl, B1, hp, c0, c1⟩)
      | (go_at_call_of 8 (Value.int IntKind.i64 c); refine (H8c.out p a W1 B1 hp).mono ?_; rintro e W2 ⟨r, rfl, B2, hp2, hr2, hne, c2, c3⟩)
      | (go_at_call_of 14 (ptr p); refine (H14.out p r a c W2 B2 hp2 hr2 hne).mono ?_; rintro e W3 ⟨rfl, B3, c4, c5⟩)
      | (go_at_call 15; refine (H15.out W3 B3).mono ?_; rintro e W4 ⟨q, rfl, B4, hq, c6, c7⟩)
      | (go_at_call_of 8 (Value.int IntKind.i64 d); refine (H8d.out q b W4 B4 hq).mono ?_; rintro e W5 ⟨r', rfl, B5, hq2, hr5, hne', c8, c9⟩)
      | (go_at_call_of 14 (ptr q); refine (H14.out q r' b d W5 B5 hq2 hr5 hne').mono ?_; rintro e W6 ⟨rfl, B6, c10, c11⟩))
    go_ret
    exact ⟨rfl, B6.1⟩
  · rw [decide_eq_false hac] at hc0 ⊢
    rw [Bool.false_and]
    clear hac hd0
    go_enter Yba.func12, Yba.ntmps12
    go_wp2_with (first
      | (go_at_call 13; refine (H13.out _ B0).mono ?_; rintro e W1 ⟨p, rfl, B1, hp, c0, c1⟩)
      | (go_at_call_of 8 (Value.int IntKind.i64 c); refine (H8c.out p a W1 B1 hp).mono ?_; rintro e W2 ⟨r, rfl, B2, hp2, hr2, hne, c2, c3⟩)
      | (go_at_call_of 14 (ptr p); refine (H14.out p r a c W2 B2 hp2 hr2 hne).mono ?_; rintro e W3 ⟨rfl, B3, c4, c5⟩))
    go_ret
    exact ⟨rfl, B3.1⟩
end Go.Proofs.Ybulkbxso
