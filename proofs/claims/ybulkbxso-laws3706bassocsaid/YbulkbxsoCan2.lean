/-
  eisen's Canonical: its callees' contracts, and the walk, way by way.
-/
import Derived.Test.YbulkbxsoCan
namespace Go.Proofs.Ybulkbxso
open Go.RowKit
set_option linter.unusedVariables false

/-- What a call inside Canonical keeps. -/
def K1 (w W' : World) (x1 x2 : Option Addr) (a b : Int) : Prop := Cn w W' x1 x2 a b
section
variable (w : World) (p q : Nat) (a b : Int)
abbrev CN (W : World) : Prop := Cn w W (some ⟨p, 0, none⟩) (some ⟨q, 0, none⟩) a b
abbrev F1 (W : World) (x1 x2 : Option Addr) : Prop := W.cell? ⟨w.heap.size + 1, 0, none⟩ = some (.pointer x1) ∧ W.cell? ⟨w.heap.size + 1, 1, none⟩ = some (.pointer x2)
abbrev F2 (W : World) : Prop := W.cell? ⟨w.heap.size + 2, 0, none⟩ = some (.pointer none) ∧ W.cell? ⟨w.heap.size + 2, 1, none⟩ = some (.pointer none) ∧ W.frozen? ⟨w.heap.size + 2, 0, none⟩ = false ∧ W.frozen? ⟨w.heap.size + 2, 1, none⟩ = false
    ∧ W.cell? ⟨w.heap.size + 3, 0, none⟩ = some (.pointer none) ∧ W.cell? ⟨w.heap.size + 3, 1, none⟩ = some (.pointer none) ∧ W.frozen? ⟨w.heap.size + 3, 0, none⟩ = false ∧ W.frozen? ⟨w.heap.size + 3, 1, none⟩ = false
variable {w p q a b}
theorem CN.big {W : World} (h : CN w p q a b W) : p ≠ q ∧ BigV W p a ∧ BigV W q b := by
  rcases h.2.2.2.2.2.cases with ⟨e, _⟩ | ⟨p', q', e1, e2, h1, h2, h3⟩
  · cases e
  · injection e1 with e1; injection e2 with e2
    injection e1 with e1 _; injection e2 with e2 _
    subst e1 e2
    exact ⟨h1, h2, h3⟩
theorem c13 {W : World} (h : CN w p q a b W) : Calls Yba.prog 13 #[.agg #[ptr p, ptr q]] W fun e W' => e = .returned (ptr p) ∧ CN w p q a b W' ∧ F1 w W' (some ⟨p, 0, none⟩) (some ⟨q, 0, none⟩) := by
  refine (A_some p (some ⟨q, 0, none⟩) W).mono ?_
  rintro e W' ⟨he, rfl⟩
  have h' := h.go (W' := W.alloc (.cells #[ptr p, ptr q] 24)) ((Below.refl _ _).alloc (Nat.le_refl _) _)
  exact ⟨he, h', h'.f1⟩
theorem c15 {W : World} (h : CN w p q a b W) : Calls Yba.prog 15 #[.agg #[ptr p, ptr q]] W fun e W' => e = .returned (ptr q) ∧ CN w p q a b W' ∧ F1 w W' (some ⟨p, 0, none⟩) (some ⟨q, 0, none⟩) := by
  refine (B_some q (some ⟨p, 0, none⟩) W).mono ?_
  rintro e W' ⟨he, rfl⟩
  have h' := h.go (W' := W.alloc (.cells #[ptr p, ptr q] 24)) ((Below.refl _ _).alloc (Nat.le_refl _) _)
  exact ⟨he, h', h'.f1⟩
theorem c30a {W : World} (h : CN w p q a b W) {s : Int} (hs : sgn a = s) : Calls Yba.prog 30 #[ptr p] W fun e W' => e = .returned (.int .i64 s) ∧ W' = W := by subst hs; exact sign_any p a W h.big.2.1
theorem c30b {W : World} (h : CN w p q a b W) {s : Int} (hs : sgn b = s) : Calls Yba.prog 30 #[ptr q] W fun e W' => e = .returned (.int .i64 s) ∧ W' = W := by subst hs; exact sign_any q b W h.big.2.2
theorem c14 {W : World} (h : CN w p q a b W) {k : Int} (hk : cmp3 b a = k) : Calls Yba.prog 14 #[ptr q, ptr p] W fun e W' => e = .returned (.int .i64 k) ∧ CN w p q a b W' ∧ F1 w W' (some ⟨p, 0, none⟩) (some ⟨q, 0, none⟩) := by
  subst hk
  refine (intCmp q p b a W (Ne.symm h.big.1) h.big.2.2 h.big.2.1).mono ?_
  rintro e W' ⟨he, m, rfl⟩
  have h' := h.go (bel_drewN _ _ m)
  exact ⟨he, h', h'.f1⟩
theorem c27 {W : World} (h : CN w p q a b W) (r s : Nat) (v u : Int) (hr : BigV W r v) (hs : BigV W s u) (hvu : v.natAbs + u.natAbs < 18446744073709551616) : Calls Yba.prog 27 #[ptr r, ptr s] W fun e W' => ∃ k, e = .returned (ptr k) ∧ CN w p q a b W' ∧ W.heap.size ≤ k ∧ BigV W' k (v - u) ∧ Below W.heap.size W W' := by
  refine (sub2_any r s v u W hvu hr hs).mono ?_
  rintro e W' ⟨k, he, hk, hB, hb⟩
  exact ⟨k, he, h.go hb, hk, hB, hb⟩
theorem c25 {W : World} (h : CN w p q a b W) (r : Nat) (v : Int) (hr : BigV W r v) : Calls Yba.prog 25 #[ptr r] W fun e W' => ∃ k, e = .returned (ptr k) ∧ CN w p q a b W' ∧ W.heap.size ≤ k ∧ BigV W' k (-v) ∧ Below W.heap.size W W' := by
  refine (neg_any r v W hr).mono ?_
  rintro e W' ⟨k, he, hk, hB, hb⟩
  exact ⟨k, he, h.go hb, hk, hB, hb⟩
theorem c29 {W : World} (h : CN w p q a b W) (x y : Int) (h1 : -4611686018427387904 < x) (h2 : x < 4611686018427387904) (h3 : -4611686018427387904 < y) (h4 : y < 4611686018427387904) :
    Calls Yba.prog 29 #[.int .i64 x, .int .i64 y] W fun e W' => ∃ r s, e = .returned (.agg #[ptr r, ptr s]) ∧ CN w p q a b W' ∧ F2 w W' ∧ r ≠ s ∧ BigV W' r x ∧ BigV W' s y ∧ Below W.heap.size W W' := by
  refine (unit_any x y h1 h2 h3 h4 W).mono ?_
  rintro e W' ⟨r, s, he, hI, hb⟩
  rcases hI.cases with ⟨e, _⟩ | ⟨p', q', e1, e2, h1, h2, h3⟩
  · cases e
  · injection e1 with e1; injection e2 with e2
    injection e1 with e1 _; injection e2 with e2 _
    subst e1 e2
    exact ⟨_, _, he, h.go hb, (h.go hb).f2, h1, h2, h3, hb⟩
end

theorem sgn_pos {v : Int} (h : 0 < v) : sgn v = 1 := by unfold sgn; rw [if_neg (by omega), if_neg (by omega)]
theorem sgn_neg {v : Int} (h : v < 0) : sgn v = -1 := by unfold sgn; rw [if_pos h]
theorem sgn_zero : sgn 0 = 0 := rfl

/-- What Canonical hands back. -/
def CanOut (w : World) (ca cb ua ub : Int) (e : Ending) (w' : World) : Prop := ∃ c1 c2 u1 u2, e = .returned (.tuple #[.agg #[.pointer c1, .pointer c2], .agg #[.pointer u1, .pointer u2]]) ∧ IntV w' (.agg #[.pointer c1, .pointer c2]) ca cb ∧ IntV w' (.agg #[.pointer u1, .pointer u2]) ua ub ∧ Below w.heap.size w w'

set_option maxHeartbeats 2000000 in
set_option maxRecDepth 100000 in
/-- 0 < a ≤ b. -/
theorem can2 (p q : Nat) (a b : Int) (w : World) (h : IntV w (.agg #[ptr p, ptr q]) a b) (hs : a.natAbs + b.natAbs < 18446744073709551616) (h1 : 0 < a) (h2 : a ≤ b) :
    Calls Yba.prog 9 #[.agg #[], .agg #[ptr p, ptr q]] w fun e w' => CanOut w b (b - a) 0 (-1) e w' := by
  have C0 : CN w p q a b (W0 w (some ⟨p, 0, none⟩) (some ⟨q, 0, none⟩)).drew := (Cn.start h).go (Below.refl _ _).drew
  have Hsa : Hid (sgn a = 1) := sgn_pos h1
  have Hsb : Hid (sgn b = 1) := sgn_pos (by omega)
  obtain ⟨k, hk⟩ : ∃ k, cmp3 b a = k := ⟨_, rfl⟩
  have hk0 : 0 ≤ k := by rw [← hk]; unfold cmp3; rw [if_neg (by omega)]; split <;> omega
  have Hk : Hid (cmp3 b a = k) := hk
  have HS : Hid (b.natAbs + a.natAbs < 18446744073709551616) := by rw [Nat.add_comm]; exact hs
  clear hs h h1 h2 hk
  go_enter Yba.func9, Yba.ntmps9
  go_wp2
  go_region_with (first
    | (go_at_call 13; refine (c13 (w := w) (a := a) (b := b) (by assumption)).mono ?_; rintro e W1 ⟨rfl, C1, f1, f2⟩)
    | (go_at_call 15; refine (c15 (w := w) (a := a) (b := b) (by assumption)).mono ?_; rintro e W2 ⟨rfl, C2, f3, f4⟩))
  all_goals
    go_wp2_with (first
      | (go_at_call_of 30 (ptr p); refine (c30a (w := w) (b := b) (q := q) (by assumption) Hsa.out).mono ?_; rintro e W3 ⟨rfl, rfl⟩)
      | (go_at_call_of 30 (ptr q); refine (c30b (w := w) (a := a) (p := p) (by assumption) Hsb.out).mono ?_; rintro e W3 ⟨rfl, rfl⟩)
      | (go_at_call 14; refine (c14 (w := w) (a := a) (b := b) (by assumption) Hk.out).mono ?_; rintro e W4 ⟨rfl, C4, g1, g2⟩)
      | (go_at_call 27; refine (c27 (w := w) (a := a) (b := b) (p := p) (q := q) C4 q p b a (CN.big C4).2.2 (CN.big C4).2.1 HS.out).mono ?_; rintro e W5 ⟨r, rfl, C5, hr, hB5, hb5⟩)
      | (go_at_call 29; refine (c29 (w := w) (a := a) (b := b) (p := p) (q := q) C5 0 (-1) (by decide) (by decide) (by decide) (by decide)).mono ?_; rintro e W6 ⟨s, t, rfl, C6, ⟨k0, k1, k2, k3, k4, k5, k6, k7⟩, hst, hB6, hB7, hb6⟩))
    have F := Cn.fin C6 (some ⟨q, 0, none⟩) (some ⟨r, 0, none⟩) (some ⟨s, 0, none⟩) (some ⟨t, 0, none⟩)
    refine bodyPost_ret (v := .tuple #[.agg #[ptr q, ptr r], .agg #[ptr s, ptr t]]) (by simp [results, Yba.results9, go_sem, k0, k1, k4, k5]) rfl ?_
    exact ⟨_, _, _, _, rfl, .inr ⟨q, r, rfl, (CN.big C4).2.2.ne hr, F.1 _ _ (CN.big C6).2.2, F.1 _ _ (hB5.below hb6)⟩, .inr ⟨s, t, rfl, hst, F.1 _ _ hB6, F.1 _ _ hB7⟩, F.2⟩
end Go.Proofs.Ybulkbxso
