/-
  eisen's Canonical: the way 0 ≤ b < a.
-/
import Derived.Test.YbulkbxsoCan2
namespace Go.Proofs.Ybulkbxso
open Go.RowKit
set_option linter.unusedVariables false

theorem Cn.f3 {w W : World} {x1 x2 : Option Addr} {a b : Int} (h : Cn w W x1 x2 a b) : W.heap[w.heap.size]? = some (.cells #[] 29 (0, 0)) := h.2.1
theorem c31 {w W : World} {x1 x2 : Option Addr} {a b : Int} (h : Cn w W x1 x2 a b) : Calls Yba.prog 31 #[.agg #[]] W fun e W' => ∃ r s, e = .returned (.agg #[ptr r, ptr s]) ∧ Cn w W' x1 x2 a b ∧ F1 w W' x1 x2 ∧ F2 w W' ∧ r ≠ s ∧ BigV W' r 1 ∧ BigV W' s 0 ∧ Below W.heap.size W W' := by
  refine (one_any W).mono ?_
  rintro e W' ⟨r, s, he, hI, hb⟩
  rcases hI.cases with ⟨e, _⟩ | ⟨p', q', e1, e2, h1, h2, h3⟩
  · cases e
  · injection e1 with e1; injection e2 with e2
    injection e1 with e1 _; injection e2 with e2 _
    subst e1 e2
    exact ⟨_, _, he, h.go hb, (h.go hb).f1, (h.go hb).f2, h1, h2, h3, hb⟩

set_option maxHeartbeats 2000000 in
set_option maxRecDepth 100000 in
theorem can1_walk (p q : Nat) (a b : Int) (w : World) (h : IntV w (.agg #[ptr p, ptr q]) a b) (h1 : 0 ≤ b) (h2 : b < a) (sb : Int) (hsb : sgn b = sb) (hsb2 : sb = 0 ∨ sb = 1) :
    Calls Yba.prog 9 #[.agg #[], .agg #[ptr p, ptr q]] w fun e w' => CanOut w a b 1 0 e w' := by
  have C0 : CN w p q a b (W0 w (some ⟨p, 0, none⟩) (some ⟨q, 0, none⟩)).drew := (Cn.start h).go (Below.refl _ _).drew
  have Hsa : Hid (sgn a = 1) := sgn_pos (by omega)
  have Hsb : Hid (sgn b = sb) := hsb
  have hk : cmp3 b a = -1 := by unfold cmp3; rw [if_pos h2]
  have Hk : Hid (cmp3 b a = -1) := hk
  clear h h1 h2 hk hsb
  rcases hsb2 with rfl | rfl
  all_goals
    go_enter Yba.func9, Yba.ntmps9
    go_wp2
    go_region_with (first
      | (go_at_call 13; refine (c13 (w := w) (a := a) (b := b) (by assumption)).mono ?_; rintro e W1 ⟨rfl, C1, f1, f2⟩)
      | (go_at_call 15; refine (c15 (w := w) (a := a) (b := b) (by assumption)).mono ?_; rintro e W2 ⟨rfl, C2, f3, f4⟩))
    all_goals
      go_wp2_with (first
        | (go_at_call_of 30 (ptr p); refine (c30a (w := w) (b := b) (q := q) (by assumption) Hsa.out).mono ?_; rintro e W3 ⟨rfl, rfl⟩)
        | (go_at_call_of 30 (ptr q); refine (c30b (w := w) (a := a) (p := p) (by assumption) Hsb.out).mono ?_; rintro e W3 ⟨rfl, rfl⟩)
        | (go_at_call 14; refine (c14 (w := w) (a := a) (b := b) (by assumption) Hk.out).mono ?_; rintro e W4 ⟨rfl, C4, g1, g2⟩; have C4d := C4.go (W' := W4.drew) (Below.refl _ _).drew; have g3 := C4.f3))
      go_region_with (go_at_call 31; refine (c31 (w := w) (a := a) (b := b) (by assumption)).mono ?_; rintro e W6 ⟨s, t, rfl, C6, ⟨j1, j2⟩, ⟨k0, k1, k2, k3, k4, k5, k6, k7⟩, hst, hB6, hB7, hb6⟩)
      all_goals
        go_wp2
        have F := Cn.fin C6 (some ⟨p, 0, none⟩) (some ⟨q, 0, none⟩) (some ⟨s, 0, none⟩) (some ⟨t, 0, none⟩)
        refine bodyPost_ret (v := .tuple #[.agg #[ptr p, ptr q], .agg #[ptr s, ptr t]]) (by simp [results, Yba.results9, go_sem, k0, k1, k4, k5]) rfl ?_
        exact ⟨_, _, _, _, rfl, .inr ⟨p, q, rfl, (CN.big C6).1, F.1 _ _ (CN.big C6).2.1, F.1 _ _ (CN.big C6).2.2⟩, .inr ⟨s, t, rfl, hst, F.1 _ _ hB6, F.1 _ _ hB7⟩, F.2⟩
end Go.Proofs.Ybulkbxso
