/-
  eisen's Canonical: the way a = b = 0 (also the zero value).
-/
import Derived.Test.YbulkbxsoCan1
namespace Go.Proofs.Ybulkbxso
open Go.RowKit
set_option linter.unusedVariables false

theorem cA {w W : World} {x1 x2 : Option Addr} {a b : Int} (h : Cn w W x1 x2 a b) : Calls Yba.prog 13 #[.agg #[.pointer x1, .pointer x2]] W fun e W' => ∃ r, e = .returned (ptr r) ∧ Cn w W' x1 x2 a b ∧ F1 w W' x1 x2 ∧ BigV W' r a ∧ Below W.heap.size W W' := by
  refine (A_any x1 x2 a b W h.2.2.2.2.2).mono ?_
  rintro e W' ⟨r, he, hB, hb⟩
  exact ⟨r, he, h.go hb, (h.go hb).f1, hB, hb⟩
theorem cB {w W : World} {x1 x2 : Option Addr} {a b : Int} (h : Cn w W x1 x2 a b) : Calls Yba.prog 15 #[.agg #[.pointer x1, .pointer x2]] W fun e W' => ∃ r, e = .returned (ptr r) ∧ Cn w W' x1 x2 a b ∧ F1 w W' x1 x2 ∧ BigV W' r b ∧ Below W.heap.size W W' := by
  refine (B_any x1 x2 a b W h.2.2.2.2.2).mono ?_
  rintro e W' ⟨r, he, hB, hb⟩
  exact ⟨r, he, h.go hb, (h.go hb).f1, hB, hb⟩
theorem IntV.turn {W W' : World} {x : Value} {a b : Int} (h : IntV W x a b) (hh : ∀ p v, BigV W p v → BigV W' p v) : IntV W' x a b := by
  rcases h with h | ⟨p, q, h1, h2, h3, h4⟩
  · exact .inl h
  · exact .inr ⟨p, q, h1, h2, hh _ _ h3, hh _ _ h4⟩
theorem c30z {W : World} (r : Nat) (h : BigV W r 0) : Calls Yba.prog 30 #[ptr r] W fun e W' => e = .returned (.int .i64 0) ∧ W' = W := sign_any r 0 W h

set_option maxHeartbeats 2000000 in
set_option maxRecDepth 100000 in
theorem can0_walk (x1 x2 : Option Addr) (w : World) (h : IntV w (.agg #[.pointer x1, .pointer x2]) 0 0) :
    Calls Yba.prog 9 #[.agg #[], .agg #[.pointer x1, .pointer x2]] w fun e w' => CanOut w 0 0 1 0 e w' := by
  have C0 : Cn w (W0 w x1 x2).drew x1 x2 0 0 := (Cn.start h).go (Below.refl _ _).drew
  clear h
  go_enter Yba.func9, Yba.ntmps9
  go_wp2
  go_region_with (first
      | (go_at_call 13; refine (cA (w := w) (a := 0) (b := 0) (by assumption)).mono ?_; rintro e W1 ⟨r1, rfl, C1, ⟨f1, f2⟩, hB1, hb1⟩; have CD1 := C1.go (W' := W1.drew) (Below.refl _ _).drew; have E1 := C1.f3)
      | (go_at_call 15; refine (cB (w := w) (a := 0) (b := 0) (by assumption)).mono ?_; rintro e W2 ⟨r2, rfl, C2, ⟨f3, f4⟩, hB2, hb2⟩; have CD2 := C2.go (W' := W2.drew) (Below.refl _ _).drew; have E2 := C2.f3))
  all_goals
    go_wp2_with (first
        | (go_at_call 30; refine (c30z _ (by first | assumption | exact BigV.below (by assumption) (by assumption))).mono ?_; rintro e W3 ⟨rfl, rfl⟩))
    go_region_with (go_at_call 31; refine (c31 (w := w) (a := 0) (b := 0) (by assumption)).mono ?_; rintro e W6 ⟨s, t, rfl, C6, ⟨j1, j2⟩, ⟨k0, k1, k2, k3, k4, k5, k6, k7⟩, hst, hB6, hB7, hb6⟩)
    all_goals
      go_wp2
      have F := Cn.fin C6 x1 x2 (some ⟨s, 0, none⟩) (some ⟨t, 0, none⟩)
      refine bodyPost_ret (v := .tuple #[.agg #[.pointer x1, .pointer x2], .agg #[ptr s, ptr t]]) (by simp [results, Yba.results9, go_sem, k0, k1, k4, k5]) rfl ?_
      exact ⟨_, _, _, _, rfl, C6.2.2.2.2.2.turn F.1, .inr ⟨s, t, rfl, hst, F.1 _ _ hB6, F.1 _ _ hB7⟩, F.2⟩
end Go.Proofs.Ybulkbxso
