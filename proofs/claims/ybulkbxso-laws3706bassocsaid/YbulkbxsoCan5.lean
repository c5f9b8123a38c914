/-
  eisen's Canonical: the way a < b ≤ 0.
-/
import Derived.Test.YbulkbxsoCan2
namespace Go.Proofs.Ybulkbxso
open Go.RowKit
set_option linter.unusedVariables false

set_option maxHeartbeats 2000000 in
set_option maxRecDepth 100000 in
theorem can5_walk (p q : Nat) (a b : Int) (w : World) (h : IntV w (.agg #[ptr p, ptr q]) a b) (hs : a.natAbs + b.natAbs < 18446744073709551616) (h1 : a < b) (h2 : b ≤ 0) (sb : Int) (hsb : sgn b = sb) (hsb2 : sb = 0 ∨ sb = -1) :
    Calls Yba.prog 9 #[.agg #[], .agg #[ptr p, ptr q]] w fun e w' => CanOut w (-a) (-b) (-1) 0 e w' := by
  have C0 : CN w p q a b (W0 w (some ⟨p, 0, none⟩) (some ⟨q, 0, none⟩)).drew := (Cn.start h).go (Below.refl _ _).drew
  have Hsa : Hid (sgn a = -1) := sgn_neg (by omega)
  have Hsb : Hid (sgn b = sb) := hsb
  have hk : cmp3 b a = 1 := by unfold cmp3; rw [if_neg (by omega), if_pos h1]
  have Hk : Hid (cmp3 b a = 1) := hk
  have HS : Hid (a.natAbs + b.natAbs < 18446744073709551616) := hs
  clear hs h
  clear h1 h2 hk hsb
  rcases hsb2 with rfl | rfl
  all_goals
    go_enter Yba.func9, Yba.ntmps9
    go_wp2
    go_region_with (first
      | (go_at_call 13; refine (c13 (w := w) (a := a) (b := b) (by assumption)).mono ?_; rintro e W1 ⟨rfl, C1, f1, f2⟩)
      | (go_at_call 15; refine (c15 (w := w) (a := a) (b := b) (by assumption)).mono ?_; rintro e W2 ⟨rfl, C2, f3, f4⟩))
    all_goals
      go_wp2_with (first
        | (go_at_call_of 30 (ptr p); refine (c30a (w := w) (b := b) (q := q) (by assumption) Hsa.out).mono ?_; rintro e W3 ⟨rfl, rfl⟩)
        | (go_at_call_of 30 (ptr q); refine (c30b (w := w) (a := a) (p := p) (by assumption) Hsb.out).mono ?_; rintro e W3 ⟨rfl, rfl⟩)
        | (go_at_call 14; refine (c14 (w := w) (a := a) (b := b) (by assumption) Hk.out).mono ?_; rintro e W4 ⟨rfl, C4, g1, g2⟩)
        | (go_at_call_of 25 (ptr p); refine (c25 (w := w) (a := a) (b := b) (p := p) (q := q) C4 p a (CN.big C4).2.1).mono ?_; rintro e W5 ⟨r, rfl, C5, hr, hB5, hb5⟩)
        | (go_at_call_of 25 (ptr q); refine (c25 (w := w) (a := a) (b := b) (p := p) (q := q) C5 q b (CN.big C5).2.2).mono ?_; rintro e W7 ⟨r', rfl, C7, hr', hB8, hb7⟩)
        | (go_at_call 29; refine (c29 (w := w) (a := a) (b := b) (p := p) (q := q) C7 (-1) 0 (by decide) (by decide) (by decide) (by decide)).mono ?_; rintro e W6 ⟨s, t, rfl, C6, ⟨k0, k1, k2, k3, k4, k5, k6, k7⟩, hst, hB6, hB7, hb6⟩))
      have F := Cn.fin C6 (some ⟨r, 0, none⟩) (some ⟨r', 0, none⟩) (some ⟨s, 0, none⟩) (some ⟨t, 0, none⟩)
      refine bodyPost_ret (v := .tuple #[.agg #[ptr r, ptr r'], .agg #[ptr s, ptr t]]) (by simp [results, Yba.results9, go_sem, k0, k1, k4, k5]) rfl ?_
      exact ⟨_, _, _, _, rfl, .inr ⟨r, r', rfl, hB5.ne hr', F.1 _ _ ((hB5.below hb7).below hb6), F.1 _ _ (hB8.below hb6)⟩, .inr ⟨s, t, rfl, hst, F.1 _ _ hB6, F.1 _ _ hB7⟩, F.2⟩
end Go.Proofs.Ybulkbxso
