/-
  eisen's One.
-/
import Derived.Test.YbulkbxsoEis3
namespace Go.Proofs.Ybulkbxso
open Go.RowKit
set_option linter.unusedVariables false

set_option maxHeartbeats 1000000 in
set_option maxRecDepth 100000 in
theorem one_any (w : World) : Calls Yba.prog 31 #[.agg #[]] w fun e w' => ∃ p q, e = .returned (.agg #[ptr p, ptr q]) ∧ IntV w' (.agg #[ptr p, ptr q]) 1 0 ∧ Below w.heap.size w w' := by
  have HX : Hid _ := newInt_res 1 (by decide) (by decide) (w.alloc (.cells #[] 29))
  have R0 := Res.start (w.alloc (.cells #[] 29))
  have hs : (w.alloc (.cells #[] 29)).heap.size = w.heap.size + 1 := by simp
  rw [hs] at HX
  have hal : Below w.heap.size w (w.alloc (.cells #[] 29)) := (Below.refl _ _).alloc (Nat.le_refl _) _
  generalize hb0 : w.alloc (.cells #[] 29) = w0 at HX R0 hs hal
  go_enter Yba.func31, Yba.ntmps31
  go_wp2_with (go_at_call 8; refine (HX.out _ R0).mono ?_; rintro e W1 ⟨p, rfl, hp, hB1, hb1, R1, c0, c1, f0, f1⟩; have R2 := R1.go ((Below.refl _ _).alloc (Nat.le_refl _) (.cells #[.bool false, .slice none 0 0] 60)); obtain ⟨g0, g1, g2, g3⟩ := R2.facts; rw [hs] at g0 g1 g2 g3)
  have hb2 : Below W1.heap.size W1 (W1.alloc (.cells #[.bool false, .slice none 0 0] 60)) := (Below.refl _ _).alloc (Nat.le_refl _) _
  have hZ : BigV (W1.alloc (.cells #[.bool false, .slice none 0 0] 60)) W1.heap.size 0 := ⟨_, 60, heap_alloc_new W1 _, .inl ⟨rfl, _, _, rfl⟩⟩
  refine bodyPost_ret (v := .agg #[ptr p, ptr W1.heap.size]) (by simp [results, Yba.results31, go_sem, g0, g1]) rfl ?_
  exact ⟨p, W1.heap.size, rfl, .inr ⟨p, _, rfl, hB1.ne (Nat.le_refl _), (hB1.below hb2).put2 _ _ g0, hZ.put2 _ _ g0⟩, bel_putRes (hal.trans (bel_less R2.1 (by omega))) (by omega) _ _⟩
end Go.Proofs.Ybulkbxso
