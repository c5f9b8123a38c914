/-
  (*Int).Cmp at numbers of at most one word, two distinct Ints.
-/
import Derived.Test.YbulkbxsoInt2
namespace Go.Proofs.Ybulkbxso
open Go.RowKit
set_option linter.unusedVariables false

theorem eqlN_other (p q t t' : Nat) (x y x' y' : Value) (w : World) (hpq : ¬ p = q) (hP : w.heap[p]? = some (.cells #[x, y] t (0, 0))) (hQ : w.heap[q]? = some (.cells #[x', y'] t' (0, 0))) :
    (binOp .eql 22 (.pointer (some ⟨p, 0, none⟩)) (.pointer (some ⟨q, 0, none⟩))).run Yba.prog w = .ok (.bool false) w := by
  obtain ⟨j, hj1, hj2⟩ := size60
  exact run_eql_ptr_other w Yba.underlying22 hj1 hj2 (by intro h; injection h with h _; exact hpq h) hP hQ

theorem quiet_of3 {P : Program} {f : FuncId} {args : Array Value} {w : World} {k n : Nat} {v : Value}
    (h : Calls P f args (w.drewN (k + n)) fun e w' => e = .returned v ∧ ∃ m, w' = (w.drewN (k + n)).drewN m) : Calls P f args (w.drewN (k + n)) fun e w'' => e = .returned v ∧ ∃ m, w'' = w.drewN (k + m) :=
  h.mono fun _ _ ⟨he, m, hm⟩ => ⟨he, n + m, by rw [hm, World.drewN_drewN, Nat.add_assoc]⟩

set_option maxHeartbeats 2000000 in
set_option maxRecDepth 100000 in
theorem cmpSame_walk (p q : Nat) (w : World) (s : Bool) (r r' : Int) (hrr : IntKind.i64.wrap (-r) = r') (a b : Value)
    (HE : (binOp .eql 22 (.pointer (some ⟨p, 0, none⟩)) (.pointer (some ⟨q, 0, none⟩))).run Yba.prog w = .ok (.bool false) w)
    (HC : Hid (∀ w', Alike w w' → Calls Yba.prog 32 #[a, b] w' fun e w'' => e = .returned (.int .i64 r) ∧ ∃ m, w'' = w'.drewN m))
    (hp0 : w.cell? ⟨p, 0, none⟩ = some (.bool s)) (hp1 : w.cell? ⟨p, 1, none⟩ = some a)
    (hq0 : w.cell? ⟨q, 0, none⟩ = some (.bool s)) (hq1 : w.cell? ⟨q, 1, none⟩ = some b) :
    Calls Yba.prog 14 #[.pointer (some ⟨p, 0, none⟩), .pointer (some ⟨q, 0, none⟩)] w fun e w' => e = .returned (.int .i64 (if s then r' else r)) ∧ ∃ m, w' = w.drewN m := by
  cases s
  · rw [if_neg (by decide)]
    go_enter Yba.func14, Yba.ntmps14
    go_wp2_with (simp only [HE])
    go_quiet (fail)
    go_wp2
    go_quiet ((go_at_call 32; exact quiet_of3 (HC.out (w.drewN _) ⟨rfl, rfl, rfl, rfl⟩)))
    go_wp2
    go_ret
    exact ⟨rfl, _, rfl⟩
  · rw [if_pos rfl]
    go_enter Yba.func14, Yba.ntmps14
    go_wp2_with (simp only [HE])
    go_quiet (fail)
    go_wp2
    go_quiet ((go_at_call 32; exact quiet_of3 (HC.out (w.drewN _) ⟨rfl, rfl, rfl, rfl⟩)))
    go_wp2
    go_ret
    exact ⟨rfl, _, rfl⟩

set_option maxHeartbeats 2000000 in
set_option maxRecDepth 100000 in
theorem cmpDiff_walk (p q : Nat) (w : World) (s : Bool)
    (HE : (binOp .eql 22 (.pointer (some ⟨p, 0, none⟩)) (.pointer (some ⟨q, 0, none⟩))).run Yba.prog w = .ok (.bool false) w)
    (hp0 : w.cell? ⟨p, 0, none⟩ = some (.bool s)) (hq0 : w.cell? ⟨q, 0, none⟩ = some (.bool (!s))) :
    Calls Yba.prog 14 #[.pointer (some ⟨p, 0, none⟩), .pointer (some ⟨q, 0, none⟩)] w fun e w' => e = .returned (.int .i64 (if s then -1 else 1)) ∧ ∃ m, w' = w.drewN m := by
  cases s
  · rw [if_neg (by decide)]
    simp only [Bool.not_false] at hq0
    go_enter Yba.func14, Yba.ntmps14
    go_wp2_with (simp only [HE])
    go_quiet (fail)
    go_wp2
    go_ret
    exact ⟨rfl, _, rfl⟩
  · rw [if_pos rfl]
    simp only [Bool.not_true] at hq0
    go_enter Yba.func14, Yba.ntmps14
    go_wp2_with (simp only [HE])
    go_quiet (fail)
    go_wp2
    go_ret
    exact ⟨rfl, _, rfl⟩

/-- (*Int).Cmp of two distinct Ints. -/
theorem intCmp (p q : Nat) (v u : Int) (w : World) (hpq : ¬ p = q) (h : BigV w p v) (h' : BigV w q u) :
    Calls Yba.prog 14 #[.pointer (some ⟨p, 0, none⟩), .pointer (some ⟨q, 0, none⟩)] w fun e w' => e = .returned (.int .i64 (cmp3 v u)) ∧ ∃ m, w' = w.drewN m := by
  obtain ⟨a, t', hP, ha⟩ := h
  obtain ⟨b, t'', hQ, hb⟩ := h'
  have HE := eqlN_other p q t' t'' _ _ _ _ w hpq hP hQ
  by_cases hss : decide (u < 0) = !decide (v < 0)
  · rw [hss] at hQ
    have e : cmp3 v u = if decide (v < 0) then -1 else 1 := by
      by_cases hv : v < 0
      · rw [decide_eq_true hv] at hss ⊢
        have hu : ¬ u < 0 := by simpa using hss
        unfold cmp3; rw [if_pos (by omega)]; rfl
      · rw [decide_eq_false hv] at hss ⊢
        have hu : u < 0 := by simpa using hss
        unfold cmp3; rw [if_neg (by omega), if_pos (by omega)]; rfl
    rw [e]
    exact cmpDiff_walk p q w _ HE (cell_of_row hP).1 (cell_of_row hQ).1
  · have hss' : decide (u < 0) = decide (v < 0) := by
      cases h1 : decide (u < 0) <;> cases h2 : decide (v < 0) <;> simp_all
    have hsg : (v < 0 ∧ u < 0) ∨ (¬ v < 0 ∧ ¬ u < 0) := by
      by_cases hv : v < 0
      · rw [decide_eq_true hv] at hss'
        exact .inl ⟨hv, of_decide_eq_true hss'⟩
      · rw [decide_eq_false hv] at hss'
        exact .inr ⟨hv, of_decide_eq_false hss'⟩
    rw [hss'] at hQ
    have HC : Hid (∀ w', Alike w w' → Calls Yba.prog 32 #[a, b] w' fun e w'' => e = .returned (.int .i64 (cmp3 v.natAbs u.natAbs)) ∧ ∃ m, w'' = w'.drewN m) :=
      fun w' al => cmp_any _ _ v.natAbs u.natAbs w' (ha.below (al.bel _)) (hb.below (al.bel _))
    have e : cmp3 v u = if decide (v < 0) then -cmp3 v.natAbs u.natAbs else cmp3 v.natAbs u.natAbs := by
      rcases hsg with ⟨h1, h2⟩ | ⟨h1, h2⟩
      · rw [decide_eq_true h1, if_pos rfl]
        unfold cmp3
        rcases Int.lt_trichotomy v u with h | h | h
        · rw [if_pos h, if_neg (by omega), if_pos (by omega)]
        · rw [if_neg (by omega), if_neg (by omega), if_neg (by omega), if_neg (by omega)]; rfl
        · rw [if_neg (by omega), if_pos (by omega), if_pos (by omega)]; rfl
      · rw [decide_eq_false h1, if_neg (by decide)]
        unfold cmp3
        rcases Int.lt_trichotomy v u with h | h | h
        · rw [if_pos h, if_pos (by omega)]
        · rw [if_neg (by omega), if_neg (by omega), if_neg (by omega), if_neg (by omega)]
        · rw [if_neg (by omega), if_pos (by omega), if_neg (by omega), if_pos (by omega)]
    rw [e]
    have hw : IntKind.i64.wrap (-cmp3 v.natAbs u.natAbs) = -cmp3 v.natAbs u.natAbs := by
      unfold cmp3; split
      · decide
      · split <;> decide
    exact cmpSame_walk p q w _ _ _ hw a b HE HC (cell_of_row hP).1 (cell_of_row hP).2 (cell_of_row hQ).1 (cell_of_row hQ).2
end Go.Proofs.Ybulkbxso
