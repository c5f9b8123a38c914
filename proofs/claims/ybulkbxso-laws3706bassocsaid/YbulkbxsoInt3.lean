/-
  (*Int).Sub at like signs, Cmp, at numbers of at most one word.
-/
import Derived.Test.YbulkbxsoInt2
namespace Go.Proofs.Ybulkbxso
open Go.RowKit
set_option linter.unusedVariables false

/-- What the walk of Sub asks of its last call. -/
def SubS (w : World) (z t : Nat) (args : Array Value) (m n : Nat) : Prop := ∀ w', Alike w w' → Calls Yba.prog 35 args w' fun e w'' => ∃ ao c, e = .returned (.slice ao n c) ∧ Hid (NatV w'' (.slice ao n c) m) ∧ Below w.heap.size w w'' ∧ w''.cell? ⟨z, 1, none⟩ = some (.slice none 0 0) ∧ w''.frozen? ⟨z, 1, none⟩ = false
      ∧ w''.heap[z]? = some (.cells #[.bool false, .slice none 0 0] t (0, 0))

theorem mkSubS {args : Array Value} {m z t : Nat} {w : World} (n : Nat) (hn : n = if m = 0 then 0 else 1) (hZ : w.heap[z]? = some (.cells #[.bool false, .slice none 0 0] t (0, 0)))
    (C : ∀ w', Alike w w' → Calls Yba.prog 35 args w' fun e w'' => ∃ a, e = .returned a ∧ NatV w'' a m ∧ Below w'.heap.size w' w'') : SubS w z t args m n := by
  intro w' al
  refine ((mkHS hZ C).out w' al).mono ?_
  rintro e w'' ⟨ao, n', c, rfl, hv, h1, h2, h3, h4⟩
  have : n' = n := by
    rcases hv with ⟨h0, _, _, e⟩ | ⟨h0, _, _, e, _⟩
    · injection e with _ e; rw [e, hn, if_pos h0]
    · injection e with _ e; rw [e, hn, if_neg (by omega)]
  subst this
  exact ⟨ao, c, rfl, hv, h1, h2, h3, h4⟩

theorem quiet_of2 {P : Program} {f : FuncId} {args : Array Value} {w : World} {k n : Nat} {v : Value}
    (h : Calls P f args (w.drewN (k + n)) fun e w' => e = .returned v ∧ ∃ m, w' = (w.drewN (k + n)).drewN m) : Calls P f args (w.drewN (k + n)) fun e w'' => e = .returned v ∧ ∃ m, w'' = w.drewN (k + m) :=
  h.mono fun _ _ ⟨he, m, hm⟩ => ⟨he, n + m, by rw [hm, World.drewN_drewN, Nat.add_assoc]⟩

theorem putAll {w w1 : World} {z t m : Nat} {a : Value} (hZ : w1.heap[z]? = some (.cells #[.bool false, .slice none 0 0] t (0, 0))) (hv : Hid (NatV w1 a m)) (hb : Below w.heap.size w w1) (hzl : z < w.heap.size) :
    ∃ W, w1.setCell ⟨z, 1, none⟩ a = W ∧ W.heap[z]? = some (.cells #[.bool false, a] t (0, 0)) ∧ Hid (NatV W a m) ∧ Below z w W ∧ W.cell? ⟨z, 0, none⟩ = some (.bool false) ∧ W.cell? ⟨z, 1, none⟩ = some a ∧ W.frozen? ⟨z, 0, none⟩ = false := by
  obtain ⟨hW, hvW⟩ := put1 hZ hv.out
  exact ⟨_, rfl, hW, hvW, (bel_less hb (Nat.le_of_lt hzl)).setCell (p := ⟨z, 1, none⟩) (Nat.le_refl _) _, (cell_of_row hW).1, (cell_of_row hW).2, frozen_of_row _ z 0 _ t hW⟩

set_option maxHeartbeats 2000000 in
set_option maxRecDepth 100000 in
theorem subGe_walk (z p q t : Nat) (v : Int) (w : World) (s s1 : Bool) (n : Nat) (ao0 ao1 : Option Addr) (n0 c0 n1 c1 : Nat) (r : Int) (hr : ¬ r < 0) (hn : n = 0 ∨ n = 1) (hs1 : s1 = decide (v < 0)) (hss : s1 = (decide (n = 1) && s))
    (HS : Hid (SubS w z t #[.slice none 0 0, .slice ao0 n0 c0, .slice ao1 n1 c1] v.natAbs n))
    (HC : Hid (∀ w', Alike w w' → Calls Yba.prog 32 #[.slice ao0 n0 c0, .slice ao1 n1 c1] w' fun e w'' => e = .returned (.int .i64 r) ∧ ∃ m, w'' = w'.drewN m))
    (hz0 : w.cell? ⟨z, 0, none⟩ = some (.bool false)) (hz1 : w.cell? ⟨z, 1, none⟩ = some (.slice none 0 0)) (hp0 : w.cell? ⟨p, 0, none⟩ = some (.bool s)) (hp1 : w.cell? ⟨p, 1, none⟩ = some (.slice ao0 n0 c0))
    (hq0 : w.cell? ⟨q, 0, none⟩ = some (.bool s)) (hq1 : w.cell? ⟨q, 1, none⟩ = some (.slice ao1 n1 c1)) :
    Calls Yba.prog 28 #[.pointer (some ⟨z, 0, none⟩), .pointer (some ⟨p, 0, none⟩), .pointer (some ⟨q, 0, none⟩)] w fun e w' => e = .returned (.pointer (some ⟨z, 0, none⟩)) ∧ BigV w' z v ∧ Below z w w' := by
  have hzl := World.block_lt_of_cell? w ⟨z, 0, none⟩ hz0
  have Hs : Hid (s1 = decide (v < 0)) := hs1
  clear hs1
  rcases hn with rfl | rfl
  all_goals
    simp only [decide_true, Bool.true_and, show decide (0 = 1) = false from rfl, Bool.false_and] at hss
    subst hss
    go_enter Yba.func28, Yba.ntmps28
    go_wp2
    go_quiet (fail)
    go_wp2
    go_quiet ((go_at_call 32; exact quiet_of2 (HC.out (w.drewN _) ⟨rfl, rfl, rfl, rfl⟩)))
    go_wp2
    go_region_with (go_at_call 35; refine (HS.out (w.drewN _) ⟨rfl, rfl, rfl, rfl⟩).mono ?_; rintro e w1 ⟨ao, c, rfl, hv, hb, hc1, hf1, hZ1⟩)
    all_goals
      obtain ⟨W, hE, hW, HvW, hbW, hzW, hzW1, hfW⟩ := putAll hZ1 hv hb hzl
      rw [hE]
      clear hv hc1 hf1 hZ1 hE
      go_wp2
      go_ret
      exact ⟨rfl, put0 hW HvW.out Hs.out, hbW.setCell (p := ⟨z, 0, none⟩) (Nat.le_refl _) _⟩

set_option maxHeartbeats 2000000 in
set_option maxRecDepth 100000 in
theorem subLt_walk (z p q t : Nat) (v : Int) (w : World) (s s1 : Bool) (n : Nat) (ao0 ao1 : Option Addr) (n0 c0 n1 c1 : Nat) (r : Int) (hr : r < 0) (hn : n = 0 ∨ n = 1) (hs1 : s1 = decide (v < 0)) (hss : s1 = (decide (n = 1) && !s))
    (HS : Hid (SubS w z t #[.slice none 0 0, .slice ao1 n1 c1, .slice ao0 n0 c0] v.natAbs n))
    (HC : Hid (∀ w', Alike w w' → Calls Yba.prog 32 #[.slice ao0 n0 c0, .slice ao1 n1 c1] w' fun e w'' => e = .returned (.int .i64 r) ∧ ∃ m, w'' = w'.drewN m))
    (hz0 : w.cell? ⟨z, 0, none⟩ = some (.bool false)) (hz1 : w.cell? ⟨z, 1, none⟩ = some (.slice none 0 0)) (hp0 : w.cell? ⟨p, 0, none⟩ = some (.bool s)) (hp1 : w.cell? ⟨p, 1, none⟩ = some (.slice ao0 n0 c0))
    (hq0 : w.cell? ⟨q, 0, none⟩ = some (.bool s)) (hq1 : w.cell? ⟨q, 1, none⟩ = some (.slice ao1 n1 c1)) :
    Calls Yba.prog 28 #[.pointer (some ⟨z, 0, none⟩), .pointer (some ⟨p, 0, none⟩), .pointer (some ⟨q, 0, none⟩)] w fun e w' => e = .returned (.pointer (some ⟨z, 0, none⟩)) ∧ BigV w' z v ∧ Below z w w' := by
  have hzl := World.block_lt_of_cell? w ⟨z, 0, none⟩ hz0
  have Hs : Hid (s1 = decide (v < 0)) := hs1
  clear hs1
  rcases hn with rfl | rfl
  all_goals
    simp only [decide_true, Bool.true_and, show decide (0 = 1) = false from rfl, Bool.false_and] at hss
    subst hss
    go_enter Yba.func28, Yba.ntmps28
    go_wp2
    go_quiet (fail)
    go_wp2
    go_quiet ((go_at_call 32; exact quiet_of2 (HC.out (w.drewN _) ⟨rfl, rfl, rfl, rfl⟩)))
    go_wp2
    go_region_with (go_at_call 35; refine (HS.out (w.drewN _) ⟨rfl, rfl, rfl, rfl⟩).mono ?_; rintro e w1 ⟨ao, c, rfl, hv, hb, hc1, hf1, hZ1⟩)
    all_goals
      obtain ⟨W, hE, hW, HvW, hbW, hzW, hzW1, hfW⟩ := putAll hZ1 hv hb hzl
      rw [hE]
      clear hv hc1 hf1 hZ1 hE
      go_wp2
      go_ret
      exact ⟨rfl, put0 hW HvW.out Hs.out, hbW.setCell (p := ⟨z, 0, none⟩) (Nat.le_refl _) _⟩

/-- (*Int).Sub into a fresh Int. -/
theorem intSub (z p q : Nat) (v u : Int) (w : World) (hvu : v.natAbs + u.natAbs < 18446744073709551616) (hz : ZeroZ w z) (h : BigV w p v) (h' : BigV w q u) :
    Calls Yba.prog 28 #[.pointer (some ⟨z, 0, none⟩), .pointer (some ⟨p, 0, none⟩), .pointer (some ⟨q, 0, none⟩)] w fun e w' => e = .returned (.pointer (some ⟨z, 0, none⟩)) ∧ BigV w' z (v - u) ∧ Below z w w' := by
  by_cases hss : decide (u < 0) = !decide (v < 0)
  · exact intSub_diff z p q v u w _ _ rfl rfl hss hvu hz h h'
  · have hss' : decide (u < 0) = decide (v < 0) := by
      cases h1 : decide (u < 0) <;> cases h2 : decide (v < 0) <;> simp_all
    have hsg : (v < 0 ∧ u < 0) ∨ (¬ v < 0 ∧ ¬ u < 0) := by
      by_cases hv : v < 0
      · rw [decide_eq_true hv] at hss'
        exact .inl ⟨hv, of_decide_eq_true hss'⟩
      · rw [decide_eq_false hv] at hss'
        exact .inr ⟨hv, of_decide_eq_false hss'⟩
    obtain ⟨t, hZ⟩ := hz
    obtain ⟨a, t', hP, ha⟩ := h
    obtain ⟨b, t'', hQ, hb⟩ := h'
    rw [hss'] at hQ
    obtain ⟨ao0, n0, c0, rfl⟩ := ha.slice
    obtain ⟨ao1, n1, c1, rfl⟩ := hb.slice
    have HC : Hid (∀ w', Alike w w' → Calls Yba.prog 32 #[.slice ao0 n0 c0, .slice ao1 n1 c1] w' fun e w'' => e = .returned (.int .i64 (cmp3 v.natAbs u.natAbs)) ∧ ∃ m, w'' = w'.drewN m) :=
      fun w' al => cmp_any _ _ v.natAbs u.natAbs w' (ha.below (al.bel _)) (hb.below (al.bel _))
    have hn : ∀ m : Nat, (if m = 0 then 0 else 1) = 0 ∨ (if m = 0 then 0 else 1) = 1 := fun m => by split <;> simp
    by_cases hge : u.natAbs ≤ v.natAbs
    · have e : v.natAbs - u.natAbs = (v - u).natAbs := by omega
      have HS : SubS w z t #[.slice none 0 0, .slice ao0 n0 c0, .slice ao1 n1 c1] (v.natAbs - u.natAbs) (if (v.natAbs - u.natAbs) = 0 then 0 else 1) :=
        mkSubS _ rfl hZ fun w' al => sub_any _ _ v.natAbs u.natAbs w' hge (by omega) (ha.below (al.bel _)) (hb.below (al.bel _))
      rw [e] at HS
      refine subGe_walk z p q t (v - u) w (decide (v < 0)) (decide (v - u < 0)) _ ao0 ao1 n0 c0 n1 c1 (cmp3 v.natAbs u.natAbs) ?_ (hn _) rfl ?_ HS HC (cell_of_row hZ).1 (cell_of_row hZ).2 (cell_of_row hP).1 (cell_of_row hP).2 (cell_of_row hQ).1 (cell_of_row hQ).2
      · unfold cmp3; rw [if_neg (by omega)]; split <;> omega
      · by_cases h0 : (v - u).natAbs = 0
        · rw [if_pos h0, decide_eq_false (by omega)]; rfl
        · rw [if_neg h0]
          rcases hsg with ⟨h1, h2⟩ | ⟨h1, h2⟩
          · rw [decide_eq_true (show v - u < 0 by omega), decide_eq_true h1]; rfl
          · rw [decide_eq_false (show ¬ v - u < 0 by omega), decide_eq_false h1]; rfl
    · have e : u.natAbs - v.natAbs = (v - u).natAbs := by omega
      have HS : SubS w z t #[.slice none 0 0, .slice ao1 n1 c1, .slice ao0 n0 c0] (u.natAbs - v.natAbs) (if (u.natAbs - v.natAbs) = 0 then 0 else 1) :=
        mkSubS _ rfl hZ fun w' al => sub_any _ _ u.natAbs v.natAbs w' (by omega) (by omega) (hb.below (al.bel _)) (ha.below (al.bel _))
      rw [e] at HS
      refine subLt_walk z p q t (v - u) w (decide (v < 0)) (decide (v - u < 0)) _ ao0 ao1 n0 c0 n1 c1 (cmp3 v.natAbs u.natAbs) ?_ (hn _) rfl ?_ HS HC (cell_of_row hZ).1 (cell_of_row hZ).2 (cell_of_row hP).1 (cell_of_row hP).2 (cell_of_row hQ).1 (cell_of_row hQ).2
      · unfold cmp3; rw [if_pos (by omega)]; omega
      · rw [if_neg (by omega)]
        rcases hsg with ⟨h1, h2⟩ | ⟨h1, h2⟩
        · rw [decide_eq_false (show ¬ v - u < 0 by omega), decide_eq_true h1]; rfl
        · rw [decide_eq_true (show v - u < 0 by omega), decide_eq_false h1]; rfl

end Go.Proofs.Ybulkbxso
