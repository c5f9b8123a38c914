/-
  (*Int).Neg, Sub, Cmp at numbers of at most one word.
-/
import Derived.Test.YbulkbxsoInt
namespace Go.Proofs.Ybulkbxso
open Go.RowKit
set_option linter.unusedVariables false

theorem natAbs_neg' (v : Int) : (-v).natAbs = v.natAbs := by omega

set_option maxHeartbeats 1000000 in
set_option maxRecDepth 100000 in
theorem intNeg (z p : Nat) (v : Int) (w : World) (hzp : ¬ z = p) (hz : ZeroZ w z) (h : BigV w p v) :
    Calls Yba.prog 26 #[.pointer (some ⟨z, 0, none⟩), .pointer (some ⟨p, 0, none⟩)] w fun e w' => e = .returned (.pointer (some ⟨z, 0, none⟩)) ∧ BigV w' z (-v) ∧ Below z w w' := by
  have HS0 := intSet z p v w hzp hz h
  have hn : ∃ n : Nat, n = if v = 0 then 0 else 1 := ⟨_, rfl⟩
  obtain ⟨n, hn⟩ := hn
  have HS : Hid (Calls Yba.prog 33 #[.pointer (some ⟨z, 0, none⟩), .pointer (some ⟨p, 0, none⟩)] w fun e W => ∃ ao c t, e = .returned (.pointer (some ⟨z, 0, none⟩)) ∧ W.heap[z]? = some (.cells #[.bool (decide (v < 0)), .slice ao n c] t (0, 0)) ∧ Below z w W
      ∧ W.cell? ⟨z, 0, none⟩ = some (.bool (decide (v < 0))) ∧ W.cell? ⟨z, 1, none⟩ = some (.slice ao n c) ∧ W.frozen? ⟨z, 0, none⟩ = false ∧ Hid (NatV W (.slice ao n c) v.natAbs)) := by
    refine HS0.mono ?_
    rintro e W ⟨rfl, ⟨a, t, hW, ha⟩, hbW⟩
    have ha' := ha
    rcases ha with ⟨h0, ao, c, rfl⟩ | ⟨h0, b, c, rfl, h1, hc⟩
    · have h1 : v = 0 := by omega
      rw [if_pos h1] at hn
      subst hn
      exact ⟨ao, c, t, rfl, hW, hbW, (cell_of_row hW).1, (cell_of_row hW).2, frozen_of_row W z 0 _ t hW, ha'⟩
    · rw [if_neg (by omega)] at hn
      subst hn
      exact ⟨_, c, t, rfl, hW, hbW, (cell_of_row hW).1, (cell_of_row hW).2, frozen_of_row W z 0 _ t hW, ha'⟩
  clear hzp hz h HS0
  by_cases hv0 : v = 0
  · rw [if_pos hv0] at hn
    subst hn hv0
    rw [decide_eq_false (by omega)] at HS
    go_enter Yba.func26, Yba.ntmps26
    go_wp2_with (go_at_call 33; refine HS.out.mono ?_; rintro e W ⟨ao, c, t, rfl, hW, hbW, hz0, hz1, hf, ha⟩)
    go_ret
    exact ⟨rfl, put0 hW ha.out (by simp), hbW.setCell (p := ⟨z, 0, none⟩) (Nat.le_refl _) _⟩
  · rw [if_neg hv0] at hn
    subst hn
    obtain ⟨s, hs⟩ : ∃ s, s = decide (v < 0) := ⟨_, rfl⟩
    have Hs : Hid ((!s) = decide (-v < 0)) := by
      rw [hs]
      by_cases hv : v < 0
      · rw [decide_eq_true hv, decide_eq_false (by omega)]; rfl
      · rw [decide_eq_false hv, decide_eq_true (by omega)]; rfl
    rw [← hs] at HS
    clear hs hv0
    go_enter Yba.func26, Yba.ntmps26
    go_wp2_with (go_at_call 33; refine HS.out.mono ?_; rintro e W ⟨ao, c, t, rfl, hW, hbW, hz0, hz1, hf, ha⟩)
    go_ret
    exact ⟨rfl, put0 hW (by rw [natAbs_neg']; exact ha.out) Hs.out, hbW.setCell (p := ⟨z, 0, none⟩) (Nat.le_refl _) _⟩

/-- The same memory. -/
def Alike (w w' : World) : Prop := w'.os = w.os ∧ w'.tape = w.tape ∧ w'.output = w.output ∧ w'.heap = w.heap
theorem Alike.bel {w w' : World} (h : Alike w w') (B : Nat) : Below B w w' := ⟨h.1, h.2.1, h.2.2.1, by rw [h.2.2.2]; exact Nat.le_refl _, fun _ _ => by rw [h.2.2.2]⟩

theorem mkHS {f : FuncId} {args : Array Value} {m z t : Nat} {w : World} (hZ : w.heap[z]? = some (.cells #[.bool false, .slice none 0 0] t (0, 0)))
    (C : ∀ w', Alike w w' → Calls Yba.prog f args w' fun e w'' => ∃ a, e = .returned a ∧ NatV w'' a m ∧ Below w'.heap.size w' w'') :
    Hid (∀ w', Alike w w' → Calls Yba.prog f args w' fun e w'' => ∃ ao n c, e = .returned (.slice ao n c) ∧ NatV w'' (.slice ao n c) m ∧ Below w.heap.size w w'' ∧ w''.cell? ⟨z, 1, none⟩ = some (.slice none 0 0) ∧ w''.frozen? ⟨z, 1, none⟩ = false
      ∧ w''.heap[z]? = some (.cells #[.bool false, .slice none 0 0] t (0, 0))) := by
  intro w' ha
  refine (C w' ha).mono ?_
  rintro e w'' ⟨a, he, hv, hb⟩
  obtain ⟨ao, n, c, rfl⟩ := hv.slice
  have hb' : Below w.heap.size w w'' := (ha.bel _).trans (by rw [← ha.2.2.2]; exact hb)
  have hzl := World.block_lt_of_cell? w ⟨z, 0, none⟩ (cell_of_row hZ).1
  have hZ' := (hb'.block z hzl).trans hZ
  exact ⟨ao, n, c, he, hv, hb', (cell_of_row hZ').2, frozen_of_row _ _ _ _ _ hZ', hZ'⟩

set_option maxHeartbeats 2000000 in
set_option maxRecDepth 100000 in
theorem intSub_diff (z p q : Nat) (v u : Int) (w : World) (s s' : Bool) (hs : s = decide (v < 0)) (hs' : s' = decide (u < 0)) (hss : s' = !s) (hvu : v.natAbs + u.natAbs < 18446744073709551616) (hz : ZeroZ w z) (h : BigV w p v) (h' : BigV w q u) :
    Calls Yba.prog 28 #[.pointer (some ⟨z, 0, none⟩), .pointer (some ⟨p, 0, none⟩), .pointer (some ⟨q, 0, none⟩)] w fun e w' => e = .returned (.pointer (some ⟨z, 0, none⟩)) ∧ BigV w' z (v - u) ∧ Below z w w' := by
  have hm : v.natAbs + u.natAbs = (v - u).natAbs ∧ 0 < (v - u).natAbs ∧ s = decide (v - u < 0) := by
    subst hs hs'
    by_cases hv : v < 0
    · rw [decide_eq_true hv] at hss ⊢
      have hu : ¬ u < 0 := by simpa using hss
      exact ⟨by omega, by omega, by rw [decide_eq_true (by omega)]⟩
    · rw [decide_eq_false hv] at hss ⊢
      have hu : u < 0 := by simpa using hss
      exact ⟨by omega, by omega, by rw [decide_eq_false (by omega)]⟩
  obtain ⟨hm1, hm2, hm3⟩ := hm
  obtain ⟨t, hZ⟩ := hz
  obtain ⟨a, t', hP, ha⟩ := h
  obtain ⟨b, t'', hQ, hb⟩ := h'
  rw [← hs] at hP
  rw [← hs', hss] at hQ
  obtain ⟨ao0, n0, c0, rfl⟩ := ha.slice
  obtain ⟨ao1, n1, c1, rfl⟩ := hb.slice
  have HS := mkHS (f := 34) (args := #[.slice none 0 0, .slice ao0 n0 c0, .slice ao1 n1 c1]) hZ fun w' al => add_any (.slice ao0 n0 c0) (.slice ao1 n1 c1) v.natAbs u.natAbs w' hvu (ha.below (al.bel _)) (hb.below (al.bel _))
  rw [hm1] at HS
  have hz0 := (cell_of_row hZ).1
  have hz1 := (cell_of_row hZ).2
  have hp0 := (cell_of_row hP).1
  have hp1 := (cell_of_row hP).2
  have hq0 := (cell_of_row hQ).1
  have hq1 := (cell_of_row hQ).2
  have hzl := World.block_lt_of_cell? w ⟨z, 0, none⟩ hz0
  have HM : Hid (0 < (v - u).natAbs) := hm2
  have Hs : Hid (s = decide (v - u < 0)) := hm3
  clear hZ hP hQ ha hb hm1 hm2 hm3 hs hs' hss hvu
  cases s
  all_goals
    simp only [Bool.not_false, Bool.not_true] at hq0
    go_enter Yba.func28, Yba.ntmps28
    go_wp2
    go_quiet (fail)
    go_wp2
    go_region_with (go_at_call 34; refine (HS.out (w.drewN _) ⟨rfl, rfl, rfl, rfl⟩).mono ?_; rintro e w1 ⟨ao, n, c, rfl, hv, hb, hc1, hf1, hZ1⟩)
    all_goals
      obtain ⟨hW, hvW⟩ := put1 hZ1 hv
      have hbW : Below z w (w1.setCell ⟨z, 1, none⟩ (.slice ao n c)) := (bel_less hb (Nat.le_of_lt hzl)).setCell (p := ⟨z, 1, none⟩) (Nat.le_refl _) _
      generalize w1.setCell ⟨z, 1, none⟩ (.slice ao n c) = W at hW hvW hbW ⊢
      have hzW := (cell_of_row hW).1
      have hzW1 := (cell_of_row hW).2
      have hfW := frozen_of_row W z 0 _ t hW
      have HvW : Hid (NatV W (.slice ao n c) (v - u).natAbs) := hvW
      have h1 : n = 1 := by
        rcases hvW with ⟨h0, _⟩ | ⟨_, _, _, e, _⟩
        · have := HM.out; omega
        · injection e
      clear hvW
      subst h1
      go_wp2
      go_ret
      exact ⟨rfl, put0 hW HvW.out Hs.out, hbW.setCell (p := ⟨z, 0, none⟩) (Nat.le_refl _) _⟩

end Go.Proofs.Ybulkbxso
