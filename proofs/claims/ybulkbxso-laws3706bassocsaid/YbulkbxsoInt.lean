/-
  (nat).cmp; (*Int).Set, Neg, Sub, Cmp at numbers of at most one word.
-/
import Derived.Test.YbulkbxsoNat2
import Derived.LaidEqlPtr
namespace Go.Proofs.Ybulkbxso
open Go.RowKit
set_option linter.unusedVariables false

theorem NatV.slice {w : World} {v : Value} {m : Nat} (h : NatV w v m) : ∃ ao n c, v = .slice ao n c := by
  rcases h with ⟨_, ao, c, rfl⟩ | ⟨_, b, c, rfl, _⟩
  · exact ⟨_, _, _, rfl⟩
  · exact ⟨_, _, _, rfl⟩
theorem dN2 (w : World) (a b : Nat) : (w.drewN a).drewN b = w.drewN (a + b) := by rw [World.drewN_drewN]
theorem dN3 (w : World) (a b c : Nat) : ((w.drewN a).drewN b).drewN c = w.drewN (a + b + c) := by rw [dN2, dN2, Nat.add_assoc]

def cmp3 (x y : Int) : Int := if x < y then -1 else if y < x then 1 else 0

set_option maxHeartbeats 1000000 in
set_option maxRecDepth 100000 in
theorem cmp00 (ao : Option Addr) (c : Nat) (ao' : Option Addr) (c' : Nat) (w : World) :
    Calls Yba.prog 32 #[.slice ao 0 c, .slice ao' 0 c'] w fun e w' => e = .returned (.int .i64 0) ∧ ∃ m, w' = w.drewN m := by
  go_enter Yba.func32, Yba.ntmps32
  go_wp2
  go_ret
  exact ⟨rfl, 0, rfl⟩
set_option maxHeartbeats 1000000 in
set_option maxRecDepth 100000 in
theorem cmp10 (a : Option Addr) (c : Nat) (ao' : Option Addr) (c' : Nat) (w : World) :
    Calls Yba.prog 32 #[.slice a 1 c, .slice ao' 0 c'] w fun e w' => e = .returned (.int .i64 1) ∧ ∃ m, w' = w.drewN m := by
  go_enter Yba.func32, Yba.ntmps32
  go_wp2
  go_ret
  exact ⟨rfl, 0, rfl⟩
set_option maxHeartbeats 1000000 in
set_option maxRecDepth 100000 in
theorem cmp01 (a : Option Addr) (c : Nat) (ao' : Option Addr) (c' : Nat) (w : World) :
    Calls Yba.prog 32 #[.slice ao' 0 c', .slice a 1 c] w fun e w' => e = .returned (.int .i64 (-1)) ∧ ∃ m, w' = w.drewN m := by
  go_enter Yba.func32, Yba.ntmps32
  go_wp2
  go_ret
  exact ⟨rfl, 0, rfl⟩
set_option maxHeartbeats 1000000 in
set_option maxRecDepth 100000 in
theorem cmp11lt (b c b' c' : Nat) (x y : Nat) (w : World) (hlt : (x : Int) < (y : Int)) (hc : w.cell? ⟨b, 0, none⟩ = some (.int .u64 (x : Int))) (hc' : w.cell? ⟨b', 0, none⟩ = some (.int .u64 (y : Int))) :
    Calls Yba.prog 32 #[.slice (some ⟨b, 0, none⟩) 1 c, .slice (some ⟨b', 0, none⟩) 1 c'] w fun e w' => e = .returned (.int .i64 (-1)) ∧ ∃ m, w' = w.drewN m := by
  have hd : decide ((x : Int) < (y : Int)) = true := decide_eq_true hlt
  go_enter Yba.func32, Yba.ntmps32
  go_wp2
  refine wp_loop_rounds 1 ?_
  rw [rounds_succ]
  go_wp2
  go_quiet (fail)
  go_wp2
  go_quiet (fail)
  go_wp2
  go_ret
  exact ⟨rfl, _, dN2 _ _ _⟩
set_option maxHeartbeats 1000000 in
set_option maxRecDepth 100000 in
theorem cmp11gt (b c b' c' : Nat) (x y : Nat) (w : World) (hlt : (y : Int) < (x : Int)) (hc : w.cell? ⟨b, 0, none⟩ = some (.int .u64 (x : Int))) (hc' : w.cell? ⟨b', 0, none⟩ = some (.int .u64 (y : Int))) :
    Calls Yba.prog 32 #[.slice (some ⟨b, 0, none⟩) 1 c, .slice (some ⟨b', 0, none⟩) 1 c'] w fun e w' => e = .returned (.int .i64 1) ∧ ∃ m, w' = w.drewN m := by
  have hn : ¬ ((x : Int) < (y : Int)) := by omega
  have hd : decide ((y : Int) < (x : Int)) = true := decide_eq_true hlt
  go_enter Yba.func32, Yba.ntmps32
  go_wp2
  refine wp_loop_rounds 1 ?_
  rw [rounds_succ]
  go_wp2
  go_quiet (fail)
  go_wp2
  go_quiet (fail)
  go_wp2
  go_quiet (fail)
  go_wp2
  go_ret
  exact ⟨rfl, _, dN3 _ _ _ _⟩
set_option maxHeartbeats 1000000 in
set_option maxRecDepth 100000 in
theorem cmp11eq (b c b' c' : Nat) (x : Nat) (w : World) (hc : w.cell? ⟨b, 0, none⟩ = some (.int .u64 (x : Int))) (hc' : w.cell? ⟨b', 0, none⟩ = some (.int .u64 (x : Int))) :
    Calls Yba.prog 32 #[.slice (some ⟨b, 0, none⟩) 1 c, .slice (some ⟨b', 0, none⟩) 1 c'] w fun e w' => e = .returned (.int .i64 0) ∧ ∃ m, w' = w.drewN m := by
  have hn : ¬ ((x : Int) < (x : Int)) := by omega
  go_enter Yba.func32, Yba.ntmps32
  go_wp2
  refine wp_loop_rounds 1 ?_
  rw [rounds_succ]
  go_wp2
  go_quiet (fail)
  go_wp2
  go_quiet (fail)
  go_wp2
  go_quiet (fail)
  go_wp2
  go_ret
  exact ⟨rfl, _, dN3 _ _ _ _⟩
/-- (nat).cmp. -/
theorem cmp_any (u v : Value) (x y : Nat) (w : World) (hu : NatV w u x) (hv : NatV w v y) :
    Calls Yba.prog 32 #[u, v] w fun e w' => e = .returned (.int .i64 (cmp3 x y)) ∧ ∃ m, w' = w.drewN m := by
  rcases hu with ⟨rfl, ao, c, rfl⟩ | ⟨hm, b, c, rfl, h1, hc⟩ <;> rcases hv with ⟨rfl, ao', c', rfl⟩ | ⟨hm', b', c', rfl, h1', hc'⟩
  · exact cmp00 ao c ao' c' w
  · have e : cmp3 ((0 : Nat) : Int) y = -1 := by unfold cmp3; rw [if_pos (by omega)]
    rw [e]; exact cmp01 _ c' ao c w
  · have e : cmp3 x ((0 : Nat) : Int) = 1 := by unfold cmp3; rw [if_neg (by omega)]; first | rw [if_pos (by omega)] | rw [if_neg (by omega)]
    rw [e]; exact cmp10 _ c ao' c' w
  · rcases Nat.lt_trichotomy x y with h | rfl | h
    · have e : cmp3 x y = -1 := by unfold cmp3; rw [if_pos (by omega)]
      rw [e]; exact cmp11lt b c b' c' x y w (by omega) hc hc'
    · have e : cmp3 x x = 0 := by unfold cmp3; rw [if_neg (by omega)]; first | rw [if_pos (by omega)] | rw [if_neg (by omega)]
      rw [e]; exact cmp11eq b c b' c' x w hc hc'
    · have e : cmp3 x y = 1 := by unfold cmp3; rw [if_neg (by omega)]; first | rw [if_pos (by omega)] | rw [if_neg (by omega)]
      rw [e]; exact cmp11gt b c b' c' x y w (by omega) hc hc'

/-- A fresh big.Int at the block z. -/
def ZeroZ (w : World) (z : Nat) : Prop := ∃ t, w.heap[z]? = some (.cells #[.bool false, .slice none 0 0] t (0, 0))

theorem run_neq_ptr_other {P : Program} (w : World) {tp te : TypeId} {j : TypeInfo} {a b : Addr} {ca cb : Array Value} {ta tb : TypeId} (hp : P.underlying tp = some (.pointer te)) (hte : P.info? te = some j) (hsz : j.size ≠ 0)
    (hne : a ≠ b) (ha : w.heap[a.block]? = some (.cells ca ta (0, 0))) (hb : w.heap[b.block]? = some (.cells cb tb (0, 0))) :
    (binOp .neq tp (.pointer (some a)) (.pointer (some b))).run P w = .ok (.bool true) w := by
  have h : ∀ d : Nat, (Op.equalIn (d + 1) tp (.pointer (some a)) (.pointer (some b))).run P w = .ok false w := fun d => by
    simp [Op.equalIn, run_underlying hp, sizeOf, typeInfo, hte, hsz, run_sameAddr_other w hne ha hb]
  simp only [binOp]
  simp [Op.equal, Op.maxDepth, h 9999]

theorem size60 : ∃ j, Yba.prog.info? 60 = some j ∧ j.size ≠ 0 := by
  have h : (Yba.prog.info? 60).map (·.size) = some 2 := by kernel_rfl
  obtain ⟨j, h1, h2⟩ := Option.map_eq_some_iff.mp h
  exact ⟨j, h1, by rw [h2]; decide⟩

theorem NatV.put {w : World} {v : Value} {m z i : Nat} {u : Value} {s : Bool} (h : NatV w v m) (hz : w.cell? ⟨z, 0, none⟩ = some (.bool s)) : NatV (w.setCell ⟨z, i, none⟩ u) v m := by
  rcases h with h | ⟨h1, b, c, h2, h3, h4⟩
  · exact .inl h
  · refine .inr ⟨h1, b, c, h2, h3, ?_⟩
    rw [World.cell?_setCell_other _ _ _ _ (by intro e; injection e with e _; subst e; rw [h4] at hz; cases hz)]
    exact h4
theorem cell_of_row {w : World} {z t : Nat} {x y : Value} (h : w.heap[z]? = some (.cells #[x, y] t (0, 0))) : w.cell? ⟨z, 0, none⟩ = some x ∧ w.cell? ⟨z, 1, none⟩ = some y := ⟨by simp [World.cell?, h], by simp [World.cell?, h]⟩
theorem bel_less {B B' : Nat} {w w' : World} (h : Below B w w') (hB : B' ≤ B) : Below B' w w' := ⟨h.os, h.tape, h.output, h.size, fun k hk => h.block k (by omega)⟩

/-- The world behind z.abs = a: what lies at z. -/
theorem put1 {w : World} {z t : Nat} {a : Value} {m : Nat} (h : w.heap[z]? = some (.cells #[.bool false, .slice none 0 0] t (0, 0))) (ha : NatV w a m) :
    (w.setCell ⟨z, 1, none⟩ a).heap[z]? = some (.cells #[.bool false, a] t (0, 0)) ∧ NatV (w.setCell ⟨z, 1, none⟩ a) a m :=
  ⟨heap_setCell_same w z 1 _ t a h, ha.put (cell_of_row h).1⟩
/-- .. and behind z.neg = s. -/
theorem put0 {w : World} {z t : Nat} {a : Value} {s0 : Bool} {s : Bool} {v : Int} (h : w.heap[z]? = some (.cells #[.bool s0, a] t (0, 0))) (ha : NatV w a v.natAbs) (hs : s = decide (v < 0)) :
    BigV (w.setCell ⟨z, 0, none⟩ (.bool s)) z v := by
  subst hs
  exact ⟨a, t, heap_setCell_same w z 0 _ t _ h, ha.put (cell_of_row h).1⟩

set_option maxHeartbeats 1000000 in
set_option maxRecDepth 100000 in
theorem intSet (z p : Nat) (v : Int) (w : World) (hzp : ¬ z = p) (hz : ZeroZ w z) (h : BigV w p v) :
    Calls Yba.prog 33 #[.pointer (some ⟨z, 0, none⟩), .pointer (some ⟨p, 0, none⟩)] w fun e w' => e = .returned (.pointer (some ⟨z, 0, none⟩)) ∧ BigV w' z v ∧ Below z w w' := by
  obtain ⟨t, hZ⟩ := hz
  obtain ⟨a, t', hP, ha⟩ := h
  obtain ⟨ao0, n0, c0, rfl⟩ := ha.slice
  obtain ⟨j, hj1, hj2⟩ := size60
  have hne : ∀ w' : World, w'.heap = w.heap → (binOp .neq 22 (.pointer (some ⟨z, 0, none⟩)) (.pointer (some ⟨p, 0, none⟩))).run Yba.prog w' = .ok (.bool true) w' := fun w' e => run_neq_ptr_other w' Yba.underlying22 hj1 hj2 (by intro h; injection h with h _; exact hzp h) (by rw [e]; exact hZ) (by rw [e]; exact hP)
  have hz0 : w.cell? ⟨z, 0, none⟩ = some (.bool false) := by simp [World.cell?, hZ]
  have hz1 : w.cell? ⟨z, 1, none⟩ = some (.slice none 0 0) := by simp [World.cell?, hZ]
  have hp0 : w.cell? ⟨p, 0, none⟩ = some (.bool (decide (v < 0))) := by simp [World.cell?, hP]
  have hp1 : w.cell? ⟨p, 1, none⟩ = some (.slice ao0 n0 c0) := by simp [World.cell?, hP]
  have hzl := World.block_lt_of_cell? w ⟨z, 0, none⟩ hz0
  have hpl := World.block_lt_of_cell? w ⟨p, 0, none⟩ hp0
  have HS : Hid (Calls Yba.prog 36 #[.slice none 0 0, .slice ao0 n0 c0] w.drew fun e w' => ∃ ao n c w1, e = .returned (.slice ao n c) ∧ w' = w1 ∧ NatV w1 (.slice ao n c) v.natAbs ∧ Below w.heap.size w w1 ∧ w1.cell? ⟨z, 1, none⟩ = some (.slice none 0 0) ∧ w1.frozen? ⟨z, 1, none⟩ = false
      ∧ w1.heap[z]? = some (.cells #[.bool false, .slice none 0 0] t (0, 0)) ∧ w1.cell? ⟨p, 0, none⟩ = some (.bool (decide (v < 0)))) := by
    have hn : NatV w.drew (.slice ao0 n0 c0) v.natAbs := ha.below (Below.refl _ _).drew
    refine (set_any (.slice ao0 n0 c0) v.natAbs w.drew hn).mono ?_
    rintro e w' ⟨a', he, hv, hb⟩
    have hb' : Below w.heap.size w w' := (Below.refl _ _).drew.trans hb
    have hZ' := (hb'.block z hzl).trans hZ
    obtain ⟨ao, n, c, rfl⟩ := hv.slice
    exact ⟨ao, n, c, w', he, rfl, hv, hb', (hb'.cell (p := ⟨z, 1, none⟩) hzl).trans hz1, frozen_of_row _ _ _ _ _ hZ', hZ', (hb'.cell (p := ⟨p, 0, none⟩) hpl).trans hp0⟩
  have HN := hne w rfl
  obtain ⟨s, hs⟩ : ∃ s, s = decide (v < 0) := ⟨_, rfl⟩
  clear hne ha hZ hP hj1 hj2
  have Hs : Hid (s = decide (v < 0)) := hs
  rw [← hs] at hp0 HS
  clear hs
  go_enter Yba.func33, Yba.ntmps33
  go_wp2_with (simp only [HN])
  go_region_with (go_at_call 36; refine HS.out.mono ?_; rintro e w1 ⟨ao, n, c, w2, rfl, rfl, hv, hb, hc1, hf1, hZ1, hcp⟩)
  all_goals
    obtain ⟨hW, hvW⟩ := put1 hZ1 hv
    have hbW : Below z w (w1.setCell ⟨z, 1, none⟩ (.slice ao n c)) := (bel_less hb (Nat.le_of_lt hzl)).setCell (p := ⟨z, 1, none⟩) (Nat.le_refl _) _
    have hpW : (w1.setCell ⟨z, 1, none⟩ (.slice ao n c)).cell? ⟨p, 0, none⟩ = some (.bool s) := by
      rw [World.cell?_setCell_other _ _ _ _ (by intro e; injection e with e _; exact hzp e)]
      exact hcp
    generalize w1.setCell ⟨z, 1, none⟩ (.slice ao n c) = W at hW hvW hbW hpW ⊢
    have hzW := (cell_of_row hW).1
    have hfW := frozen_of_row W z 0 _ t hW
    go_wp2
    go_ret
    exact ⟨rfl, put0 hW hvW Hs.out, hbW.setCell (p := ⟨z, 0, none⟩) (Nat.le_refl _) _⟩
end Go.Proofs.Ybulkbxso
