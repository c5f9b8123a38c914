/-
  (nat).norm, add, sub, cmp at numbers of at most one word.
-/
import Derived.Test.YbulkbxsoNat
import Derived.Deep.RegionWith
namespace Go.Proofs.Ybulkbxso
open Go.RowKit
set_option linter.unusedVariables false

theorem bel_drewN (B : Nat) (w : World) (k : Nat) : Below B w (w.drewN k) := ⟨rfl, rfl, rfl, Nat.le_refl _, fun _ _ => rfl⟩

set_option maxHeartbeats 1000000 in
set_option maxRecDepth 100000 in
theorem subVV1 (Z cz b c b' c' : Nat) (x y : Nat) (w : World) (z : Value) (hxy : y ≤ x) (hx : x < 18446744073709551616) (hz : w.cell? ⟨Z, 0, none⟩ = some z) (hf : w.frozen? ⟨Z, 0, none⟩ = false)
    (hc : w.cell? ⟨b, 0, none⟩ = some (.int .u64 (x : Int))) (hc' : w.cell? ⟨b', 0, none⟩ = some (.int .u64 (y : Int))) :
    Calls Yba.prog 20 #[.slice (some ⟨Z, 0, none⟩) 1 cz, .slice (some ⟨b, 0, none⟩) 1 c, .slice (some ⟨b', 0, none⟩) 1 c'] w fun e w' => ∃ k, e = .returned (.int .u64 0) ∧ w' = (w.drewN k).setCell ⟨Z, 0, none⟩ (.int .u64 ((x - y : Nat) : Int)) := by
  have HA := fun w => bitsSub x y hxy hx w
  obtain ⟨s, hs⟩ : ∃ s, s = x - y := ⟨_, rfl⟩
  rw [← hs] at HA ⊢
  clear hs hxy hx
  go_enter Yba.func20, Yba.ntmps20
  go_wp2
  refine wp_loop_rounds 2 ?_
  rw [rounds_succ]
  go_wp2
  go_quiet ((go_at_call 44; exact Calls.quiet_of_same (HA _)))
  go_wp2
  rw [rounds_succ]
  go_wp2
  go_ret
  exact ⟨_, rfl, rfl⟩

set_option maxHeartbeats 1000000 in
set_option maxRecDepth 100000 in
theorem norm2 (Z cz : Nat) (s : Nat) (w : World) (hs : 0 < (s : Int)) (hcz : ¬ cz = 0) (hcz2 : 2 ≤ (cz : Int)) (h0 : w.cell? ⟨Z, 0, none⟩ = some (.int .u64 (s : Int))) (h1 : w.cell? ⟨Z, 1, none⟩ = some (.int .u64 0)) :
    Calls Yba.prog 40 #[.slice (some ⟨Z, 0, none⟩) 2 cz] w fun e w' => e = .returned (.slice (some ⟨Z, 0, none⟩) 1 cz) ∧ w' = w := by
  have hs0 : ((s : Int) == 0) = false := by simp; omega
  go_enter Yba.func40, Yba.ntmps40
  go_wp2
  refine wp_loop_rounds 2 ?_
  rw [rounds_succ]
  go_wp2
  rw [rounds_succ]
  go_wp2
  go_ret
  exact ⟨rfl, rfl⟩

set_option maxHeartbeats 1000000 in
set_option maxRecDepth 100000 in
theorem norm1 (Z cz : Nat) (s : Nat) (w : World) (hs : 0 < (s : Int)) (hcz : ¬ cz = 0) (hcz2 : 1 ≤ (cz : Int)) (h0 : w.cell? ⟨Z, 0, none⟩ = some (.int .u64 (s : Int))) :
    Calls Yba.prog 40 #[.slice (some ⟨Z, 0, none⟩) 1 cz] w fun e w' => e = .returned (.slice (some ⟨Z, 0, none⟩) 1 cz) ∧ w' = w := by
  have hs0 : ((s : Int) == 0) = false := by simp; omega
  go_enter Yba.func40, Yba.ntmps40
  go_wp2
  refine wp_loop_rounds 1 ?_
  rw [rounds_succ]
  go_wp2
  go_ret
  exact ⟨rfl, rfl⟩

set_option maxHeartbeats 1000000 in
set_option maxRecDepth 100000 in
theorem norm0 (Z cz : Nat) (w : World) (hcz : ¬ cz = 0) (hcz2 : 1 ≤ (cz : Int)) (h0 : w.cell? ⟨Z, 0, none⟩ = some (.int .u64 0)) :
    Calls Yba.prog 40 #[.slice (some ⟨Z, 0, none⟩) 1 cz] w fun e w' => e = .returned (.slice (some ⟨Z, 0, none⟩) 0 cz) ∧ w' = w := by
  go_enter Yba.func40, Yba.ntmps40
  go_wp2
  refine wp_loop_rounds 2 ?_
  rw [rounds_succ]
  go_wp2
  rw [rounds_succ]
  go_wp2
  go_ret
  exact ⟨rfl, rfl⟩

set_option maxHeartbeats 1000000 in
set_option maxRecDepth 100000 in
theorem add11 (b c b' c' : Nat) (x y : Nat) (w : World) (hx : 0 < x) (hxy : x + y < 18446744073709551616) (h1 : 1 ≤ (c : Int)) (h1' : 1 ≤ (c' : Int)) (hc : w.cell? ⟨b, 0, none⟩ = some (.int .u64 (x : Int))) (hc' : w.cell? ⟨b', 0, none⟩ = some (.int .u64 (y : Int))) :
    Calls Yba.prog 34 #[.slice none 0 0, .slice (some ⟨b, 0, none⟩) 1 c, .slice (some ⟨b', 0, none⟩) 1 c'] w fun e w' => ∃ a, e = .returned a ∧ NatV w' a (x + y) ∧ Below w.heap.size w w' := by
  have hb := World.block_lt_of_cell? w ⟨b, 0, none⟩ hc
  have hb' := World.block_lt_of_cell? w ⟨b', 0, none⟩ hc'
  have he := addVV_enter
  have hc0 : ¬ c = 0 := by omega
  have hc0' : ¬ c' = 0 := by omega
  have HV : Hid (Calls Yba.prog 19 #[.slice (some ⟨w.heap.size, 0, none⟩) 1 6, .slice (some ⟨b, 0, none⟩) 1 c, .slice (some ⟨b', 0, none⟩) 1 c'] (w.alloc (.cells #[.int .u64 0, .int .u64 0, .int .u64 0, .int .u64 0, .int .u64 0, .int .u64 0] 57)).drew fun e w2 =>
      e = .returned (.int .u64 0) ∧ w2.cell? ⟨w.heap.size, 0, none⟩ = some (.int .u64 ((x + y : Nat) : Int)) ∧ w2.cell? ⟨w.heap.size, 1, none⟩ = some (.int .u64 0) ∧ w2.frozen? ⟨w.heap.size, 1, none⟩ = false ∧ Below w.heap.size w w2) := by
    have hbl : Below w.heap.size w (w.alloc (.cells #[.int .u64 0, .int .u64 0, .int .u64 0, .int .u64 0, .int .u64 0, .int .u64 0] 57)).drew := ((Below.refl _ _).alloc (Nat.le_refl _) _).drew
    refine (addVV1 _ 6 b c b' c' x y _ (.int .u64 0) hxy (by simp [go_sem]) (by simp [go_sem]) ((hbl.cell (p := ⟨b, 0, none⟩) hb).trans hc) ((hbl.cell (p := ⟨b', 0, none⟩) hb').trans hc')).mono ?_
    rintro e w2 ⟨k, he, rfl⟩
    refine ⟨he, ?_, ?_, ?_, (hbl.trans (bel_drewN _ _ k)).setCell (p := ⟨w.heap.size, 0, none⟩) (Nat.le_refl _) _⟩
    · exact World.cell?_setCell_same' _ _ _ (by simp [go_sem])
    · simp [go_sem]
    · simp [go_sem]
  have hs0 : 0 < ((x + y : Nat) : Int) := by omega
  have HX : Hid (0 < x) := hx
  obtain ⟨s, hs⟩ : ∃ s, s = x + y := ⟨_, rfl⟩
  rw [← hs] at HV hs0 ⊢
  clear hs hxy hx hc hc'
  go_enter Yba.func34, Yba.ntmps34
  go_wp2_with (go_at_call 37; refine (make2 _).mono ?_; rintro e w' ⟨rfl, rfl⟩)
  go_region_with (go_at_call 19; refine HV.out.mono ?_; rintro e w2 ⟨rfl, hz0, hz1, hzf, hbel⟩)
  all_goals
    go_wp2_with fail
  all_goals
    refine (norm2 w.heap.size 6 s _ hs0 (by decide) (by decide) (by rw [World.cell?_setCell_other _ _ _ _ (by simp)]; exact hz0) (World.cell?_setCell_same _ _ _ hz1)).mono ?_
    rintro e w3 ⟨rfl, rfl⟩
    go_wp2
    go_ret
    refine ⟨_, rfl, .inr ⟨by omega, w.heap.size, 6, rfl, by decide, ?_⟩, hbel.setCell (p := ⟨w.heap.size, 1, none⟩) (Nat.le_refl _) _⟩
    rw [World.cell?_setCell_other _ _ _ _ (by simp)]; exact hz0

set_option maxHeartbeats 1000000 in
set_option maxRecDepth 100000 in
theorem add00 (ao : Option Addr) (c : Nat) (ao' : Option Addr) (c' : Nat) (w : World) :
    Calls Yba.prog 34 #[.slice none 0 0, .slice ao 0 c, .slice ao' 0 c'] w fun e w' => ∃ a, e = .returned a ∧ NatV w' a 0 ∧ Below w.heap.size w w' := by
  go_enter Yba.func34, Yba.ntmps34
  go_wp2
  go_ret
  exact ⟨_, rfl, .inl ⟨rfl, _, _, rfl⟩, Below.refl _ _⟩
set_option maxHeartbeats 1000000 in
set_option maxRecDepth 100000 in
theorem add10 (b c : Nat) (ao' : Option Addr) (c' : Nat) (x : Nat) (w : World) (hx : 0 < x) (hc : w.cell? ⟨b, 0, none⟩ = some (.int .u64 (x : Int))) :
    Calls Yba.prog 34 #[.slice none 0 0, .slice (some ⟨b, 0, none⟩) 1 c, .slice ao' 0 c'] w fun e w' => ∃ a, e = .returned a ∧ NatV w' a x ∧ Below w.heap.size w w' := by
  go_enter Yba.func34, Yba.ntmps34
  go_wp2_with (go_at_call 36; refine (set1 b c x w hx hc).mono ?_; rintro e w' ⟨a, rfl, hn, hb⟩)
  go_ret
  exact ⟨_, rfl, hn, hb⟩
set_option maxHeartbeats 1000000 in
set_option maxRecDepth 100000 in
theorem add01 (b c : Nat) (ao' : Option Addr) (c' : Nat) (x : Nat) (w : World) (hx : 0 < x) (hc : w.cell? ⟨b, 0, none⟩ = some (.int .u64 (x : Int))) :
    Calls Yba.prog 34 #[.slice none 0 0, .slice ao' 0 c', .slice (some ⟨b, 0, none⟩) 1 c] w fun e w' => ∃ a, e = .returned a ∧ NatV w' a x ∧ Below w.heap.size w w' := by
  go_enter Yba.func34, Yba.ntmps34
  go_wp2_with (go_at_call 34; refine (add10 b c ao' c' x w hx hc).mono ?_; rintro e w' ⟨a, rfl, hn, hb⟩)
  go_ret
  exact ⟨_, rfl, hn, hb⟩
/-- (nat).add at nil. -/
theorem add_any (u v : Value) (x y : Nat) (w : World) (hxy : x + y < 18446744073709551616) (hu : NatV w u x) (hv : NatV w v y) :
    Calls Yba.prog 34 #[.slice none 0 0, u, v] w fun e w' => ∃ a, e = .returned a ∧ NatV w' a (x + y) ∧ Below w.heap.size w w' := by
  rcases hu with ⟨rfl, ao, c, rfl⟩ | ⟨hm, b, c, rfl, h1, hc⟩ <;> rcases hv with ⟨rfl, ao', c', rfl⟩ | ⟨hm', b', c', rfl, h1', hc'⟩
  · exact add00 ao c ao' c' w
  · rw [Nat.zero_add]; exact add01 b' c' ao c y w hm' hc'
  · exact add10 b c ao' c' x w hm hc
  · exact add11 b c b' c' x y w hm hxy (by omega) (by omega) hc hc'

set_option maxHeartbeats 1000000 in
set_option maxRecDepth 100000 in
theorem sub00 (ao : Option Addr) (c : Nat) (ao' : Option Addr) (c' : Nat) (w : World) :
    Calls Yba.prog 35 #[.slice none 0 0, .slice ao 0 c, .slice ao' 0 c'] w fun e w' => ∃ a, e = .returned a ∧ NatV w' a 0 ∧ Below w.heap.size w w' := by
  go_enter Yba.func35, Yba.ntmps35
  go_wp2
  go_ret
  exact ⟨_, rfl, .inl ⟨rfl, _, _, rfl⟩, Below.refl _ _⟩
set_option maxHeartbeats 1000000 in
set_option maxRecDepth 100000 in
theorem sub10 (b c : Nat) (ao' : Option Addr) (c' : Nat) (x : Nat) (w : World) (hx : 0 < x) (hc : w.cell? ⟨b, 0, none⟩ = some (.int .u64 (x : Int))) :
    Calls Yba.prog 35 #[.slice none 0 0, .slice (some ⟨b, 0, none⟩) 1 c, .slice ao' 0 c'] w fun e w' => ∃ a, e = .returned a ∧ NatV w' a x ∧ Below w.heap.size w w' := by
  go_enter Yba.func35, Yba.ntmps35
  go_wp2_with (go_at_call 36; refine (set1 b c x w hx hc).mono ?_; rintro e w' ⟨a, rfl, hn, hb⟩)
  go_ret
  exact ⟨_, rfl, hn, hb⟩

set_option maxHeartbeats 1000000 in
set_option maxRecDepth 100000 in
theorem sub11 (b c b' c' : Nat) (x y : Nat) (w : World) (hxy : y ≤ x) (hx : x < 18446744073709551616) (h1 : 1 ≤ (c : Int)) (h1' : 1 ≤ (c' : Int)) (hc : w.cell? ⟨b, 0, none⟩ = some (.int .u64 (x : Int))) (hc' : w.cell? ⟨b', 0, none⟩ = some (.int .u64 (y : Int))) :
    Calls Yba.prog 35 #[.slice none 0 0, .slice (some ⟨b, 0, none⟩) 1 c, .slice (some ⟨b', 0, none⟩) 1 c'] w fun e w' => ∃ a, e = .returned a ∧ NatV w' a (x - y) ∧ Below w.heap.size w w' := by
  have hb := World.block_lt_of_cell? w ⟨b, 0, none⟩ hc
  have hb' := World.block_lt_of_cell? w ⟨b', 0, none⟩ hc'
  have he := subVV_enter
  have hc0 : ¬ c = 0 := by omega
  have hc0' : ¬ c' = 0 := by omega
  have HV : Hid (Calls Yba.prog 20 #[.slice (some ⟨w.heap.size, 0, none⟩) 1 1, .slice (some ⟨b, 0, none⟩) 1 c, .slice (some ⟨b', 0, none⟩) 1 c'] (w.alloc (.cells #[.int .u64 0] 57)).drew fun e w2 =>
      e = .returned (.int .u64 0) ∧ w2.cell? ⟨w.heap.size, 0, none⟩ = some (.int .u64 ((x - y : Nat) : Int)) ∧ Below w.heap.size w w2) := by
    have hbl : Below w.heap.size w (w.alloc (.cells #[.int .u64 0] 57)).drew := ((Below.refl _ _).alloc (Nat.le_refl _) _).drew
    refine (subVV1 _ 1 b c b' c' x y _ (.int .u64 0) hxy hx (by simp [go_sem]) (by simp [go_sem]) ((hbl.cell (p := ⟨b, 0, none⟩) hb).trans hc) ((hbl.cell (p := ⟨b', 0, none⟩) hb').trans hc')).mono ?_
    rintro e w2 ⟨k, he, rfl⟩
    exact ⟨he, World.cell?_setCell_same' _ _ _ (by simp [go_sem]), (hbl.trans (bel_drewN _ _ k)).setCell (p := ⟨w.heap.size, 0, none⟩) (Nat.le_refl _) _⟩
  obtain ⟨s, hs⟩ : ∃ s, s = x - y := ⟨_, rfl⟩
  rw [← hs] at HV ⊢
  clear hs hxy hx hc hc'
  go_enter Yba.func35, Yba.ntmps35
  go_wp2_with (go_at_call 37; refine (make1 _).mono ?_; rintro e w' ⟨rfl, rfl⟩)
  go_region_with (go_at_call 20; refine HV.out.mono ?_; rintro e w2 ⟨rfl, hz0, hbel⟩)
  all_goals
    go_wp2_with fail
    by_cases hs0 : s = 0
    · subst hs0
      refine (norm0 w.heap.size 1 _ (by decide) (by decide) hz0).mono ?_
      rintro e w3 ⟨rfl, rfl⟩
      go_wp2
      go_ret
      exact ⟨_, rfl, .inl ⟨rfl, _, _, rfl⟩, hbel⟩
    · refine (norm1 w.heap.size 1 s _ (by omega) (by decide) (by decide) hz0).mono ?_
      rintro e w3 ⟨rfl, rfl⟩
      go_wp2
      go_ret
      exact ⟨_, rfl, .inr ⟨by omega, w.heap.size, 1, rfl, by decide, hz0⟩, hbel⟩
/-- (nat).sub at nil. -/
theorem sub_any (u v : Value) (x y : Nat) (w : World) (hxy : y ≤ x) (hx : x < 18446744073709551616) (hu : NatV w u x) (hv : NatV w v y) :
    Calls Yba.prog 35 #[.slice none 0 0, u, v] w fun e w' => ∃ a, e = .returned a ∧ NatV w' a (x - y) ∧ Below w.heap.size w w' := by
  rcases hu with ⟨rfl, ao, c, rfl⟩ | ⟨hm, b, c, rfl, h1, hc⟩ <;> rcases hv with ⟨rfl, ao', c', rfl⟩ | ⟨hm', b', c', rfl, h1', hc'⟩
  · exact sub00 ao c ao' c' w
  · omega
  · exact sub10 b c ao' c' x w hm hc
  · exact sub11 b c b' c' x y w hxy hx (by omega) (by omega) hc hc'

end Go.Proofs.Ybulkbxso
