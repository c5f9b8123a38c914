/-
  Clock: resize of a row that is there; begins.
-/
import Derived.Test.YbulkbxvuR7
namespace Go.Proofs.Ybulkbxvu
open Go.RowKit
set_option linter.unusedVariables false

set_option maxHeartbeats 2000000 in
set_option maxRecDepth 100000 in
theorem grow_old (W : World) (b c n : Nat) (hn : n ≤ 3) (hc : n ≤ c) (hc2 : (c : Int) ≤ 9223372036854775807) :
    Calls Yba.prog 23 #[.slice (some ⟨b, 0, none⟩) 0 c, .int .i64 (n : Int)] W fun e W' => e = .returned (.slice (some ⟨b, 0, none⟩) 0 c) ∧ W' = W := by
  have e1 : IntKind.i64.wrap ((n : Int) - (c : Int)) = (n : Int) - (c : Int) := by rw [IntKind.wrap_i64]; omega
  have e2 : ¬ (0 : Int) < (n : Int) - (c : Int) := by omega
  go_enter Yba.func23, Yba.ntmps23
  go_wp2
  go_ret
  exact ⟨rfl, rfl⟩

set_option maxHeartbeats 2000000 in
set_option maxRecDepth 100000 in
theorem resize_old (W : World) (b c n k : Nat) (G : Nat → Int) (h0 : 0 < n) (hn : n ≤ 3) (hk : k ≤ c) (hR : RowG W b 0 c n G) (hc : n ≤ c) (hc2 : (c : Int) ≤ 9223372036854775807) :
    Calls Yba.prog 11 #[sl b 0 k c, .int .i64 (n : Int)] W fun e W' => e = .returned (sl b 0 n c) ∧ RowG W' b 0 c n (fun _ => 0) ∧ Fr W W' b := by
  have HG : Hid _ := grow_old W b c n hn hc hc2
  obtain ⟨W2, hcl, hR2, hfr⟩ := clear_run W b c n c _ h0 hR
  have HW : Hid (RowG W2 b 0 c n (fun _ => 0) ∧ Fr W W2 b) := ⟨hR2, hfr W (Fr.refl _ _)⟩
  clear hR2 hfr hR
  go_enter Yba.func11, Yba.ntmps11
  go_wp2_with (go_at_call 23; refine Calls.mono HG.out ?_; rintro e W1 ⟨rfl, hw1⟩; rw [hw1]; clear hw1 W1)
  go_ret
  exact ⟨rfl, HW.out⟩

/-- Some Boolean. -/
def SomeBool (W : World) (e : Ending) (W' : World) : Prop := ∃ r : Bool, e = .returned (.bool r) ∧ W' = W
set_option maxHeartbeats 2000000 in
set_option maxRecDepth 100000 in
theorem begins_any (W : World) (X b cb N g o c : Nat) (fv cv : Nat → Int) (hN : N ≤ 3) (hX : W.cell? ⟨X, 22, none⟩ = some (sl b 0 N cb)) (hf : ∀ t, t < N → W.cell? ⟨b, t, none⟩ = some (.int .i32 (fv t))) (hc : ∀ t, t < N → W.cell? ⟨g, o + t, none⟩ = some (.int .i32 (cv t))) :
    Calls Yba.prog 32 #[pt X, sl g o N c] W fun e W' => SomeBool W e W' := by
  go_enter Yba.func32, Yba.ntmps32
  go_wp2
  go_loopg [12] N (fun gh v wx => ∃ i : Nat, gh + i = N ∧ v = .int .i64 (i : Int) ∧ wx = W)
  case atStart => exact ⟨0, by omega, rfl, rfl⟩
  case round =>
    obtain ⟨i, hg, rfl, rfl⟩ := hrel
    by_cases hi : (i : Int) < (N : Int)
    · have f1 := hf i (by omega)
      have HA : Hid _ := at_any wr g o N c i (cv i) (by omega) (by omega) (hc i (by omega))
      by_cases h1 : (0 : Int) < fv i
      · by_cases h2 : fv i ≤ cv i
        · go_wp2_with (go_at_call 30; refine Calls.mono HA.out ?_; rintro e W1 ⟨rfl, hw1⟩; rw [hw1]; clear hw1 W1)
          go_ret
          exact (show SomeBool _ _ _ from ⟨false, rfl, rfl⟩)
        · go_wp2_with (go_at_call 30; refine Calls.mono HA.out ?_; rintro e W1 ⟨rfl, hw1⟩; rw [hw1]; clear hw1 W1)
          go_roundg (N - (i + 1))
          case measure => omega
          case rel => exact ⟨i + 1, by omega, by go_num, rfl⟩
      · go_wp2
        go_roundg (N - (i + 1))
        case measure => omega
        case rel => exact ⟨i + 1, by omega, by go_num, rfl⟩
    · go_wp2
      go_ret
      exact (show SomeBool _ _ _ from ⟨true, rfl, rfl⟩)
end Go.Proofs.Ybulkbxvu
