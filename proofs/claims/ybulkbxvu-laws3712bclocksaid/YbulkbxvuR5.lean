/-
  What reverse leans on: Contains at []int32, taken, asleep, branch, begins.
-/
import Derived.Test.YbulkbxvuR4
namespace Go.Proofs.Ybulkbxvu
open Go.RowKit
set_option linter.unusedVariables false

set_option maxHeartbeats 2000000 in
set_option maxRecDepth 100000 in
theorem index32_any (W : World) (ao : Option Addr) (b o n c : Nat) (F : Nat → Int) (hao : 0 < n → ao = some ⟨b, o, none⟩) (hn : (n : Int) < 1000000) (h : ∀ t, t < n → W.cell? ⟨b, o + t, none⟩ = some (.int .i32 (F t))) (x : Int) :
    Calls Yba.prog 54 #[.slice ao n c, .int .i32 x] W fun e W' => ∃ r : Int, e = .returned (.int .i64 r) ∧ (0 ≤ r ↔ ∃ j, j < n ∧ F j = x) ∧ W' = W := by
  have HU : Hid (∀ t, t < n → W.cell? ⟨b, o + t, none⟩ = some (.int .i32 (F t))) := h
  clear h
  go_enter Yba.func54, Yba.ntmps54
  go_wp2
  go_loopg [8] n (fun gh v wx => ∃ (i : Nat), gh + i = n ∧ v = .int .i64 (i : Int) ∧ wx = W ∧ Hid (∀ j, j < i → F j ≠ x))
  case atStart => exact ⟨0, by omega, rfl, rfl, fun j hj => by omega⟩
  case round =>
    obtain ⟨i, hg, rfl, rfl, H⟩ := hrel
    by_cases hi : (i : Int) < (n : Int)
    · obtain rfl := hao (by omega)
      clear hao
      have f0 := HU.out i (by omega)
      obtain ⟨o1, ho1⟩ : ∃ o1, (x == F i) = o1 := ⟨_, rfl⟩
      have HO : Hid ((x == F i) = o1) := ho1
      cases o1
      · go_wp2
        go_roundg (n - (i + 1))
        case measure => omega
        case rel =>
          refine ⟨i + 1, by omega, by go_num, rfl, fun j hj => ?_⟩
          by_cases e : j = i
          · rw [e]; have := HO.out; rw [beq_eq_false_iff_ne] at this; exact Ne.symm this
          · exact H.out j (by omega)
      · go_wp2
        go_ret
        refine ⟨(i : Int), rfl, ⟨fun _ => ⟨i, by omega, by have := HO.out; rw [beq_iff_eq] at this; exact this.symm⟩, fun _ => by omega⟩, rfl⟩
    · go_wp2
      go_ret
      exact ⟨-1, rfl, ⟨fun h => absurd h (by omega), fun ⟨j, h1, h2⟩ => absurd h2 (H.out j (by omega))⟩, rfl⟩

set_option maxHeartbeats 2000000 in
set_option maxRecDepth 100000 in
theorem contains32_any (W : World) (ao : Option Addr) (b o n c : Nat) (F : Nat → Int) (hao : 0 < n → ao = some ⟨b, o, none⟩) (hn : (n : Int) < 1000000) (h : ∀ t, t < n → W.cell? ⟨b, o + t, none⟩ = some (.int .i32 (F t))) (x : Int) :
    Calls Yba.prog 35 #[.slice ao n c, .int .i32 x] W fun e W' => ∃ r : Bool, e = .returned (.bool r) ∧ (r = true ↔ ∃ j, j < n ∧ F j = x) ∧ W' = W := by
  have HI : Hid _ := index32_any W ao b o n c F hao hn h x
  clear h hao
  go_enter Yba.func35, Yba.ntmps35
  go_wp2_with (go_at_call 54; refine Calls.mono HI.out ?_; rintro e W1 ⟨r, rfl, hr, rfl⟩; have HR : Hid (0 ≤ r ↔ ∃ j, j < n ∧ F j = x) := hr; clear hr)
  go_ret
  exact ⟨decide (0 ≤ r), rfl, by rw [decide_eq_true_iff]; exact HR.out, rfl⟩

set_option maxHeartbeats 2000000 in
set_option maxRecDepth 100000 in
theorem taken_any (W : World) (g o t : Nat) (th : Int) (h0 : W.cell? ⟨g, o, none⟩ = some (.int .i32 th)) (h8 : W.cell? ⟨g, o + 8, none⟩ = some (.pointer none)) (r : Bool) (hr : (th == (t : Int)) = r) (hth : 0 ≤ th) (hth2 : th < 1000) :
    Calls Yba.prog 33 #[.pointer (some ⟨g, o, none⟩), .int .i64 (t : Int)] W fun e W' => e = .returned (.bool r) ∧ W' = W := by
  cases r
  · go_enter Yba.func33, Yba.ntmps33
    go_wp2
    go_ret
    exact ⟨rfl, rfl⟩
  · go_enter Yba.func33, Yba.ntmps33
    go_wp2
    go_ret
    exact ⟨rfl, rfl⟩

set_option maxHeartbeats 2000000 in
set_option maxRecDepth 100000 in
theorem noSleep_any (W : World) (ao : Option Addr) (c : Nat) (f : Value) :
    Calls Yba.prog 63 #[.slice ao 0 c, f] W fun e W' => e = .returned (.int .i64 (-1)) ∧ W' = W := by
  go_enter Yba.func63, Yba.ntmps63
  go_wp2
  go_loopg [8] 0 (fun gh v wx => v = .int .i64 0 ∧ wx = W)
  case atStart => exact ⟨rfl, rfl⟩
  case round =>
    obtain ⟨rfl, rfl⟩ := hrel
    go_wp2
    go_ret
    exact ⟨rfl, rfl⟩

set_option maxHeartbeats 2000000 in
set_option maxRecDepth 100000 in
theorem noSleep2_any (W : World) (ao : Option Addr) (c : Nat) (f : Value) :
    Calls Yba.prog 52 #[.slice ao 0 c, f] W fun e W' => e = .returned (.bool false) ∧ W' = W := by
  go_enter Yba.func52, Yba.ntmps52
  go_wp2_with (go_at_call 63; refine (noSleep_any W ao c f).mono ?_; rintro e W1 ⟨rfl, rfl⟩)
  go_ret
  exact ⟨rfl, rfl⟩

set_option maxHeartbeats 2000000 in
set_option maxRecDepth 100000 in
theorem asleep_any (W : World) (g o c t : Nat) (ao : Option Addr) (h7 : W.cell? ⟨g, o + 7, none⟩ = some (.slice ao 0 c)) :
    Calls Yba.prog 34 #[.pointer (some ⟨g, o, none⟩), .int .i64 (t : Int)] W fun e W' => e = .returned (.bool false) ∧ W' = W.alloc (.cells #[.int .i64 (t : Int)] 3) := by
  have hl := cell_lt h7
  go_enter Yba.func34, Yba.ntmps34
  go_wp2_with (go_at_call 52; refine (noSleep2_any _ _ _ _).mono ?_; rintro e W1 ⟨rfl, rfl⟩)
  go_ret
  exact ⟨rfl, rfl⟩

set_option maxHeartbeats 2000000 in
set_option maxRecDepth 100000 in
theorem branchNew_any (W : World) (g o : Nat) (h8 : W.cell? ⟨g, o + 8, none⟩ = some (.pointer none)) (f8 : W.frozen? ⟨g, o + 8, none⟩ = false) :
    Calls Yba.prog 37 #[.pointer (some ⟨g, o, none⟩)] W fun e W' => e = .returned (pt W.heap.size) ∧ W' = (W.setCell ⟨g, o + 8, none⟩ (pt W.heap.size)).alloc (.cells #[.slice none 0 0, .slice none 0 0] 81) := by
  have hl := cell_lt h8
  go_enter Yba.func37, Yba.ntmps37
  go_wp2
  go_ret
  exact ⟨rfl, rfl⟩

set_option maxHeartbeats 2000000 in
set_option maxRecDepth 100000 in
theorem branchOld_any (W : World) (g o q : Nat) (h8 : W.cell? ⟨g, o + 8, none⟩ = some (pt q)) :
    Calls Yba.prog 37 #[.pointer (some ⟨g, o, none⟩)] W fun e W' => e = .returned (pt q) ∧ W' = W := by
  go_enter Yba.func37, Yba.ntmps37
  go_wp2
  go_ret
  exact ⟨rfl, rfl⟩

set_option maxHeartbeats 2000000 in
set_option maxRecDepth 100000 in
theorem begins0_any (W : World) (X b cb : Nat) (v : Value) (hX : W.cell? ⟨X, 22, none⟩ = some (sl b 0 2 cb)) (h0 : W.cell? ⟨b, 0, none⟩ = some (.int .i32 0)) (h1 : W.cell? ⟨b, 1, none⟩ = some (.int .i32 0)) :
    Calls Yba.prog 32 #[pt X, v] W fun e W' => e = .returned (.bool true) ∧ W' = W := by
  go_enter Yba.func32, Yba.ntmps32
  go_wp2
  go_loopg [12] 2 (fun gh v wx => ∃ i : Nat, gh + i = 2 ∧ v = .int .i64 (i : Int) ∧ wx = W)
  case atStart => exact ⟨0, rfl, rfl, rfl⟩
  case round =>
    obtain ⟨i, hg, rfl, rfl⟩ := hrel
    match i, hg with
    | 0, hg =>
      go_wp2
      go_roundg 1
      case measure => omega
      case rel => exact ⟨1, rfl, rfl, rfl⟩
    | 1, hg =>
      go_wp2
      go_roundg 0
      case measure => omega
      case rel => exact ⟨2, rfl, rfl, rfl⟩
    | 2, hg =>
      go_wp2
      go_ret
      exact ⟨rfl, rfl⟩
    | i + 3, hg => omega
end Go.Proofs.Ybulkbxvu
