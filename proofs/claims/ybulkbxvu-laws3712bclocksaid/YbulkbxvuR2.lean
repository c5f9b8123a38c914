/-
  The end of the program among the uses; a step that waits for nothing.
-/
import Derived.Test.YbulkbxvuR1
namespace Go.Proofs.Ybulkbxvu
open Go.RowKit
set_option linter.unusedVariables false

set_option maxHeartbeats 2000000 in
set_option maxRecDepth 100000 in
theorem isEnd_any (W : World) (uk ui ux : Int) (uw : Bool) :
    Calls Yba.prog 17 #[.agg #[.int .u8 uk, .int .u32 ui, .int .u32 ux, .bool uw]] W fun e W' => e = .returned (.bool (uk == 7)) ∧ Below W.heap.size W W' := by
  go_enter Yba.func17, Yba.ntmps17
  go_wp2
  go_ret
  exact ⟨rfl, (Below.refl _ _).alloc (Nat.le_refl _) _⟩

set_option maxHeartbeats 2000000 in
set_option maxRecDepth 100000 in
theorem indexEnd_any (W : World) (ao : Option Addr) (g o n c : Nat) (F : Nat → Use4) (hao : 0 < n → ao = some ⟨g, o, none⟩) (hn : (n : Int) < 1000000) (h : UsR W g o n F) :
    Calls Yba.prog 27 #[.slice ao n c, .func (.func 17) #[] #[]] W fun e W' => ∃ r : Int, e = .returned (.int .i64 r) ∧ (0 ≤ r ↔ ∃ j, j < n ∧ (F j).k = 7) ∧ Below W.heap.size W W' := by
  have HU : Hid (UsR W g o n F) := h
  clear h
  go_enter Yba.func27, Yba.ntmps27
  go_wp2
  go_loopg [8] n (fun gh v wx => ∃ (i : Nat), gh + i = n ∧ v = .int .i64 (i : Int) ∧ Hid (Below W.heap.size W wx ∧ ∀ j, j < i → (F j).k ≠ 7))
  case atStart => exact ⟨0, by omega, rfl, Below.refl _ _, fun j hj => by omega⟩
  case round =>
    obtain ⟨i, hg, rfl, H⟩ := hrel
    by_cases hi : (i : Int) < (n : Int)
    · obtain rfl := hao (by omega)
      clear hao
      obtain ⟨f0, f1, f2, f3⟩ := (HU.out.below H.out.1) i (by omega)
      obtain ⟨⟨fk, fi, fx, fw⟩, hF⟩ : ∃ f, F i = f := ⟨_, rfl⟩
      rw [hF] at f0 f1 f2 f3
      simp only at f0 f1 f2 f3
      have HF : Hid (F i = ⟨fk, fi, fx, fw⟩) := hF
      clear hF
      have HC : Hid _ := isEnd_any wr fk fi fx fw
      obtain ⟨o1, ho1⟩ : ∃ o1, (fk == 7) = o1 := ⟨_, rfl⟩
      rw [ho1] at HC
      have HO : Hid ((fk == 7) = o1) := ho1
      clear ho1
      cases o1
      · go_wp2_with (go_at_call 17; refine Calls.mono HC.out ?_; rintro e W1 ⟨rfl, hb1⟩)
        go_roundg (n - (i + 1))
        case measure => omega
        case rel =>
          refine ⟨i + 1, by omega, by go_num, H.out.1.trans (hb1.mono H.out.1.size), fun j hj => ?_⟩
          by_cases e : j = i
          · rw [e, HF.out]; have := HO.out; rw [beq_eq_false_iff_ne] at this; exact this
          · exact H.out.2 j (by omega)
      · go_wp2_with (go_at_call 17; refine Calls.mono HC.out ?_; rintro e W1 ⟨rfl, hb1⟩)
        go_ret
        refine ⟨(i : Int), rfl, ⟨fun _ => ⟨i, by omega, by rw [HF.out]; have := HO.out; rw [beq_iff_eq] at this; exact this⟩, fun _ => by omega⟩, H.out.1.trans (hb1.mono H.out.1.size)⟩
    · go_wp2
      go_ret
      exact ⟨-1, rfl, ⟨fun h => absurd h (by omega), fun ⟨j, h1, h2⟩ => absurd h2 (H.out.2 j (by omega))⟩, H.out.1⟩

set_option maxHeartbeats 2000000 in
set_option maxRecDepth 100000 in
theorem containsEnd_any (W : World) (ao : Option Addr) (g o n c : Nat) (F : Nat → Use4) (hao : 0 < n → ao = some ⟨g, o, none⟩) (hn : (n : Int) < 1000000) (h : UsR W g o n F) :
    Calls Yba.prog 16 #[.slice ao n c, .func (.func 17) #[] #[]] W fun e W' => ∃ r : Bool, e = .returned (.bool r) ∧ (r = true ↔ ∃ j, j < n ∧ (F j).k = 7) ∧ Below W.heap.size W W' := by
  have HI : Hid _ := indexEnd_any W ao g o n c F hao hn h
  clear h hao
  go_enter Yba.func16, Yba.ntmps16
  go_wp2_with (go_at_call 27; refine Calls.mono HI.out ?_; rintro e W1 ⟨r, rfl, hr, hb1⟩; have HR : Hid (0 ≤ r ↔ ∃ j, j < n ∧ (F j).k = 7) := hr; clear hr)
  go_ret
  exact ⟨decide (0 ≤ r), rfl, by rw [decide_eq_true_iff]; exact HR.out, hb1⟩

set_option maxHeartbeats 2000000 in
set_option maxRecDepth 100000 in
theorem waitsFor_any (W : World) (X S k : Nat) (c : Nat) (ao : Option Addr) (ok oi ox : Int) (hs : W.cell? ⟨S, 3, none⟩ = some (.slice ao 0 c)) :
    Calls Yba.prog 14 #[pt X, pt S, .agg #[.int .u8 ok, .int .u32 oi, .int .u32 ox], .int .i64 (k : Int)] W fun e W' => e = .returned (.bool false) ∧ Below W.heap.size W W' := by
  have hl := cell_lt hs
  go_enter Yba.func14, Yba.ntmps14
  go_wp2
  go_loopg [9, 17] 0 (fun gh v9 v wx => v9 = .bool false ∧ v = .int .i64 0 ∧ wx = W.alloc (.cells #[.int .u8 ok, .int .u32 oi, .int .u32 ox] 70))
  case atStart => exact ⟨rfl, rfl, rfl⟩
  case round =>
    obtain ⟨rfl, rfl, rfl⟩ := hrel
    go_wp2
    go_ret
    exact ⟨rfl, (Below.refl _ _).alloc (Nat.le_refl _) _⟩

set_option maxHeartbeats 2000000 in
set_option maxRecDepth 100000 in
theorem reversible_any (W : World) (X S k : Nat) (c : Nat) (ao : Option Addr) (hs : W.cell? ⟨S, 3, none⟩ = some (.slice ao 0 c)) :
    Calls Yba.prog 21 #[pt X, .int .i64 (k : Int), pt S] W fun e W' => e = .returned (.bool true) ∧ W' = W := by
  go_enter Yba.func21, Yba.ntmps21
  go_wp2
  go_ret
  exact ⟨rfl, rfl⟩
end Go.Proofs.Ybulkbxvu
