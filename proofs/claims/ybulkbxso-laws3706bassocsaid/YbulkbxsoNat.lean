/-
  math/big's nat at numbers of at most one word, the receiver nil: set, cmp; the words' sum and difference.
-/
import Derived.Test.YbulkbxsoBig
import Derived.Laws.Twins
import Derived.Laws.CopyOwn
namespace Go.Proofs.Ybulkbxso
open Go.RowKit

theorem addVV_enter (args : Array Value) (w : World) : (callFunc 38 args).run Yba.prog w = .ok (.enter 19 args) w :=
  run_callFunc_twin (twin := Yba.f19.name) Yba.func38 (by kernel_rfl) (by kernel_rfl) (by kernel_rfl) (by kernel_rfl) Yba.func19 (by kernel_rfl) (by kernel_rfl) (by kernel_rfl) args w
theorem subVV_enter (args : Array Value) (w : World) : (callFunc 42 args).run Yba.prog w = .ok (.enter 20 args) w :=
  run_callFunc_twin (twin := Yba.f20.name) Yba.func42 (by kernel_rfl) (by kernel_rfl) (by kernel_rfl) (by kernel_rfl) Yba.func20 (by kernel_rfl) (by kernel_rfl) (by kernel_rfl) args w

theorem add64 (x y : Nat) (hxy : x + y < 18446744073709551616) (w : World) : (callFunc 46 #[.int .u64 x, .int .u64 y, .int .u64 0]).run Yba.prog w =
    .ok (.value (.tuple #[.int .u64 ((x + y : Nat) : Int), .int .u64 0])) w := by
  rw [run_callFunc_extern Yba.func46 (by kernel_rfl) (by kernel_rfl) (by kernel_rfl) (e := add64Entry) (by kernel_rfl)]
  have h := run_add64 (P := Yba.prog) x y 0 (by omega) (by omega) (by omega) (by omega) w
  rw [h]
  simp only [Result.andThen]
  rw [show ((x : Int) + (y : Int) + 0) % 18446744073709551616 = ((x + y : Nat) : Int) from by omega, show ((x : Int) + (y : Int) + 0) / 18446744073709551616 = 0 from by omega]

def sub64Entry : Array Value → Sem Value := fun args => do
  let (x, y, b) ← Extern.MathBitsCarry.three "Sub64" args
  pure (Extern.MathBitsCarry.pair ((x + Extern.MathBitsCarry.m64 - y - b) % Extern.MathBitsCarry.m64) (if x < y + b then 1 else 0))
theorem run_sub64 {P : Program} (x y : Nat) (w : World) :
    (sub64Entry #[.int .u64 x, .int .u64 y, .int .u64 0]).run P w =
      .ok (.tuple #[.int .u64 (((x + 18446744073709551616 - y - 0) % 18446744073709551616 : Nat) : Int), .int .u64 ((if x < y + 0 then 1 else 0 : Nat) : Int)]) w := rfl
theorem sub64 (x y : Nat) (hxy : y ≤ x) (hx : x < 18446744073709551616) (w : World) : (callFunc 48 #[.int .u64 x, .int .u64 y, .int .u64 0]).run Yba.prog w =
    .ok (.value (.tuple #[.int .u64 ((x - y : Nat) : Int), .int .u64 0])) w := by
  rw [run_callFunc_extern Yba.func48 (by kernel_rfl) (by kernel_rfl) (by kernel_rfl) (e := sub64Entry) (by kernel_rfl), run_sub64]
  simp only [Result.andThen]
  rw [if_neg (by omega), show (x + 18446744073709551616 - y - 0) % 18446744073709551616 = x - y from by omega]
  rfl

/-! ### (nat).make at nil -/
theorem make0 (w : World) : Calls Yba.prog 37 #[.slice none 0 0, .int .i64 0] w fun e w' => e = .returned (.slice none 0 0) ∧ w' = w := by
  go_enter Yba.func37, Yba.ntmps37
  go_wp2
  go_ret
  exact ⟨rfl, rfl⟩
theorem make1 (w : World) : Calls Yba.prog 37 #[.slice none 0 0, .int .i64 1] w fun e w' => e = .returned (.slice (some ⟨w.heap.size, 0, none⟩) 1 1) ∧ w' = w.alloc (.cells #[.int .u64 0] 57) := by
  have hmk : ∀ w, (Instr.makeSlice 58 (.int .i64 1) (.int .i64 1)).run Yba.prog w = .ok (.slice (some ⟨w.heap.size, 0, none⟩) 1 1) (w.alloc (.cells #[.int .u64 0] 57)) := fun _ => by kernel_rfl
  go_enter Yba.func37, Yba.ntmps37
  go_wp2
  go_ret
  exact ⟨rfl, rfl⟩
theorem make2 (w : World) : Calls Yba.prog 37 #[.slice none 0 0, .int .i64 2] w fun e w' => e = .returned (.slice (some ⟨w.heap.size, 0, none⟩) 2 6) ∧ w' = w.alloc (.cells #[.int .u64 0, .int .u64 0, .int .u64 0, .int .u64 0, .int .u64 0, .int .u64 0] 57) := by
  have hmk : ∀ w, (Instr.makeSlice 58 (.int .i64 2) (.int .i64 6)).run Yba.prog w = .ok (.slice (some ⟨w.heap.size, 0, none⟩) 2 6) (w.alloc (.cells #[.int .u64 0, .int .u64 0, .int .u64 0, .int .u64 0, .int .u64 0, .int .u64 0] 57)) := fun _ => by kernel_rfl
  go_enter Yba.func37, Yba.ntmps37
  go_wp2
  go_ret
  exact ⟨rfl, rfl⟩

theorem size57 : (Yba.prog.info? 57).map (·.size) = some 1 := by kernel_rfl
set_option maxHeartbeats 1000000 in
set_option maxRecDepth 100000 in
theorem set1 (b c : Nat) (m : Nat) (w : World) (hm : 0 < m) (hc : w.cell? ⟨b, 0, none⟩ = some (.int .u64 (m : Int))) :
    Calls Yba.prog 36 #[.slice none 0 0, .slice (some ⟨b, 0, none⟩) 1 c] w fun e w' => ∃ a, e = .returned a ∧ NatV w' a m ∧ Below w.heap.size w w' := by
  have hbw : b < w.heap.size := World.block_lt_of_cell? w ⟨b, 0, none⟩ hc
  go_enter Yba.func36, Yba.ntmps36
  go_wp2_with (first
    | (go_at_call 37; refine (make1 _).mono ?_; rintro e w' ⟨rfl, rfl⟩)
    | (refine wpList_copy_splice rfl (.tmp 9) (.tmp 10) 58 58 rfl 57 Yba.underlying58 size57 _ _ 1 1 1 c rfl rfl w.heap.size 0 [.int .u64 0] 57 (heap_alloc_new w _) [.int .u64 (m : Int)] rfl ?_ (by simp) (ints_oneCell .u64 [(m : Int)]) w.heap.size w ((Below.refl _ _).alloc (Nat.le_refl _) _) (Nat.le_refl _) ?_; rotate_left; intro w2 HG2 hB2))
  · go_ret
    exact ⟨_, rfl, .inr ⟨hm, w.heap.size, 1, rfl, Nat.le_refl _, by have h := HG2.out; simp [World.cell?, h, splice]⟩, hB2⟩
  · intro j v hj
    match j, hj with
    | 0, hj => simp at hj; subst hj; exact hc
    | j + 1, hj => simp at hj

set_option maxHeartbeats 1000000 in
set_option maxRecDepth 100000 in
theorem set0 (ao : Option Addr) (c : Nat) (w : World) :
    Calls Yba.prog 36 #[.slice none 0 0, .slice ao 0 c] w fun e w' => ∃ a, e = .returned a ∧ NatV w' a 0 ∧ Below w.heap.size w w' := by
  go_enter Yba.func36, Yba.ntmps36
  go_wp2_with (first
    | (go_at_call 37; refine (make0 _).mono ?_; rintro e w' ⟨rfl, rfl⟩)
    | (refine wpList_copy_nothing rfl (.tmp 9) (.tmp 10) 58 58 rfl 57 Yba.underlying58 size57 none ao 0 0 0 c rfl rfl rfl ?_))
  go_ret
  exact ⟨_, rfl, .inl ⟨rfl, _, _, rfl⟩, Below.refl _ _⟩

/-- (nat).set at nil. -/
theorem set_any (a : Value) (m : Nat) (w : World) (h : NatV w a m) : Calls Yba.prog 36 #[.slice none 0 0, a] w fun e w' => ∃ a', e = .returned a' ∧ NatV w' a' m ∧ Below w.heap.size w w' := by
  rcases h with ⟨rfl, ao, c, rfl⟩ | ⟨hm, b, c, rfl, _, hc⟩
  · exact set0 ao c w
  · exact set1 b c m w hm hc

/-! ### The words -/
theorem bitsAdd (x y : Nat) (hxy : x + y < 18446744073709551616) (w : World) : Calls Yba.prog 41 #[.int .u64 x, .int .u64 y, .int .u64 0] w fun e w' => e = .returned (.tuple #[.int .u64 ((x + y : Nat) : Int), .int .u64 0]) ∧ w' = w := by
  have k1 := fun w => add64 x y hxy w
  obtain ⟨s, hs⟩ : ∃ s, s = x + y := ⟨_, rfl⟩
  rw [← hs] at k1 ⊢
  clear hs hxy
  go_enter Yba.func41, Yba.ntmps41
  go_wp2_with (simp only [k1])
  go_ret2
  exact ⟨rfl, rfl⟩
theorem bitsSub (x y : Nat) (hxy : y ≤ x) (hx : x < 18446744073709551616) (w : World) : Calls Yba.prog 44 #[.int .u64 x, .int .u64 y, .int .u64 0] w fun e w' => e = .returned (.tuple #[.int .u64 ((x - y : Nat) : Int), .int .u64 0]) ∧ w' = w := by
  have k1 := fun w => sub64 x y hxy hx w
  obtain ⟨s, hs⟩ : ∃ s, s = x - y := ⟨_, rfl⟩
  rw [← hs] at k1 ⊢
  clear hs hxy hx
  go_enter Yba.func44, Yba.ntmps44
  go_wp2_with (simp only [k1])
  go_ret2
  exact ⟨rfl, rfl⟩

set_option maxHeartbeats 1000000 in
set_option maxRecDepth 100000 in
theorem addVV1 (Z cz b c b' c' : Nat) (x y : Nat) (w : World) (z : Value) (hxy : x + y < 18446744073709551616) (hz : w.cell? ⟨Z, 0, none⟩ = some z) (hf : w.frozen? ⟨Z, 0, none⟩ = false)
    (hc : w.cell? ⟨b, 0, none⟩ = some (.int .u64 (x : Int))) (hc' : w.cell? ⟨b', 0, none⟩ = some (.int .u64 (y : Int))) :
    Calls Yba.prog 19 #[.slice (some ⟨Z, 0, none⟩) 1 cz, .slice (some ⟨b, 0, none⟩) 1 c, .slice (some ⟨b', 0, none⟩) 1 c'] w fun e w' => ∃ k, e = .returned (.int .u64 0) ∧ w' = (w.drewN k).setCell ⟨Z, 0, none⟩ (.int .u64 ((x + y : Nat) : Int)) := by
  have HA := fun w => bitsAdd x y hxy w
  obtain ⟨s, hs⟩ : ∃ s, s = x + y := ⟨_, rfl⟩
  rw [← hs] at HA ⊢
  clear hs hxy
  go_enter Yba.func19, Yba.ntmps19
  go_wp2
  refine wp_loop_rounds 2 ?_
  rw [rounds_succ]
  go_wp2
  go_quiet ((go_at_call 41; exact Calls.quiet_of_same (HA _)))
  go_wp2
  rw [rounds_succ]
  go_wp2
  go_ret
  exact ⟨_, rfl, rfl⟩
end Go.Proofs.Ybulkbxso
