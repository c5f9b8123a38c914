/-
  Sort and Compact at the nil slice.
-/
import Derived.Test.YbulkbxvuS9
import Derived.Test.YbulkbxvuP0
namespace Go.Proofs.Ybulkbxvu
open Go.RowKit
set_option linter.unusedVariables false

set_option maxHeartbeats 2000000 in
set_option maxRecDepth 100000 in
theorem compact_nil (w : World) : Calls Yba.prog 19 #[.slice none 0 0] w fun e W' => e = .returned (.slice none 0 0) ∧ W' = w := by
  go_enter Yba.func19, Yba.ntmps19
  go_wp2
  go_ret
  exact ⟨rfl, rfl⟩

set_option maxHeartbeats 2000000 in
set_option maxRecDepth 100000 in
theorem insertion_nil (w : World) : Calls Yba.prog 39 #[.slice none 0 0, .int .i64 0, .int .i64 0] w fun e W' => e = .returned (.tuple #[]) ∧ W' = w := by
  go_enter Yba.func39, Yba.ntmps39
  go_wp2
  go_loopg [6] 0 (fun g v wx => v = .int .i64 1 ∧ wx = w)
  case atStart => exact ⟨rfl, rfl⟩
  case round =>
    obtain ⟨rfl, rfl⟩ := hrel
    go_wp2
    go_end0
    exact ⟨rfl, rfl⟩

set_option maxHeartbeats 2000000 in
set_option maxRecDepth 100000 in
theorem pdq_nil (w : World) (L : Int) : Calls Yba.prog 28 #[.slice none 0 0, .int .i64 0, .int .i64 0, .int .i64 L] w fun e W' => e = .returned (.tuple #[]) ∧ W' = w := by
  have HI : Hid _ := insertion_nil w
  go_enter Yba.func28, Yba.ntmps28
  go_wp2
  go_loopg [1, 2] 0 (fun g v1 v2 wx => v1 = .int .i64 0 ∧ v2 = .int .i64 0 ∧ wx = w)
  case atStart => exact ⟨rfl, rfl, rfl⟩
  case round =>
    obtain ⟨rfl, rfl, rfl⟩ := hrel
    go_wp2_with (go_at_call 39; refine Calls.mono HI.out ?_; rintro e W2 ⟨rfl, rfl⟩)
    refine bodyPost_ret (v := .tuple #[]) (by simp [results, Yba.results28, go_sem]) rfl ?_
    exact ⟨rfl, rfl⟩

set_option maxHeartbeats 2000000 in
set_option maxRecDepth 100000 in
theorem sort_nil0 (w : World) (n : Nat) (hn : Hid (n = 0)) : Calls Yba.prog 18 #[.slice none n 0] w fun e W' => e = .returned (.tuple #[]) ∧ W' = w := by
  have HP : Hid (∀ (L : Int), Calls Yba.prog 28 #[.slice none n 0, .int .i64 0, .int .i64 (n : Int), .int .i64 L] w fun e W' => e = .returned (.tuple #[]) ∧ W' = w) := by
    have := hn.out
    subst this
    exact fun L => pdq_nil w L
  have hn1 : n < 1000 := by have := hn.out; omega
  have e0 : IntKind.u64.wrap (n : Int) = (n : Int) := by rw [IntKind.wrap_u64]; omega
  clear hn
  go_enter Yba.func18, Yba.ntmps18
  go_wp2_with (first
    | (go_at_call 29; refine (Yba.bits_Len _ _ (by omega) (by omega)).mono ?_; rintro e w' ⟨rfl, rfl⟩)
    | (go_at_call 28; refine (HP.out _).mono ?_; rintro e W2 ⟨rfl, rfl⟩))
  go_end0
  exact ⟨rfl, rfl⟩
theorem sort_nil (w : World) : Calls Yba.prog 18 #[.slice none 0 0] w fun e W' => e = .returned (.tuple #[]) ∧ W' = w := sort_nil0 w 0 rfl
end Go.Proofs.Ybulkbxvu
