/-
  slices.Sort at []int32: the choice of a pivot.
-/
import Derived.Test.YbulkbxvuS0
namespace Go.Proofs.Ybulkbxvu
open Go.RowKit
set_option linter.unusedVariables false

theorem order2_in (w W : World) (blk off m c : Nat) (A : Array Int) (q : Nat) (a b lo hi : Int) (h : SQ w W blk off m A q) (h0 : 0 ≤ lo) (hn : hi ≤ (A.size : Int)) (ha1 : lo ≤ a) (ha : a < hi) (hb1 : lo ≤ b) (hb : b < hi) :
    Calls Yba.prog 64 #[sl blk off A.size c, .int .i64 a, .int .i64 b, pt q] W fun e W' => ∃ x y : Int, e = .returned (.tuple #[.int .i64 x, .int .i64 y]) ∧ lo ≤ x ∧ x < hi ∧ lo ≤ y ∧ y < hi ∧ SQ w W' blk off m A q := by
  obtain ⟨a', rfl⟩ := Int.eq_ofNat_of_zero_le (show 0 ≤ a by omega)
  obtain ⟨b', rfl⟩ := Int.eq_ofNat_of_zero_le (show 0 ≤ b by omega)
  refine (order2_any w W blk off m c A q a' b' h (by omega) (by omega)).mono ?_
  rintro e W' ⟨rfl | rfl, h⟩
  · exact ⟨a', b', rfl, by omega, by omega, by omega, by omega, h⟩
  · exact ⟨b', a', rfl, by omega, by omega, by omega, by omega, h⟩

set_option maxHeartbeats 2000000 in
set_option maxRecDepth 100000 in
theorem median_any (w W : World) (blk off m c : Nat) (A : Array Int) (q : Nat) (a b d lo hi : Int) (h : SQ w W blk off m A q) (h0 : 0 ≤ lo) (hn : hi ≤ (A.size : Int)) (ha1 : lo ≤ a) (ha : a < hi) (hb1 : lo ≤ b) (hb : b < hi) (hd1 : lo ≤ d) (hd : d < hi) :
    Calls Yba.prog 59 #[sl blk off A.size c, .int .i64 a, .int .i64 b, .int .i64 d, pt q] W fun e W' => ∃ x : Int, e = .returned (.int .i64 x) ∧ lo ≤ x ∧ x < hi ∧ SQ w W' blk off m A q := by
  have H : Hid (∀ (a b : Int) (W : World), SQ w W blk off m A q → lo ≤ a → a < hi → lo ≤ b → b < hi → Calls Yba.prog 64 #[sl blk off A.size c, .int .i64 a, .int .i64 b, pt q] W fun e W' => ∃ x y : Int, e = .returned (.tuple #[.int .i64 x, .int .i64 y]) ∧ lo ≤ x ∧ x < hi ∧ lo ≤ y ∧ y < hi ∧ SQ w W' blk off m A q) :=
    fun a b W h h1 h2 h3 h4 => order2_in w W blk off m c A q a b lo hi h h0 hn h1 h2 h3 h4
  go_enter Yba.func59, Yba.ntmps59
  go_wp2_with (go_at_call 64; refine (H.out _ _ _ (by assumption) (by assumption) (by assumption) (by assumption) (by assumption)).mono ?_; rintro e W1 ⟨x, y, rfl, h1, h2, h3, h4, h5⟩)
  go_ret
  exact ⟨_, rfl, by assumption, by assumption, by assumption⟩

set_option maxHeartbeats 2000000 in
set_option maxRecDepth 100000 in
theorem medianAdj_any (w W : World) (blk off m c : Nat) (A : Array Int) (q : Nat) (a lo hi : Int) (h : SQ w W blk off m A q) (h0 : 0 ≤ lo) (hn : hi ≤ (A.size : Int)) (hn2 : (A.size : Int) < 1000000) (ha1 : lo + 1 ≤ a) (ha : a + 1 < hi) :
    Calls Yba.prog 58 #[sl blk off A.size c, .int .i64 a, pt q] W fun e W' => ∃ x : Int, e = .returned (.int .i64 x) ∧ lo ≤ x ∧ x < hi ∧ SQ w W' blk off m A q := by
  have H : Hid _ := median_any w W blk off m c A q (a - 1) a (a + 1) lo hi h h0 hn (by omega) (by omega) (by omega) (by omega) (by omega) (by omega)
  have e1 : IntKind.i64.wrap (a - 1) = a - 1 := by rw [IntKind.wrap_i64]; omega
  have e2 : IntKind.i64.wrap (a + 1) = a + 1 := by rw [IntKind.wrap_i64]; omega
  clear hn2
  go_enter Yba.func58, Yba.ntmps58
  go_wp2_with (go_at_call 59; refine (Calls.mono (H.out) ?_); rintro e W1 ⟨x, rfl, h1, h2, h3⟩)
  go_ret
  exact ⟨_, rfl, h1, h2, h3⟩

/-- The counter is made. -/
theorem SQ.make {w W : World} {blk off m : Nat} {A : Array Int} (h : SA w W blk off m A) : SQ w (W.alloc (.cells #[.int .i64 0] 3)) blk off m A W.heap.size := by
  refine ⟨h.alloc _, ?_, 0, heap_alloc_new W _⟩
  exact h.2.1.2.2.2.1
theorem SQ.cell {w W : World} {blk off m : Nat} {A : Array Int} {q : Nat} (h : SQ w W blk off m A q) : ∃ v, W.cell? ⟨q, 0, none⟩ = some (.int .i64 v) := by
  obtain ⟨-, -, v, hv⟩ := h
  exact ⟨v, by simp [World.cell?, hv]⟩

set_option maxHeartbeats 4000000 in
set_option maxRecDepth 100000 in
theorem pivot_any (w W : World) (blk off m c : Nat) (A : Array Int) (a b : Int) (h : SA w W blk off m A) (h0 : 0 ≤ a) (hb : b ≤ (A.size : Int)) (hn2 : (A.size : Int) < 1000000) (hl : 12 < b - a) :
    Calls Yba.prog 42 #[sl blk off A.size c, .int .i64 a, .int .i64 b] W fun e W' => ∃ x y : Int, e = .returned (.tuple #[.int .i64 x, .int .i64 y]) ∧ a ≤ x ∧ x < b ∧ SA w W' blk off m A := by
  obtain ⟨l, rfl⟩ : ∃ l, b = a + l := ⟨b - a, by omega⟩
  have hl : 12 < l := by omega
  obtain ⟨q4, hq4⟩ : ∃ q4, l.tdiv 4 = q4 := ⟨_, rfl⟩
  have hq : q4 * 4 ≤ l ∧ l < q4 * 4 + 4 := by rw [← hq4, Int.tdiv_eq_ediv_of_nonneg (by omega)]; omega
  have H1 : Hid (∀ (x : Int) (W1 : World), SQ w W1 blk off m A W.heap.size → a + 1 ≤ x → x + 1 < a + l → Calls Yba.prog 58 #[sl blk off A.size c, .int .i64 x, pt W.heap.size] W1 fun e W' => ∃ x : Int, e = .returned (.int .i64 x) ∧ a ≤ x ∧ x < a + l ∧ SQ w W' blk off m A W.heap.size) :=
    fun x W1 h h1 h2 => medianAdj_any w W1 blk off m c A _ x a (a + l) h h0 hb hn2 h1 h2
  have H2 : Hid (∀ (x y z : Int) (W1 : World), SQ w W1 blk off m A W.heap.size → a ≤ x → x < a + l → a ≤ y → y < a + l → a ≤ z → z < a + l → Calls Yba.prog 59 #[sl blk off A.size c, .int .i64 x, .int .i64 y, .int .i64 z, pt W.heap.size] W1 fun e W' => ∃ x : Int, e = .returned (.int .i64 x) ∧ a ≤ x ∧ x < a + l ∧ SQ w W' blk off m A W.heap.size) :=
    fun x y z W1 h h1 h2 h3 h4 h5 h6 => median_any w W1 blk off m c A _ x y z a (a + l) h h0 hb h1 h2 h3 h4 h5 h6
  have hS := SQ.make h
  have e0 : IntKind.i64.wrap (a + l - a) = l := by rw [IntKind.wrap_i64]; omega
  have e1 : IntKind.i64.wrap q4 = q4 := by rw [IntKind.wrap_i64]; omega
  have e2 : IntKind.i64.wrap (q4 * 2) = q4 * 2 := by rw [IntKind.wrap_i64]; omega
  have e3 : IntKind.i64.wrap (q4 * 3) = q4 * 3 := by rw [IntKind.wrap_i64]; omega
  have e4 : IntKind.i64.wrap (a + q4) = a + q4 := by rw [IntKind.wrap_i64]; omega
  have e5 : IntKind.i64.wrap (a + q4 * 2) = a + q4 * 2 := by rw [IntKind.wrap_i64]; omega
  have e6 : IntKind.i64.wrap (a + q4 * 3) = a + q4 * 3 := by rw [IntKind.wrap_i64]; omega
  have b1 : a ≤ a + q4 ∧ a + q4 < a + l := by omega
  have b2 : a ≤ a + q4 * 2 ∧ a + q4 * 2 < a + l := by omega
  have b3 : a ≤ a + q4 * 3 ∧ a + q4 * 3 < a + l := by omega
  have b4 : a + 1 ≤ a + q4 ∧ a + q4 + 1 < a + l := by omega
  have b5 : a + 1 ≤ a + q4 * 2 ∧ a + q4 * 2 + 1 < a + l := by omega
  have b6 : a + 1 ≤ a + q4 * 3 ∧ a + q4 * 3 + 1 < a + l := by omega
  have h8 : 8 ≤ l := by omega
  clear hn2 hb h0 h hq
  go_enter Yba.func42, Yba.ntmps42
  by_cases h50 : 50 ≤ l
  · go_wp2_with (first
      | (go_at_call 58; refine (H1.out _ _ (by assumption) (by omega) (by omega)).mono ?_; rintro e W1 ⟨x, rfl, h1, h2, h3⟩)
      | (go_at_call 59; refine (H2.out _ _ _ _ (by assumption) (by omega) (by omega) (by omega) (by omega) (by omega) (by omega)).mono ?_; rintro e W2 ⟨y, rfl, h4, h5, h6⟩; obtain ⟨v, hv⟩ := h6.cell))
    all_goals
      first | go_ret2 | go_ret
      exact ⟨_, _, rfl, h4, h5, h6.1⟩
  · go_wp2_with (first
      | (go_at_call 58; refine (H1.out _ _ (by assumption) (by omega) (by omega)).mono ?_; rintro e W1 ⟨x, rfl, h1, h2, h3⟩)
      | (go_at_call 59; refine (H2.out _ _ _ _ (by assumption) (by omega) (by omega) (by omega) (by omega) (by omega) (by omega)).mono ?_; rintro e W2 ⟨y, rfl, h4, h5, h6⟩; obtain ⟨v, hv⟩ := h6.cell))
    all_goals
      first | go_ret2 | go_ret
      exact ⟨_, _, rfl, h4, h5, h6.1⟩
end Go.Proofs.Ybulkbxvu
