/-
  eisen's One; the law's helpers zzs3706bmul, zzs3706bunit, zzs3706beq.
-/
import Derived.Test.YbulkbxsoEis
namespace Go.Proofs.Ybulkbxso
open Go.RowKit
set_option linter.unusedVariables false

theorem IntV.cases {w : World} {x1 x2 : Option Addr} {a b : Int} (h : IntV w (.agg #[.pointer x1, .pointer x2]) a b) :
    (x1 = none ∧ x2 = none ∧ a = 0 ∧ b = 0) ∨ ∃ p q, x1 = some ⟨p, 0, none⟩ ∧ x2 = some ⟨q, 0, none⟩ ∧ p ≠ q ∧ BigV w p a ∧ BigV w q b := by
  rcases h with ⟨e, ha, hb⟩ | ⟨p, q, e, hpq, h1, h2⟩
  · simp only [Value.agg.injEq, Array.mk.injEq, List.cons.injEq, Value.pointer.injEq, and_true] at e
    exact .inl ⟨e.1, e.2, ha, hb⟩
  · simp only [Value.agg.injEq, Array.mk.injEq, List.cons.injEq, Value.pointer.injEq, and_true] at e
    exact .inr ⟨p, q, e.1, e.2, hpq, h1, h2⟩

theorem A_any (x1 x2 : Option Addr) (a b : Int) (w : World) (h : IntV w (.agg #[.pointer x1, .pointer x2]) a b) :
    Calls Yba.prog 13 #[.agg #[.pointer x1, .pointer x2]] w fun e w' => ∃ p, e = .returned (ptr p) ∧ BigV w' p a ∧ Below w.heap.size w w' := by
  rcases h.cases with ⟨rfl, rfl, rfl, rfl⟩ | ⟨p, q, rfl, rfl, hpq, h1, h2⟩
  · refine (A_nil none w).mono ?_
    rintro e w' ⟨rfl, rfl⟩
    exact ⟨_, rfl, ⟨_, 60, heap_alloc2_new w _ _, .inl ⟨rfl, _, _, rfl⟩⟩, ((Below.refl _ _).alloc (Nat.le_refl _) _).alloc (by simp) _⟩
  · refine (A_some p (some ⟨q, 0, none⟩) w).mono ?_
    rintro e w' ⟨rfl, rfl⟩
    have hb : Below w.heap.size w (w.alloc (.cells #[ptr p, ptr q] 24)) := (Below.refl _ _).alloc (Nat.le_refl _) _
    exact ⟨p, rfl, h1.below hb, hb⟩
theorem B_any (x1 x2 : Option Addr) (a b : Int) (w : World) (h : IntV w (.agg #[.pointer x1, .pointer x2]) a b) :
    Calls Yba.prog 15 #[.agg #[.pointer x1, .pointer x2]] w fun e w' => ∃ p, e = .returned (ptr p) ∧ BigV w' p b ∧ Below w.heap.size w w' := by
  rcases h.cases with ⟨rfl, rfl, rfl, rfl⟩ | ⟨p, q, rfl, rfl, hpq, h1, h2⟩
  · refine (B_nil none w).mono ?_
    rintro e w' ⟨rfl, rfl⟩
    exact ⟨_, rfl, ⟨_, 60, heap_alloc2_new w _ _, .inl ⟨rfl, _, _, rfl⟩⟩, ((Below.refl _ _).alloc (Nat.le_refl _) _).alloc (by simp) _⟩
  · refine (B_some q (some ⟨p, 0, none⟩) w).mono ?_
    rintro e w' ⟨rfl, rfl⟩
    have hb : Below w.heap.size w (w.alloc (.cells #[ptr p, ptr q] 24)) := (Below.refl _ _).alloc (Nat.le_refl _) _
    exact ⟨q, rfl, h2.below hb, hb⟩

/-! ### the two tables -/
def mulP (k : Nat) (a b : Int) : Int × Int :=
  match k with
  | 0 => (a, b) | 1 => (-a, -b) | 2 => (-b, a - b) | 3 => (b, b - a) | 4 => (b - a, -a) | _ => (a - b, a)
def unitP (k : Nat) : Int × Int :=
  match k with
  | 0 => (1, 0) | 1 => (-1, 0) | 2 => (0, 1) | 3 => (0, -1) | 4 => (-1, -1) | _ => (1, 1)

set_option maxHeartbeats 1000000 in
set_option maxRecDepth 100000 in
theorem mul_any (k : Nat) (hk : k < 6) (a b : Int) (h1 : -1099511627776 < a) (h2 : a < 1099511627776) (h3 : -1099511627776 < b) (h4 : b < 1099511627776) (w : World) :
    Calls Yba.prog 10 #[.int .i64 (k : Int), .int .i64 a, .int .i64 b] w fun e w' => e = .returned (.tuple #[.int .i64 (mulP k a b).1, .int .i64 (mulP k a b).2]) ∧ w' = w := by
  have e1 : IntKind.i64.wrap (-a) = -a := by rw [IntKind.wrap_i64]; omega
  have e2 : IntKind.i64.wrap (-b) = -b := by rw [IntKind.wrap_i64]; omega
  have e3 : IntKind.i64.wrap (a - b) = a - b := by rw [IntKind.wrap_i64]; omega
  have e4 : IntKind.i64.wrap (b - a) = b - a := by rw [IntKind.wrap_i64]; omega
  clear h1 h2 h3 h4
  match k, hk with
  | 0, _ => go_enter Yba.func10, Yba.ntmps10; go_wp2; go_ret2; exact ⟨rfl, rfl⟩
  | 1, _ => go_enter Yba.func10, Yba.ntmps10; go_wp2; go_ret2; exact ⟨rfl, rfl⟩
  | 2, _ => go_enter Yba.func10, Yba.ntmps10; go_wp2; go_ret2; exact ⟨rfl, rfl⟩
  | 3, _ => go_enter Yba.func10, Yba.ntmps10; go_wp2; go_ret2; exact ⟨rfl, rfl⟩
  | 4, _ => go_enter Yba.func10, Yba.ntmps10; go_wp2; go_ret2; exact ⟨rfl, rfl⟩
  | 5, _ => go_enter Yba.func10, Yba.ntmps10; go_wp2; go_ret2; exact ⟨rfl, rfl⟩

set_option maxHeartbeats 1000000 in
set_option maxRecDepth 100000 in
theorem unitT_any (k : Nat) (hk : k < 6) (w : World) :
    Calls Yba.prog 11 #[.int .i64 (k : Int)] w fun e w' => e = .returned (.tuple #[.int .i64 (unitP k).1, .int .i64 (unitP k).2]) ∧ w' = w := by
  match k, hk with
  | 0, _ => go_enter Yba.func11, Yba.ntmps11; go_wp2; go_ret2; exact ⟨rfl, rfl⟩
  | 1, _ => go_enter Yba.func11, Yba.ntmps11; go_wp2; go_ret2; exact ⟨rfl, rfl⟩
  | 2, _ => go_enter Yba.func11, Yba.ntmps11; go_wp2; go_ret2; exact ⟨rfl, rfl⟩
  | 3, _ => go_enter Yba.func11, Yba.ntmps11; go_wp2; go_ret2; exact ⟨rfl, rfl⟩
  | 4, _ => go_enter Yba.func11, Yba.ntmps11; go_wp2; go_ret2; exact ⟨rfl, rfl⟩
  | 5, _ => go_enter Yba.func11, Yba.ntmps11; go_wp2; go_ret2; exact ⟨rfl, rfl⟩
end Go.Proofs.Ybulkbxso
