/-
  slices.Clone at []int32, two elements.
-/
import Derived.Test.YbulkbxvuF2
namespace Go.Proofs.Ybulkbxvu
open Go.RowKit
set_option linter.unusedVariables false

theorem infoC21 : (Yba.prog.info? 21).map (fun i => (i.zero, i.size, i.bytes)) = some (some (.int .i32 0), 1, 4) := by kernel_rfl
set_option maxHeartbeats 2000000 in
set_option maxRecDepth 100000 in
theorem clone_any (W : World) (b c : Nat) (x y : Int) (h0 : W.cell? ⟨b, 0, none⟩ = some (.int .i32 x)) (h1 : W.cell? ⟨b, 1, none⟩ = some (.int .i32 y)) :
    Calls Yba.prog 6 #[sl b 0 2 c] W fun e W' => ∃ g cap, e = .returned (sl g 0 2 cap) ∧ W.heap.size ≤ g ∧ W'.cell? ⟨g, 0, none⟩ = some (.int .i32 x) ∧ W'.cell? ⟨g, 1, none⟩ = some (.int .i32 y) ∧ Below W.heap.size W W' := by
  have hse : (binOp .eql 28 (sl b 0 2 c) (.slice none 0 0)).run Yba.prog W = .ok (.bool false) W := by kernel_rfl
  obtain ⟨i0, hi, hz0, hz1, hz2⟩ := info_parts infoC21
  have hb1 : Below W.heap.size W (W.alloc (.cells #[] 21)) := (Below.refl _ _).alloc (Nat.le_refl _) _
  have hn0 := heap_alloc_new W (.cells #[] 21)
  have HN : Hid (∀ j u, [Value.int .i32 x, .int .i32 y][j]? = some u → (W.alloc (.cells #[] 21)).cell? ((⟨b, 0, none⟩ : Addr).add j) = some u) := fun j u hj => by
    match j with
    | 0 => injection hj with hj; rw [← hj]; exact (hb1.cell (cell_lt h0)).trans h0
    | 1 => injection hj with hj; rw [← hj]; exact (hb1.cell (cell_lt h1)).trans h1
    | j + 2 => simp at hj
  have HO : Hid ((W.alloc (.cells #[] 21)).ownsRow W.heap.size 21 1 (.slice (some ⟨W.heap.size, 0, none⟩) 0 0) 0 []) := ⟨rfl, .inr ⟨W.heap.size, 0, #[], rfl, Nat.le_refl _, hn0, Nat.le_refl _, by unfold maxLen; omega, rfl, rfl⟩⟩
  have HB1 : Hid (Below W.heap.size W (W.alloc (.cells #[] 21))) := hb1
  clear hb1 hn0
  go_enter Yba.func6, Yba.ntmps6
  go_wp2_with (at_builtin; refine wpList_append_lies _ rfl _ _ 28 rfl W.heap.size 21 i0 (.int .i32 0) 1 4 Yba.underlying28 hi hz0 hz1 hz2 rfl (by decide) _ 0 [] rfl HO.out ⟨b, 0, none⟩ 2 c [.int .i32 x, .int .i32 y] rfl rfl HN.out (by simp [Value.oneCell']) (by decide) (by unfold maxLen; omega) (by omega) HB1.out.size _ rfl ?_; intro g cap W2 hown hgr hat hlt)
  go_ret
  have hc := hown.cells (g := g) rfl
  have c0 := hc 0 (.int .i32 x) rfl
  have c1 := hc 1 (.int .i32 y) rfl
  rw [show (⟨g, 0, none⟩ : Addr).add 0 = ⟨g, 0, none⟩ from rfl] at c0
  rw [show (⟨g, 0, none⟩ : Addr).add 1 = ⟨g, 1, none⟩ by simp [Addr.add]] at c1
  exact ⟨g, cap, rfl, (hown.lt g rfl).1, c0, c1, HB1.out.grown hgr HB1.out.size (fun k hk => by injection hk with hk; simp only at hk; omega)⟩
end Go.Proofs.Ybulkbxvu
