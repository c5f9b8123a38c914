/-
  slices.Clone at []int32, N elements.
-/
import Derived.Test.YbulkbxvuC0
namespace Go.Proofs.Ybulkbxvu.Ck
open Go.RowKit
set_option linter.unusedVariables false

set_option maxHeartbeats 2000000 in
set_option maxRecDepth 100000 in
theorem clone_any (W : World) (b c N : Nat) (G : Nat → Int) (hN1 : 1 ≤ N) (hN3 : N ≤ 3) (h : ∀ t, t < N → W.cell? ⟨b, t, none⟩ = some (.int .i32 (G t))) :
    Calls Yba.prog 6 #[sl b 0 N c] W fun e W' => ∃ g cap, e = .returned (sl g 0 N cap) ∧ W.heap.size ≤ g ∧ (∀ t, t < N → W'.cell? ⟨g, t, none⟩ = some (.int .i32 (G t))) ∧ Below W.heap.size W W' := by
  have hse : (binOp .eql 28 (sl b 0 N c) (.slice none 0 0)).run Yba.prog W = .ok (.bool false) W := by kernel_rfl
  obtain ⟨i0, hi, hz0, hz1, hz2⟩ := info_parts infoC21
  have hb1 : Below W.heap.size W (W.alloc (.cells #[] 21)) := (Below.refl _ _).alloc (Nat.le_refl _) _
  have hn0 := heap_alloc_new W (.cells #[] 21)
  obtain ⟨xs, hxs⟩ : ∃ xs, (List.range N).map (fun t => Value.int .i32 (G t)) = xs := ⟨_, rfl⟩
  have hlen : xs.length = N := by rw [← hxs]; simp
  have hget : ∀ t, t < N → xs[t]? = some (.int .i32 (G t)) := fun t ht => by rw [← hxs, List.getElem?_map, List.getElem?_range ht]; rfl
  have HN : Hid (∀ j u, xs[j]? = some u → (W.alloc (.cells #[] 21)).cell? ((⟨b, 0, none⟩ : Addr).add j) = some u) := fun j u hj => by
    have hjN : j < N := by rw [← hlen]; exact (List.getElem?_eq_some_iff.1 hj).1
    rw [hget j hjN] at hj
    injection hj with hj
    rw [← hj, show (⟨b, 0, none⟩ : Addr).add j = ⟨b, j, none⟩ by simp [Addr.add]; omega]
    exact (hb1.cell (cell_lt (h j hjN))).trans (h j hjN)
  have HO : Hid ((W.alloc (.cells #[] 21)).ownsRow W.heap.size 21 1 (.slice (some ⟨W.heap.size, 0, none⟩) 0 0) 0 []) := ⟨rfl, .inr ⟨W.heap.size, 0, #[], rfl, Nat.le_refl _, hn0, Nat.le_refl _, by unfold maxLen; omega, rfl, rfl⟩⟩
  have HB1 : Hid (Below W.heap.size W (W.alloc (.cells #[] 21))) := hb1
  have H1 : Hid (∀ u ∈ xs, u.oneCell' = true) := fun u hu => by
    rw [← hxs] at hu
    simp only [List.mem_map] at hu
    obtain ⟨t, _, rfl⟩ := hu
    rfl
  have HL : Hid (xs.length = N ∧ ∀ t, t < N → xs[t]? = some (.int .i32 (G t))) := ⟨hlen, hget⟩
  clear hb1 hn0 hxs hget h hlen
  go_enter Yba.func6, Yba.ntmps6
  go_wp2_with (at_builtin; refine wpList_append_lies _ rfl _ _ 28 rfl W.heap.size 21 i0 (.int .i32 0) 1 4 Yba.underlying28 hi hz0 hz1 hz2 rfl (by decide) _ 0 [] rfl HO.out ⟨b, 0, none⟩ N c xs rfl (by have := HL.out.1; omega) HN.out H1.out (by omega) (by unfold maxLen; omega) (by omega) HB1.out.size _ rfl ?_; intro g cap W2 hown hgr hat hlt)
  go_ret
  have hc := hown.cells (g := g) rfl
  refine ⟨g, cap, rfl, (hown.lt g rfl).1, fun t ht => ?_, HB1.out.grown hgr HB1.out.size (fun k hk => by injection hk with hk; simp only at hk; omega)⟩
  have := hc t (.int .i32 (G t)) (by rw [List.nil_append]; exact HL.out.2 t ht)
  rw [show (⟨g, 0, none⟩ : Addr).add t = ⟨g, t, none⟩ by simp [Addr.add]; omega] at this
  exact this
end Go.Proofs.Ybulkbxvu.Ck
