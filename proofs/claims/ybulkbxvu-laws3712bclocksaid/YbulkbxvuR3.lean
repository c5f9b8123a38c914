/-
  resize of a nil slice.
-/
import Derived.Test.YbulkbxvuR2
import Derived.Shelf.Spec.SlicesGrow
import Derived.Ground.Names8Prog
namespace Go.Proofs
open Go.Shelf
shelf_lay_g Lays8.n4 Nm8 4 at Yba 23 as Yba.growI
end Go.Proofs
namespace Go.Proofs.Ybulkbxvu
open Go.RowKit
set_option linter.unusedVariables false

theorem i21 : ∃ i, Yba.prog.info? 21 = some i ∧ i.zero = some (.int .i32 0) ∧ i.size = 1 ∧ i.bytes = 4 := by
  have h : (Yba.prog.info? 21).map (fun i => (i.zero, i.size, i.bytes)) = some (some (.int .i32 0), 1, 4) := by kernel_rfl
  obtain ⟨j, h1, h2⟩ := Option.map_eq_some_iff.mp h
  injection h2 with h2 h3
  injection h3 with h3 h4
  exact ⟨j, h1, h2, h3, h4⟩
theorem zero1 (n : Nat) : Builtin.zeroCells (Value.int .i32 0).cells n = Array.replicate n (.int .i32 0) := by
  have e : (Value.int .i32 0).cells = #[Value.int .i32 0] := rfl
  rw [e]
  apply Array.ext
  · simp [Builtin.zeroCells]
  · intro i h1 h2
    simp [Builtin.zeroCells, Nat.mod_one]
theorem grow_nil (W : World) (n : Nat) (h0 : 0 < n) (hn : n ≤ 512) :
    Calls Yba.prog 23 #[.slice none 0 0, .int .i64 (n : Int)] W fun e W' => ∃ cap, n ≤ cap ∧ cap ≤ 9223372036854775807 ∧ e = .returned (.slice (some ⟨W.heap.size, 0, none⟩) 0 cap) ∧ W' = W.drew.alloc (.cells (Array.replicate cap (.int .i32 0)) 21) := by
  obtain ⟨i, hi, hz, hs, hb⟩ := i21
  have h := Any8.slices_Grow_grow Yba.growI i (.int .i32 0) hi hz (by omega) none 0 0 n [] W (by omega) (by omega) (by rw [hb]; omega) (by omega) (by simp) (fun _ => rfl) (fun a e => by cases e)
  refine Calls.mono h ?_
  rintro e W' ⟨he, hW⟩
  have h1 := grownCap_ge W (0 + n) 0 21
  have h2 := grownCap_le_maxLen W (0 + n) 0 21 (by simp only [maxLen]; omega)
  refine ⟨_, ?_, ?_, he, ?_⟩
  · exact (by omega : n ≤ grownCap W (0 + n) 0 21)
  · simp only [maxLen] at h2; exact h2
  · rw [hW, zero1, zero1]
    show W.drew.alloc (.cells (#[] ++ Array.replicate (0 + n - 0) (Value.int .i32 0) ++ Array.replicate (grownCap W (0 + n) 0 21 - (0 + n)) (Value.int .i32 0)) 21) = W.drew.alloc (.cells (Array.replicate (grownCap W (0 + n) 0 21) (.int .i32 0)) 21)
    rw [Array.empty_append, Array.replicate_append_replicate, show 0 + n - 0 + (grownCap W (0 + n) 0 21 - (0 + n)) = grownCap W (0 + n) 0 21 by omega]

theorem clear_row (g m n : Nat) : ∀ (c o : Nat) (W : World) (G : Nat → Int), o + c ≤ n → RowG W g 0 m n G → RowG (W.setCells g o (List.replicate c (.int .i32 0))) g 0 m n (fun t => if o ≤ t ∧ t < o + c then 0 else G t) ∧ ∀ w, Fr w W g → Fr w (W.setCells g o (List.replicate c (.int .i32 0))) g
  | 0, o, W, G, h, hR => ⟨hR.congr fun t ht => by rw [if_neg (by omega)], fun w hw => hw⟩
  | c + 1, o, W, G, h, hR => by
    have r := hR.set o (by omega) 0
    rw [Nat.zero_add] at r
    obtain ⟨h1, h2⟩ := clear_row g m n c (o + 1) (W.setCell ⟨g, o, none⟩ (.int .i32 0)) _ (by omega) r
    refine ⟨?_, fun w hw => h2 w (hw.set _ _ _ (.inl rfl))⟩
    refine RowG.congr (W := (W.setCell ⟨g, o, none⟩ (.int .i32 0)).setCells g (o + 1) (List.replicate c (.int .i32 0))) h1 fun t ht => ?_
    by_cases e : t = o
    · rw [if_neg (by omega), if_pos e, if_pos (by omega)]
    · by_cases e2 : o + 1 ≤ t ∧ t < o + 1 + c
      · rw [if_pos e2, if_pos (by omega)]
      · rw [if_neg e2, if_neg e, if_neg (by omega)]
/-- clear of a whole row of int32s. -/
theorem clear_run (W : World) (g m n c : Nat) (G : Nat → Int) (hn : 0 < n) (hR : RowG W g 0 m n G) : ∃ W2, (Builtin.clear_ #[28] 0 #[sl g 0 n c]).run Yba.prog W = .ok (.tuple #[]) W2 ∧ RowG W2 g 0 m n (fun _ => 0) ∧ ∀ w, Fr w W g → Fr w W2 g := by
  obtain ⟨c1, c2⟩ := hR.cells
  have h := Lib.run_clear_slice (P := Yba.prog) W 28 21 0 (.int .i32 0) Yba.underlying28 (fun w => by have := Yba.zeroValue21 w; exact this) rfl rfl g 0 n c hn (fun j hj => by rw [c1 j hj]; rfl) c2
  obtain ⟨h1, h2⟩ := clear_row g m n n 0 W G (by omega) hR
  exact ⟨_, h, h1.congr fun t ht => by rw [if_pos (by omega)], h2⟩

set_option maxHeartbeats 2000000 in
set_option maxRecDepth 100000 in
theorem resize_nil (W : World) (n : Nat) (h0 : 0 < n) (hn : n ≤ 3) :
    Calls Yba.prog 11 #[.slice none 0 0, .int .i64 (n : Int)] W fun e W' => ∃ cap, e = .returned (sl W.heap.size 0 n cap) ∧ n ≤ cap ∧ RowG W' W.heap.size 0 cap n (fun _ => 0) ∧ Below W.heap.size W W' ∧ W.heap.size < W'.heap.size := by
  have HG : Hid _ := grow_nil W n h0 (by omega)
  go_enter Yba.func11, Yba.ntmps11
  go_wp2_with (go_at_call 23; refine Calls.mono HG.out ?_; rintro e W1 ⟨cap, h1, h2, rfl, hW⟩
               have hR : RowG W1 W.heap.size 0 cap n (fun _ => 0) := by
                 rw [hW]
                 exact ⟨Array.replicate cap (.int .i32 0), heap_alloc_new W.drew _, by simp, by omega, fun j hj => by rw [Array.getElem?_replicate, if_pos (by omega)]⟩
               have hb : Below W.heap.size W W1 := by rw [hW]; exact (Below.refl _ _).drew.alloc (Nat.le_refl _) _
               have hlt : W.heap.size < W1.heap.size := cell_lt (hR.cells.1 0 h0)
               obtain ⟨W2, hcl, hR2, hfr⟩ := clear_run W1 W.heap.size cap n cap _ h0 hR
               have HW : Hid (RowG W2 W.heap.size 0 cap n (fun _ => 0) ∧ Below W.heap.size W W2 ∧ W.heap.size < W2.heap.size) := by
                 have f := hfr W1 (Fr.refl _ _)
                 refine ⟨hR2, hb.trans ⟨f.1, f.2.1, f.2.2.1, f.2.2.2.1, fun k hk => f.2.2.2.2 k (by omega) (by omega)⟩, ?_⟩
                 have := f.2.2.2.1; omega
               clear hW hR hb hlt hR2 hfr)
  go_ret
  exact ⟨cap, rfl, h1, HW.out⟩
end Go.Proofs.Ybulkbxvu
