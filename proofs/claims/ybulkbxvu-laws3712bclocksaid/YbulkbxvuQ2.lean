/-
  Clock: resize in either case; runnableAt where nobody can run.
-/
import Derived.Test.YbulkbxvuQ1
namespace Go.Proofs.Ybulkbxvu
open Go.RowKit
set_option linter.unusedVariables false

set_option maxHeartbeats 2000000 in
set_option maxRecDepth 100000 in
theorem resize_nil2 (W : World) (n : Nat) (h0 : 0 < n) (hn : n ≤ 3) :
    Calls Yba.prog 11 #[.slice none 0 0, .int .i64 (n : Int)] W fun e W' => ∃ cap, e = .returned (sl W.heap.size 0 n cap) ∧ n ≤ cap ∧ cap ≤ 9223372036854775807 ∧ RowG W' W.heap.size 0 cap n (fun _ => 0) ∧ Below W.heap.size W W' := by
  have HG : Hid _ := grow_nil W n h0 (by omega)
  go_enter Yba.func11, Yba.ntmps11
  go_wp2_with (go_at_call 23; refine Calls.mono HG.out ?_; rintro e W1 ⟨cap, h1, h2, rfl, hW⟩
               have hR : RowG W1 W.heap.size 0 cap n (fun _ => 0) := by
                 rw [hW]
                 exact ⟨Array.replicate cap (.int .i32 0), heap_alloc_new W.drew _, by simp, by omega, fun j hj => by rw [Array.getElem?_replicate, if_pos (by omega)]⟩
               have hb : Below W.heap.size W W1 := by rw [hW]; exact (Below.refl _ _).drew.alloc (Nat.le_refl _) _
               obtain ⟨W2, hcl, hR2, hfr⟩ := clear_run W1 W.heap.size cap n cap _ h0 hR
               have HW : Hid (RowG W2 W.heap.size 0 cap n (fun _ => 0) ∧ Below W.heap.size W W2 ∧ cap ≤ 9223372036854775807) := by
                 have f := hfr W1 (Fr.refl _ _)
                 exact ⟨hR2, hb.trans ⟨f.1, f.2.1, f.2.2.1, f.2.2.2.1, fun k hk => f.2.2.2.2 k (by have := hb.size; omega) (by omega)⟩, h2⟩
               clear hW hR hb hR2 hfr h2)
  go_ret
  exact ⟨cap, rfl, h1, HW.out.2.2, HW.out.1, HW.out.2.1⟩
/-- What resize hands back, in either case. -/
def ResOut (W : World) (N : Nat) (F : Value) (e : Ending) (W' : World) : Prop := ∃ b c, e = .returned (sl b 0 N c) ∧ (Fr W W' b ∨ Below W.heap.size W W') ∧ (F.ownBlock = some b ∨ W.heap.size ≤ b) ∧ RowG W' b 0 c N (fun _ => 0) ∧ N ≤ c ∧ (c : Int) ≤ 9223372036854775807
theorem resize_row (W : World) (base N : Nat) (F : Value) (h0 : 0 < N) (hN : N ≤ 3) (h : FRow W base N F) : Calls Yba.prog 11 #[F, .int .i64 (N : Int)] W fun e W' => ResOut W N F e W' := by
  rcases h with rfl | ⟨b, c, G, rfl, h1, h2, h3, h4⟩
  · refine (resize_nil2 W N h0 hN).mono ?_
    rintro e W' ⟨cap, rfl, a1, a2, a3, a4⟩
    exact ⟨_, cap, rfl, .inr a4, .inr (Nat.le_refl _), a3, a1, by omega⟩
  · refine (resize_old W b c N N G h0 hN h3 h2 h3 h4).mono ?_
    rintro e W' ⟨rfl, a1, a2⟩
    exact ⟨b, c, rfl, .inl a2, .inl rfl, a1, h3, h4⟩

/-- A slice of no elements. -/
def Nil7 (v : Value) : Prop := v = .slice none 0 0 ∨ ∃ g c : Nat, v = .slice (some ⟨g, 0, none⟩) 0 c ∧ (c : Int) ≤ 9223372036854775807
set_option maxHeartbeats 2000000 in
set_option maxRecDepth 100000 in
theorem runnableNil_any (W : World) (X gp cp ne k : Nat) (V : Value) (hV : Nil7 V) (hk : k < ne) (hne : ne ≤ 512) (x1 : W.cell? ⟨X, 1, none⟩ = some (.slice (some ⟨gp, 0, none⟩) ne cp)) (x7 : W.cell? ⟨X, 7, none⟩ = some V) (n5 : ∀ k, k < ne → W.cell? ⟨gp, k * 9 + 5, none⟩ = some (.int .i32 0)) :
    Calls Yba.prog 36 #[pt X, .int .i64 (k : Int)] W fun e W' => e = .returned V ∧ ∃ m, W' = W.drewN m := by
  have n1 := n5 k hk
  rcases hV with rfl | ⟨g, c, rfl, hc⟩
  · by_cases h1 : (k : Int) + 1 < (ne : Int)
    · have n2 := n5 (k + 1) (by omega)
      go_enter Yba.func36, Yba.ntmps36
      go_wp2
      go_quiet (fail)
      go_wp2
      go_ret
      exact ⟨rfl, _, rfl⟩
    · go_enter Yba.func36, Yba.ntmps36
      go_wp2
      go_quiet (fail)
      go_wp2
      go_ret
      exact ⟨rfl, _, rfl⟩
  · by_cases h1 : (k : Int) + 1 < (ne : Int)
    · have n2 := n5 (k + 1) (by omega)
      go_enter Yba.func36, Yba.ntmps36
      go_wp2
      go_quiet (fail)
      go_wp2
      go_ret
      exact ⟨rfl, _, rfl⟩
    · go_enter Yba.func36, Yba.ntmps36
      go_wp2
      go_quiet (fail)
      go_wp2
      go_ret
      exact ⟨rfl, _, rfl⟩
end Go.Proofs.Ybulkbxvu
