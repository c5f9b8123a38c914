/-
  Clock: reverse, whatever the clocks: the world inside it.
-/
import Derived.Test.YbulkbxvuQ0
import Derived.Test.YbulkbxvuE0
import Derived.Test.YbulkbxvuG1
namespace Go.Proofs.Ybulkbxvu
open Go.RowKit
set_option linter.unusedVariables false

/-- x.first: nil, or a row of N cells of its own. -/
def FRow (W : World) (base N : Nat) (F : Value) : Prop := F = .slice none 0 0 ∨ ∃ b c, ∃ G : Nat → Int, F = sl b 0 N c ∧ base ≤ b ∧ RowG W b 0 c N G ∧ N ≤ c ∧ (c : Int) ≤ 9223372036854775807
/-- Inside reverse. -/
structure RI (W0 W : World) (X base N : Nat) (F I : Value) (n : Nat) (xs : List Value) (EB : Nat) (g : Nat → Option Value) : Prop where
  os : W.os = W0.os
  tape : W.tape = W0.tape
  output : W.output = W0.output
  hb : base ≤ W.heap.size
  xl : X < base
  blk : ∀ k, k < base → k ≠ X → W.heap[k]? = W0.heap[k]?
  xc : ∀ o, o ≠ 22 → o ≠ 27 → W.cell? ⟨X, o, none⟩ = W0.cell? ⟨X, o, none⟩
  fz : ∀ o, W.frozen? ⟨X, o, none⟩ = W0.frozen? ⟨X, o, none⟩
  x22 : W.cell? ⟨X, 22, none⟩ = some F
  x27 : W.cell? ⟨X, 27, none⟩ = some I
  ff : FRow W base N F
  oi : W.ownsRow base 3 1 I n xs
  ii : ∀ u, u ∈ xs → ∃ t : Nat, t < N ∧ u = .int .i64 (t : Int)
  ap : ∀ b, F.ownBlock = some b → I.ownBlock ≠ some b
  bx : RowP W EB 84 g
  bg : base ≤ EB
  bf : F.ownBlock ≠ some EB
  bi : I.ownBlock ≠ some EB
section
variable {W0 W W' : World} {X base N n EB : Nat} {F I : Value} {xs : List Value} {g : Nat → Option Value}
theorem FRow.same (h : FRow W base N F) (hb : ∀ b, F.ownBlock = some b → W'.heap[b]? = W.heap[b]?) : FRow W' base N F := by
  rcases h with h | ⟨b, c, G, e, h1, h2, h3⟩
  · exact .inl h
  · exact .inr ⟨b, c, G, e, h1, h2.same (hb b (by rw [e]; rfl)), h3⟩
theorem FRow.lt (h : FRow W base N F) {b : Nat} (hb : F.ownBlock = some b) : base ≤ b ∧ b < W.heap.size := by
  rcases h with h | ⟨b', c, G, e, h1, ⟨C, h2, _⟩, h3⟩
  · rw [h] at hb; cases hb
  · rw [e] at hb; injection hb with hb; dsimp only at hb; subst hb
    exact ⟨h1, (Array.getElem?_eq_some_iff.1 h2).1⟩
theorem RI.keep (h : RI W0 W X base N F I n xs EB g) (hb : Below W.heap.size W W') : RI W0 W' X base N F I n xs EB g := by
  have hs := h.hb
  have hx := h.xl
  have hX := hb.block X (by omega)
  exact ⟨hb.os.trans h.os, hb.tape.trans h.tape, hb.output.trans h.output, by have := hb.size; omega, h.xl, fun k hk hne => (hb.block k (by omega)).trans (h.blk k hk hne), fun o a b => (World.cell?_of_block hX).trans (h.xc o a b), fun o => (World.frozen?_of_block hX).trans (h.fz o),
    (World.cell?_of_block hX).trans h.x22, (World.cell?_of_block hX).trans h.x27, h.ff.same (fun b hb' => hb.block b (h.ff.lt hb').2), h.oi.kept (row := none) ⟨hb.os, hb.tape, hb.output, hb.size, fun k hk _ => hb.block k hk⟩ (by cases hv : I.ownBlock <;> simp), h.ii, h.ap, h.bx.blk (hb.block _ h.bx.lt), h.bg, h.bf, h.bi⟩
theorem RI.drewN (h : RI W0 W X base N F I n xs EB g) (k : Nat) : RI W0 (W.drewN k) X base N F I n xs EB g := h.keep ⟨rfl, rfl, rfl, Nat.le_refl _, fun _ _ => rfl⟩
theorem RI.cell (h : RI W0 W X base N F I n xs EB g) {b o : Nat} {v : Value} (h1 : b < base) (h2 : b ≠ X) (hc : W0.cell? ⟨b, o, none⟩ = some v) : W.cell? ⟨b, o, none⟩ = some v := by
  rw [World.cell?_of_block (h.blk b h1 h2)]; exact hc
/-- x.first = a row of its own. -/
theorem RI.set22 (h : RI W0 W X base N F I n xs EB g) {b c : Nat} {G : Nat → Int} (hf : Fr W W' b ∨ Below W.heap.size W W') (hb : F.ownBlock = some b ∨ W.heap.size ≤ b) (hr : RowG W' b 0 c N G) (h1 : N ≤ c) (h2 : (c : Int) ≤ 9223372036854775807) :
    RI W0 (W'.setCell ⟨X, 22, none⟩ (sl b 0 N c)) X base N (sl b 0 N c) I n xs EB g := by
  have hs := h.hb
  have hx := h.xl
  have hbb : base ≤ b := by
    rcases hb with hb | hb
    · exact (h.ff.lt hb).1
    · omega
  have hall : W'.os = W.os ∧ W'.tape = W.tape ∧ W'.output = W.output ∧ W.heap.size ≤ W'.heap.size ∧ ∀ k, k < W.heap.size → k ≠ b → W'.heap[k]? = W.heap[k]? := by
    rcases hf with hf | hf
    · exact hf
    · exact ⟨hf.os, hf.tape, hf.output, hf.size, fun k hk _ => hf.block k hk⟩
  obtain ⟨a1, a2, a3, a4, a5⟩ := hall
  have oth : ∀ k, k ≠ X → (W'.setCell ⟨X, 22, none⟩ (sl b 0 N c)).heap[k]? = W'.heap[k]? := fun k hk => heap_setCell_other _ _ k _ (by simpa using hk)
  have hX : W'.heap[X]? = W.heap[X]? := a5 X (by omega) (by omega)
  have neI : I.ownBlock ≠ some b := fun e => by
    rcases hb with hb | hb
    · exact h.ap b hb e
    · have := (h.oi.lt b e).2; omega
  have neE : b ≠ EB := fun e => by
    rcases hb with hb | hb
    · exact h.bf (by rw [hb, e])
    · have := h.bx.lt; omega
  refine ⟨a1.trans h.os, a2.trans h.tape, a3.trans h.output, by simp; omega, h.xl, fun k hk hne => ?_, fun o p q => ?_, fun o => ?_, ?_, ?_, .inr ⟨b, c, G, rfl, hbb, hr.same (oth b (by omega)), h1, h2⟩, ?_, h.ii, fun b' e e' => ?_, ?_, h.bg, fun e => ?_, h.bi⟩
  · rw [oth k hne, a5 k (by omega) (by omega)]; exact h.blk k hk hne
  · rw [World.cell?_setCell_other _ _ _ _ (by simp), World.cell?_of_block hX]; exact h.xc o p q
  · rw [World.frozen?_setCell, World.frozen?_of_block hX]; exact h.fz o
  · exact World.cell?_setCell_same _ _ _ ((World.cell?_of_block hX).trans h.x22)
  · rw [World.cell?_setCell_other _ _ _ _ (by simp), World.cell?_of_block hX]; exact h.x27
  · have h3 : W'.ownsRow base 3 1 I n xs := h.oi.kept (row := some b) ⟨a1, a2, a3, a4, fun k hk hne => a5 k hk (fun e => hne (by rw [e]))⟩ (.inr neI)
    refine h3.kept (row := some X) ⟨rfl, rfl, rfl, by simp, fun k _ hne => oth k (fun e => hne (by rw [e]))⟩ ?_
    cases hv : I.ownBlock with
    | none => exact .inl rfl
    | some q => exact .inr (fun e => by injection e with e; have := (h.oi.lt q hv).1; omega)
  · injection e with e; dsimp only at e; subst e; exact neI e'
  · exact h.bx.blk ((oth _ (by have := h.bg; omega)).trans (a5 _ h.bx.lt (Ne.symm neE)))
  · injection e with e; exact neE e
/-- x.first[t] = v. -/
theorem RI.setF {b c : Nat} (h : RI W0 W X base N (sl b 0 N c) I n xs EB g) (t : Nat) (ht : t < N) (v : Int) : RI W0 (W.setCell ⟨b, t, none⟩ (.int .i32 v)) X base N (sl b 0 N c) I n xs EB g := by
  have hs := h.hb
  have hx := h.xl
  have hbb := (h.ff.lt (b := b) rfl).1
  have oth : ∀ k, k ≠ b → (W.setCell ⟨b, t, none⟩ (.int .i32 v)).heap[k]? = W.heap[k]? := fun k hk => heap_setCell_other _ _ k _ (by simpa using hk)
  have hX := oth X (by omega)
  refine ⟨h.os, h.tape, h.output, by simp; omega, h.xl, fun k hk hne => (oth k (by omega)).trans (h.blk k hk hne), fun o p q => (World.cell?_of_block hX).trans (h.xc o p q), fun o => (World.frozen?_of_block hX).trans (h.fz o), (World.cell?_of_block hX).trans h.x22, (World.cell?_of_block hX).trans h.x27, ?_, ?_, h.ii, h.ap, h.bx.blk (oth _ (fun e => h.bf (by rw [e]; rfl))), h.bg, h.bf, h.bi⟩
  · rcases h.ff with e | ⟨b', c', G, e, h1, h2, h3⟩
    · cases e
    · simp only [sl, Value.slice.injEq, Option.some.injEq, Addr.mk.injEq, and_true, true_and] at e
      obtain ⟨rfl, rfl⟩ := e
      have := h2.set t ht v
      rw [Nat.zero_add] at this
      exact .inr ⟨b, c, _, rfl, h1, this, h3⟩
  · refine h.oi.kept (row := some b) ⟨rfl, rfl, rfl, by simp, fun k _ hne => oth k (fun e => hne (by rw [e]))⟩ (.inr (h.ap b rfl))
/-- x.initials = append(..). -/
theorem RI.push {W6 : World} (h : RI W0 W X base N F I n xs EB g) (hk : Below W.heap.size W W6) {gg cap n' : Nat} {xs' : List Value} (hown : W'.ownsRow base 3 1 (.slice (some ⟨gg, 0, none⟩) n' cap) n' xs') (hg : W6.grownBy W' I.ownBlock) (hat : I.ownBlock = some gg ∨ gg = W6.heap.size) (hx' : ∀ u, u ∈ xs' → ∃ t : Nat, t < N ∧ u = .int .i64 (t : Int)) :
    RI W0 (W'.setCell ⟨X, 27, none⟩ (.slice (some ⟨gg, 0, none⟩) n' cap)) X base N F (.slice (some ⟨gg, 0, none⟩) n' cap) n' xs' EB g := by
  have h6 := h.keep hk
  have hs := h6.hb
  have hx := h.xl
  have s7 := hg.size
  have oth : ∀ k, k ≠ X → (W'.setCell ⟨X, 27, none⟩ (.slice (some ⟨gg, 0, none⟩) n' cap)).heap[k]? = W'.heap[k]? := fun k hk => heap_setCell_other _ _ k _ (by simpa using hk)
  have lo : ∀ k, k < base → W'.heap[k]? = W6.heap[k]? := fun k hk => hg.block k (by omega) (fun e => by have := (h6.oi.lt k e.symm).1; omega)
  have hX := lo X hx
  have fb : ∀ b, F.ownBlock = some b → W'.heap[b]? = W6.heap[b]? := fun b hb => hg.block b (h6.ff.lt hb).2 (fun e => h6.ap b hb e.symm)
  refine ⟨hg.os.trans h6.os, hg.tape.trans h6.tape, hg.output.trans h6.output, by simp; omega, h.xl, fun k hk hne => ?_, fun o p q => ?_, fun o => ?_, ?_, ?_, ?_, ?_, hx', fun b hb e => ?_, ?_, h.bg, h.bf, fun e => ?_⟩
  · rw [oth k hne, lo k hk]; exact h6.blk k hk hne
  · rw [World.cell?_setCell_other _ _ _ _ (by simp), World.cell?_of_block hX]; exact h6.xc o p q
  · rw [World.frozen?_setCell, World.frozen?_of_block hX]; exact h6.fz o
  · rw [World.cell?_setCell_other _ _ _ _ (by simp), World.cell?_of_block hX]; exact h6.x22
  · exact World.cell?_setCell_same _ _ _ ((World.cell?_of_block hX).trans h6.x27)
  · refine h6.ff.same (fun b hb => (oth b (by have := (h6.ff.lt hb).1; omega)).trans (fb b hb))
  · refine hown.kept (row := some X) ⟨rfl, rfl, rfl, by simp, fun k _ hne => oth k (fun e => hne (by rw [e]))⟩ (.inr (fun e => by injection e with e; dsimp only at e; have := (hown.lt gg rfl).1; omega))
  · injection e with e
    dsimp only at e
    rcases hat with h1 | h1
    · exact h6.ap b hb (by rw [h1, e])
    · have := (h6.ff.lt hb).2; omega
  · refine h6.bx.blk ((oth _ (by have := h.bg; omega)).trans (hg.block EB h6.bx.lt (fun e => h6.bi e.symm)))
  · injection e with e
    dsimp only at e
    rcases hat with h1 | h1
    · exact h6.bi (by rw [h1, e])
    · have := h6.bx.lt; omega
end
end Go.Proofs.Ybulkbxvu
