/-
  The law's events and bytes, as they are read; the model's marks.
-/
import Derived.Test.YbulkbxvuR0
namespace Go.Proofs.Ybulkbxvu
open Go.RowKit
set_option linter.unusedVariables false

/-- The law's events. -/
structure EvD where
  th : Nat → Nat
  ce : Nat → Nat → Nat
  en : Nat → Bool
  ru : Nat → Bool
  ck : Nat → Nat → Int
/-- One event's cells. -/
structure Ev9 (W : World) (b o : Nat) (E : EvD) (k : Nat) : Prop where
  c0 : W.cell? ⟨b, o, none⟩ = some (.int .u8 (E.th k : Int))
  c1 : ∀ i, i < 3 → W.cell? ⟨b, o + 1 + i, none⟩ = some (.int .u8 (E.ce i k : Int))
  c4 : W.cell? ⟨b, o + 4, none⟩ = some (.bool (E.en k))
  c5 : W.cell? ⟨b, o + 5, none⟩ = some (.bool (E.ru k))
  c6 : ∀ i, i < 3 → W.cell? ⟨b, o + 6 + i, none⟩ = some (.int .i32 (E.ck i k))
  b0 : E.th k < 256
  b1 : ∀ i, i < 3 → E.ce i k < 256
/-- The slice of events. -/
def EvA (W : World) (b off ne : Nat) (E : EvD) : Prop := ∀ k, k < ne → Ev9 W b (off + k * 9) E k
/-- A slice of bytes. -/
def ByA (W : World) (b off n : Nat) (su : Nat → Nat) : Prop := ∀ j, j < n → W.cell? ⟨b, off + j, none⟩ = some (.int .u8 (su j : Int)) ∧ su j < 256
theorem Ev9.below {W W' : World} {b o : Nat} {E : EvD} {k : Nat} (h : Ev9 W b o E k) (hb : Below W.heap.size W W') : Ev9 W' b o E k := by
  have hl := cell_lt h.c0
  exact ⟨(hb.cell hl).trans h.c0, fun i hi => (hb.cell hl).trans (h.c1 i hi), (hb.cell hl).trans h.c4, (hb.cell hl).trans h.c5, fun i hi => (hb.cell hl).trans (h.c6 i hi), h.b0, h.b1⟩
theorem EvA.below {W W' : World} {b o n : Nat} {E : EvD} (h : EvA W b o n E) (hb : Below W.heap.size W W') : EvA W' b o n E := fun k hk => (h k hk).below hb
theorem ByA.below {W W' : World} {b o n : Nat} {su : Nat → Nat} (h : ByA W b o n su) (hb : Below W.heap.size W W') : ByA W' b o n su := fun j hj => ⟨(hb.cell (cell_lt (h j hj).1)).trans (h j hj).1, (h j hj).2⟩

/-- The marks: a row of Booleans that says P. -/
def MRP (W : World) (g n : Nat) (P : Nat → Prop) : Prop := ∃ (C : Array Value) (B : Nat → Bool), W.heap[g]? = some (.cells C 4 (0, 0)) ∧ C.size = n ∧ (∀ x, x < n → C[x]? = some (.bool (B x))) ∧ ∀ x, x < n → (B x = true ↔ P x)
theorem MRP.cells {W : World} {g n : Nat} {P : Nat → Prop} (h : MRP W g n P) {x : Nat} (hx : x < n) : ∃ v : Bool, W.cell? ⟨g, x, none⟩ = some (.bool v) ∧ (v = true ↔ P x) ∧ W.frozen? ⟨g, x, none⟩ = false := by
  obtain ⟨C, B, h1, h2, h3, h4⟩ := h
  exact ⟨B x, by simp [World.cell?, h1, h3 x hx], h4 x hx, by simp [World.frozen?, h1]⟩
theorem MRP.set {W : World} {g n : Nat} {P : Nat → Prop} (h : MRP W g n P) {i : Nat} (hi : i < n) {P' : Nat → Prop} (hP : ∀ x, x < n → (P' x ↔ (x = i ∨ P x))) : MRP (W.setCell ⟨g, i, none⟩ (.bool true)) g n P' := by
  obtain ⟨C, B, h1, h2, h3, h4⟩ := h
  refine ⟨C.setIfInBounds i (.bool true), fun x => if x = i then true else B x, ?_, by simp [h2], ?_, ?_⟩
  · simp [World.setCell, Array.getElem?_modify, h1]
  · intro x hx
    rw [Array.getElem?_setIfInBounds]
    by_cases e : x = i
    · subst e; simp; omega
    · rw [if_neg (Ne.symm e)]; simp only [if_neg e]; exact h3 x hx
  · intro x hx
    rw [hP x hx]
    by_cases e : x = i
    · simp [e]
    · simp only [if_neg e, h4 x hx]; simp [e]
theorem MRP.congr {W : World} {g n : Nat} {P P' : Nat → Prop} (h : MRP W g n P) (hP : ∀ x, x < n → (P' x ↔ P x)) : MRP W g n P' := by
  obtain ⟨C, B, h1, h2, h3, h4⟩ := h
  exact ⟨C, B, h1, h2, h3, fun x hx => by rw [h4 x hx, hP x hx]⟩
theorem MRP.drewN {W : World} {g n : Nat} {P : Nat → Prop} (h : MRP W g n P) (k : Nat) : MRP (W.drewN k) g n P := h

/-- The events that a use of an object hits. -/
def HitO (m : Nat → Nat) (ne : Nat) (w : Bool) (k : Nat) : Prop := m k ≠ 0 ∧ (∀ k', k < k' → k' < ne → m k' ≠ 2) ∧ (m k = 2 ∨ w = true)
/-- .. that a byte hits. -/
def HitB (E : EvD) (ne N st : Nat) (last : Nat → Int) (b : Nat) (x : Nat) : Prop :=
  if b % 7 = 6 then ∃ t, t < N ∧ t ≠ st ∧ last t = (x : Int) else HitO (fun k => E.ce (b % 7 / 2) k % 3) ne (b % 7 % 2 == 1) x
/-- All that the model finds. -/
def FoundP (E : EvD) (ne N st : Nat) (th : Nat → Nat) (last : Nat → Int) (nu : Nat) (su : Nat → Nat) (x : Nat) : Prop :=
  (∃ j, j < nu ∧ HitB E ne N st last (su j) x) ∨ (x + 1 = ne ∧ E.en x = true ∧ th x ≠ st)
end Go.Proofs.Ybulkbxvu
