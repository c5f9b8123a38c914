/-
  zzs3712bbuild: what it builds, as rows.
-/
import Derived.Test.YbulkbxvuG0
namespace Go.Proofs.Ybulkbxvu
open Go.RowKit
set_option linter.unusedVariables false

/-- Block blk, not frozen, holds at least g. -/
def RowP (W : World) (blk e : Nat) (g : Nat → Option Value) : Prop := ∃ C : Array Value, W.heap[blk]? = some (.cells C e (0, 0)) ∧ ∀ o v, g o = some v → C[o]? = some v
section
variable {W W' : World} {bk e : Nat} {g : Nat → Option Value}
theorem RowP.cell (h : RowP W bk e g) {o : Nat} {v : Value} (hg : g o = some v) : W.cell? ⟨bk, o, none⟩ = some v := by
  obtain ⟨C, h1, h2⟩ := h
  simp [World.cell?, h1, h2 o v hg]
theorem RowP.fz (h : RowP W bk e g) (o : Nat) : W.frozen? ⟨bk, o, none⟩ = false := by
  obtain ⟨C, h1, h2⟩ := h
  simp [World.frozen?, h1]
theorem RowP.lt (h : RowP W bk e g) : bk < W.heap.size := by
  obtain ⟨C, h1, h2⟩ := h
  exact (Array.getElem?_eq_some_iff.1 h1).1
theorem RowP.blk (h : RowP W bk e g) (hb : W'.heap[bk]? = W.heap[bk]?) : RowP W' bk e g := by
  obtain ⟨C, h1, h2⟩ := h
  exact ⟨C, hb.trans h1, h2⟩
theorem RowP.set (h : RowP W bk e g) {o : Nat} {v : Value} (hg : g o = some v) (v' : Value) : RowP (W.setCell ⟨bk, o, none⟩ v') bk e (fun x => if x = o then some v' else g x) := by
  obtain ⟨C, h1, h2⟩ := h
  have ho : o < C.size := (Array.getElem?_eq_some_iff.1 (h2 o v hg)).1
  refine ⟨C.setIfInBounds o v', ?_, ?_⟩
  · simp [World.setCell, Array.getElem?_modify, h1]
  · intro x u hx
    by_cases e : x = o
    · subst e
      simp only [if_pos] at hx
      injection hx with hx
      simp [hx, ho]
    · simp only [if_neg e] at hx
      rw [Array.getElem?_setIfInBounds_ne (Ne.symm e)]
      exact h2 x u hx
theorem RowP.mono {g' : Nat → Option Value} (h : RowP W bk e g) (hg : ∀ o v, g' o = some v → g o = some v) : RowP W bk e g' := by
  obtain ⟨C, h1, h2⟩ := h
  exact ⟨C, h1, fun o v ho => h2 o v (hg o v ho)⟩
end

/-- The rows: path, events, clocks, uses, gates, runnable, the three objects' lists: their elements' types, cells an element, bytes. -/
def re : Nat → Nat
  | 0 => 53
  | 1 => 84
  | 3 => 72
  | 4 => 86
  | _ => 21
def rs : Nat → Nat
  | 0 => 9
  | 1 => 4
  | 3 => 4
  | _ => 1
/-- The explorer's fields. -/
def xo : Nat → Nat
  | 0 => 1
  | 1 => 2
  | 2 => 3
  | 3 => 4
  | 4 => 5
  | _ => 7
def xg (M : Nat) (N : Int) (xv : Nat → Value) : Nat → Option Value
  | 1 => some (xv 0)
  | 2 => some (xv 1)
  | 3 => some (xv 2)
  | 4 => some (xv 3)
  | 5 => some (xv 4)
  | 6 => some (.map (some M))
  | 7 => some (xv 5)
  | 9 => some (.int .i64 (N - 1))
  | 20 => some (.slice none 0 0)
  | 21 => some (.slice none 0 0)
  | 22 => some (.slice none 0 0)
  | 23 => some (.slice none 0 0)
  | 27 => some (.slice none 0 0)
  | _ => none
abbrev upd {α : Type} (f : Nat → α) (i : Nat) (a : α) : Nat → α := fun x => if x = i then a else f x
theorem upd_same {α : Type} (f : Nat → α) (i : Nat) (a : α) : upd f i a i = a := by simp
theorem upd_eq {α : Type} (f : Nat → α) (i : Nat) (a b : α) : upd (upd f i b) i a = upd f i a := by
  funext x
  by_cases h : x = i
  · simp [upd, h]
  · simp [upd, h]

/-- Where all lies. -/
structure Pc where
  base : Nat
  X : Nat
  M : Nat
  T : Nat
  L : Nat
  C : Nat

/-- The world inside build. -/
structure BI (W0 W : World) (p : Pc) (N : Int) (xv v : Nat → Value) (n : Nat → Nat) (xs : Nat → List Value) (m : Nat → Value) (gT gL gC : Nat → Option Value) : Prop where
  pX : RowP W p.X 77 (xg p.M N xv)
  pT : RowP W p.T 3 gT
  pL : RowP W p.L 21 gL
  pC : RowP W p.C 21 gC
  mp : MapR W p.M m
  own : ∀ i, i < 9 → W.ownsRow p.base (re i) (rs i) (v i) (n i) (xs i)
  ap : ∀ i j, i < 9 → j < 9 → i ≠ j → ∀ b, (v i).ownBlock = some b → (v j).ownBlock ≠ some b
  fr : Below W0.heap.size W0 W
  hb : p.base ≤ W.heap.size
  lo : W0.heap.size ≤ p.X ∧ W0.heap.size ≤ p.M ∧ W0.heap.size ≤ p.T ∧ W0.heap.size ≤ p.L ∧ W0.heap.size ≤ p.C
  hi : p.X < p.base ∧ p.M < p.base ∧ p.T < p.base ∧ p.L < p.base ∧ p.C < p.base
  d1 : p.X ≠ p.M ∧ p.X ≠ p.T ∧ p.X ≠ p.L ∧ p.X ≠ p.C
  d2 : p.M ≠ p.T ∧ p.M ≠ p.L ∧ p.M ≠ p.C
  d3 : p.T ≠ p.L ∧ p.T ≠ p.C ∧ p.L ≠ p.C
section
variable {W0 W W' : World} {p : Pc} {N : Int} {xv v : Nat → Value} {n : Nat → Nat} {xs : Nat → List Value} {m : Nat → Value} {gT gL gC : Nat → Option Value}
theorem BI.keep (h : BI W0 W p N xv v n xs m gT gL gC) (hb : Below W.heap.size W W') : BI W0 W' p N xv v n xs m gT gL gC := by
  have hs := h.hb
  have h0 := h.fr.size
  obtain ⟨a1, a2, a3, a4, a5⟩ := h.hi
  refine ⟨h.pX.blk (hb.block _ (by omega)), h.pT.blk (hb.block _ (by omega)), h.pL.blk (hb.block _ (by omega)), h.pC.blk (hb.block _ (by omega)), h.mp.blk (hb.block _ (by omega)), fun i hi => ?_, h.ap, h.fr.trans (hb.mono h0), by have := hb.size; omega, h.lo, h.hi, h.d1, h.d2, h.d3⟩
  exact (h.own i hi).kept (row := none) ⟨hb.os, hb.tape, hb.output, hb.size, fun k hk _ => hb.block k hk⟩ (by cases hv : (v i).ownBlock <;> simp)
theorem BI.alloc (h : BI W0 W p N xv v n xs m gT gL gC) (o : Obj) : BI W0 (W.alloc o) p N xv v n xs m gT gL gC := h.keep ((Below.refl _ _).alloc (Nat.le_refl _) _)
theorem BI.drewN (h : BI W0 W p N xv v n xs m gT gL gC) (k : Nat) : BI W0 (W.drewN k) p N xv v n xs m gT gL gC := h.keep ⟨rfl, rfl, rfl, Nat.le_refl _, fun _ _ => rfl⟩
theorem BI.app (h : BI W0 W p N xv v n xs m gT gL gC) (i : Nat) (hi : i < 9) {g n' cap : Nat} {xs' : List Value} (hown : W'.ownsRow p.base (re i) (rs i) (.slice (some ⟨g, 0, none⟩) n' cap) n' xs')
    (hg : W.grownBy W' (v i).ownBlock) (hat : (v i).ownBlock = some g ∨ g = W.heap.size) : BI W0 W' p N xv (upd v i (.slice (some ⟨g, 0, none⟩) n' cap)) (upd n i n') (upd xs i xs') m gT gL gC := by
  have hs := h.hb
  obtain ⟨a1, a2, a3, a4, a5⟩ := h.hi
  obtain ⟨l1, l2, l3, l4, l5⟩ := h.lo
  have hge : ∀ k, k < p.base → some k ≠ (v i).ownBlock := fun k hk e => by have := ((h.own i hi).lt k e.symm).1; omega
  have blk : ∀ k, k < p.base → W'.heap[k]? = W.heap[k]? := fun k hk => hg.block k (by omega) (hge k hk)
  refine ⟨h.pX.blk (blk _ a1), h.pT.blk (blk _ a3), h.pL.blk (blk _ a4), h.pC.blk (blk _ a5), h.mp.blk (blk _ a2), fun j hj => ?_, ?_, ?_, by have := hg.size; omega, h.lo, h.hi, h.d1, h.d2, h.d3⟩
  · by_cases e : j = i
    · subst e; simp only [upd_same]; exact hown
    · simp only [upd, if_neg e]
      refine (h.own j hj).kept hg ?_
      cases hv : (v j).ownBlock with
      | none => exact .inl rfl
      | some b => exact .inr (Ne.symm (h.ap j i hj hi e b hv))
  · have hnew : ∀ j, j < 9 → j ≠ i → (v j).ownBlock ≠ some g := by
      intro j hj e hv
      rcases hat with ht | ht
      · exact h.ap j i hj hi e g hv ht
      · have := ((h.own j hj).lt g hv).2; omega
    intro j k hj hk hne b hb hb2
    by_cases e1 : j = i
    · subst e1
      simp only [upd_same] at hb
      simp only [upd, if_neg (Ne.symm hne)] at hb2
      injection hb with hb; subst hb
      exact hnew k hk (Ne.symm hne) hb2
    · simp only [upd, if_neg e1] at hb
      by_cases e2 : k = i
      · subst e2
        simp only [upd_same] at hb2
        injection hb2 with hb2; subst hb2
        exact hnew j hj e1 hb
      · simp only [upd, if_neg e2] at hb2
        exact h.ap j k hj hk hne b hb hb2
  · have h0 := h.fr.size
    exact ⟨hg.os.trans h.fr.os, hg.tape.trans h.fr.tape, hg.output.trans h.fr.output, by have := hg.size; omega, fun k hk => (blk k (by omega)).trans (h.fr.block k hk)⟩
/-- A store into one of the fixed blocks leaves the rows. -/
theorem BI.frame {b : Nat} (h : BI W0 W p N xv v n xs m gT gL gC) (hb1 : W0.heap.size ≤ b) (hb2 : b < p.base) (hsz : W'.heap.size = W.heap.size) (ho : W'.os = W.os ∧ W'.tape = W.tape ∧ W'.output = W.output) (hk : ∀ k, k ≠ b → W'.heap[k]? = W.heap[k]?) :
    (∀ i, i < 9 → W'.ownsRow p.base (re i) (rs i) (v i) (n i) (xs i)) ∧ Below W0.heap.size W0 W' := by
  refine ⟨fun i hi => (h.own i hi).kept (row := some b) ⟨ho.1, ho.2.1, ho.2.2, by omega, fun k _ hne => hk k (fun e => hne (by rw [e]))⟩ ?_, h.fr.trans ⟨ho.1, ho.2.1, ho.2.2, by omega, fun k hk' => hk k (by omega)⟩⟩
  cases hv : (v i).ownBlock with
  | none => exact .inl rfl
  | some c => exact .inr (fun e => by injection e with e; have := ((h.own i hi).lt c hv).1; omega)
theorem xg_xo (M : Nat) (N : Int) (xv : Nat → Value) (i : Nat) (hi : i < 6) : xg M N xv (xo i) = some (xv i) := by
  match i, hi with
  | 0, _ => rfl
  | 1, _ => rfl
  | 2, _ => rfl
  | 3, _ => rfl
  | 4, _ => rfl
  | 5, _ => rfl
theorem xg_upd (M : Nat) (N : Int) (xv : Nat → Value) (i : Nat) (hi : i < 6) (a : Value) : (fun x => if x = xo i then some a else xg M N xv x) = xg M N (upd xv i a) := by
  funext x
  by_cases h : x = xo i
  · subst h; rw [if_pos rfl, xg_xo _ _ _ i hi]; simp
  · rw [if_neg h]
    match i, hi with
    | 0, _ | 1, _ | 2, _ | 3, _ | 4, _ | 5, _ => unfold xg; split <;> first | rfl | (exact absurd rfl h)
/-- x.f = v. -/
theorem BI.store (h : BI W0 W p N xv v n xs m gT gL gC) (i : Nat) (hi : i < 6) (a : Value) : BI W0 (W.setCell ⟨p.X, xo i, none⟩ a) p N (upd xv i a) v n xs m gT gL gC := by
  have hne : ∀ k, k ≠ p.X → (W.setCell ⟨p.X, xo i, none⟩ a).heap[k]? = W.heap[k]? := fun k hk => heap_setCell_other _ _ k _ (by simpa using hk)
  obtain ⟨f1, f2⟩ := h.frame (W' := W.setCell ⟨p.X, xo i, none⟩ a) (b := p.X) h.lo.1 h.hi.1 (by simp [World.setCell]) ⟨rfl, rfl, rfl⟩ hne
  obtain ⟨a1, a2, a3, a4⟩ := h.d1
  refine ⟨?_, h.pT.blk (hne _ (Ne.symm a2)), h.pL.blk (hne _ (Ne.symm a3)), h.pC.blk (hne _ (Ne.symm a4)), h.mp.blk (hne _ (Ne.symm a1)), f1, h.ap, f2, by simp [World.setCell]; exact h.hb, h.lo, h.hi, h.d1, h.d2, h.d3⟩
  rw [← xg_upd p.M N xv i hi a]
  exact h.pX.set (xg_xo _ _ _ i hi) a
theorem BI.setT (h : BI W0 W p N xv v n xs m gT gL gC) {o : Nat} {u : Value} (hg : gT o = some u) (a : Value) : BI W0 (W.setCell ⟨p.T, o, none⟩ a) p N xv v n xs m (fun x => if x = o then some a else gT x) gL gC := by
  have hne : ∀ k, k ≠ p.T → (W.setCell ⟨p.T, o, none⟩ a).heap[k]? = W.heap[k]? := fun k hk => heap_setCell_other _ _ k _ (by simpa using hk)
  obtain ⟨f1, f2⟩ := h.frame (W' := W.setCell ⟨p.T, o, none⟩ a) (b := p.T) h.lo.2.2.1 h.hi.2.2.1 (by simp [World.setCell]) ⟨rfl, rfl, rfl⟩ hne
  exact ⟨h.pX.blk (hne _ h.d1.2.1), h.pT.set hg a, h.pL.blk (hne _ (Ne.symm h.d3.1)), h.pC.blk (hne _ (Ne.symm h.d3.2.1)), h.mp.blk (hne _ h.d2.1), f1, h.ap, f2, by simp [World.setCell]; exact h.hb, h.lo, h.hi, h.d1, h.d2, h.d3⟩
theorem BI.setL (h : BI W0 W p N xv v n xs m gT gL gC) {o : Nat} {u : Value} (hg : gL o = some u) (a : Value) : BI W0 (W.setCell ⟨p.L, o, none⟩ a) p N xv v n xs m gT (fun x => if x = o then some a else gL x) gC := by
  have hne : ∀ k, k ≠ p.L → (W.setCell ⟨p.L, o, none⟩ a).heap[k]? = W.heap[k]? := fun k hk => heap_setCell_other _ _ k _ (by simpa using hk)
  obtain ⟨f1, f2⟩ := h.frame (W' := W.setCell ⟨p.L, o, none⟩ a) (b := p.L) h.lo.2.2.2.1 h.hi.2.2.2.1 (by simp [World.setCell]) ⟨rfl, rfl, rfl⟩ hne
  exact ⟨h.pX.blk (hne _ h.d1.2.2.1), h.pT.blk (hne _ h.d3.1), h.pL.set hg a, h.pC.blk (hne _ (Ne.symm h.d3.2.2)), h.mp.blk (hne _ h.d2.2.1), f1, h.ap, f2, by simp [World.setCell]; exact h.hb, h.lo, h.hi, h.d1, h.d2, h.d3⟩
theorem BI.setC (h : BI W0 W p N xv v n xs m gT gL gC) {o : Nat} {u : Value} (hg : gC o = some u) (a : Value) : BI W0 (W.setCell ⟨p.C, o, none⟩ a) p N xv v n xs m gT gL (fun x => if x = o then some a else gC x) := by
  have hne : ∀ k, k ≠ p.C → (W.setCell ⟨p.C, o, none⟩ a).heap[k]? = W.heap[k]? := fun k hk => heap_setCell_other _ _ k _ (by simpa using hk)
  obtain ⟨f1, f2⟩ := h.frame (W' := W.setCell ⟨p.C, o, none⟩ a) (b := p.C) h.lo.2.2.2.2 h.hi.2.2.2.2 (by simp [World.setCell]) ⟨rfl, rfl, rfl⟩ hne
  exact ⟨h.pX.blk (hne _ h.d1.2.2.2), h.pT.blk (hne _ h.d3.2.1), h.pL.blk (hne _ h.d3.2.2), h.pC.set hg a, h.mp.blk (hne _ h.d2.2.2), f1, h.ap, f2, by simp [World.setCell]; exact h.hb, h.lo, h.hi, h.d1, h.d2, h.d3⟩
/-- The map's block is laid anew. -/
theorem BI.setM (h : BI W0 W p N xv v n xs m gT gL gC) (o : Obj) {m' : Nat → Value} (hm : MapR (ChangeMaps.setBlock W p.M o) p.M m') : BI W0 (ChangeMaps.setBlock W p.M o) p N xv v n xs m' gT gL gC := by
  have hne : ∀ k, k ≠ p.M → (ChangeMaps.setBlock W p.M o).heap[k]? = W.heap[k]? := fun k hk => by simp [ChangeMaps.setBlock, Ne.symm hk]
  obtain ⟨f1, f2⟩ := h.frame (W' := ChangeMaps.setBlock W p.M o) (b := p.M) h.lo.2.1 h.hi.2.1 (by simp [ChangeMaps.setBlock]) ⟨rfl, rfl, rfl⟩ hne
  exact ⟨h.pX.blk (hne _ h.d1.1), h.pT.blk (hne _ (Ne.symm h.d2.1)), h.pL.blk (hne _ (Ne.symm h.d2.2.1)), h.pC.blk (hne _ (Ne.symm h.d2.2.2)), hm, f1, h.ap, f2, by simp [ChangeMaps.setBlock]; exact h.hb, h.lo, h.hi, h.d1, h.d2, h.d3⟩
end
end Go.Proofs.Ybulkbxvu
