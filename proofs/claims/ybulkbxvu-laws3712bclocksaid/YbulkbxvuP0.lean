/-
  races: the world inside it.
-/
import Derived.Test.YbulkbxvuR8
import Derived.Test.YbulkbxvuG0
namespace Go.Proofs.Ybulkbxvu
open Go.RowKit
set_option linter.unusedVariables false

/-- A row's cells. -/
abbrev intsN (l : List Nat) : List Value := l.map (fun k : Nat => .int .i32 (k : Int))

/-- Inside races: x.c, x.full, x.found are rows of its own. -/
structure RC (W0 W : World) (X base N bc mc bf mf : Nat) (cv fv : Nat → Int) (F : Value) (n : Nat) (xs : List Value) : Prop where
  os : W.os = W0.os
  tape : W.tape = W0.tape
  output : W.output = W0.output
  size : W0.heap.size ≤ W.heap.size
  blk : ∀ k, k < W0.heap.size → k ≠ X → W.heap[k]? = W0.heap[k]?
  xc : ∀ o, o ≠ 20 → o ≠ 21 → o ≠ 23 → W.cell? ⟨X, o, none⟩ = W0.cell? ⟨X, o, none⟩
  fz : ∀ o, W.frozen? ⟨X, o, none⟩ = false
  x20 : W.cell? ⟨X, 20, none⟩ = some (sl bc 0 N mc)
  x21 : W.cell? ⟨X, 21, none⟩ = some (sl bf 0 N mf)
  x23 : W.cell? ⟨X, 23, none⟩ = some F
  rc : RowG W bc 0 mc N cv
  rf : RowG W bf 0 mf N fv
  own : W.ownsRow base 21 1 F n xs
  xl : X < W0.heap.size
  bcl : W0.heap.size ≤ bc ∧ bc < base
  bfl : W0.heap.size ≤ bf ∧ bf < base
  ne : bc ≠ bf
  hb : base ≤ W.heap.size
section
variable {W0 W W' : World} {X base N bc mc bf mf n : Nat} {cv fv : Nat → Int} {F : Value} {xs : List Value}
theorem RC.keep (h : RC W0 W X base N bc mc bf mf cv fv F n xs) (hb : Below W.heap.size W W') : RC W0 W' X base N bc mc bf mf cv fv F n xs := by
  have hl := cell_lt h.x20
  have hs := h.size
  have h1 := h.bcl
  have h2 := h.bfl
  have h3 := h.hb
  exact ⟨hb.os.trans h.os, hb.tape.trans h.tape, hb.output.trans h.output, Nat.le_trans h.size hb.size, fun k hk hne => (hb.block k (by omega)).trans (h.blk k hk hne),
    fun o a b c => (hb.cell hl).trans (h.xc o a b c), fun o => (hb.frozen hl).trans (h.fz o), (hb.cell hl).trans h.x20, (hb.cell hl).trans h.x21, (hb.cell hl).trans h.x23,
    h.rc.same (hb.block _ (by omega)), h.rf.same (hb.block _ (by omega)),
    h.own.kept (row := none) ⟨hb.os, hb.tape, hb.output, hb.size, fun k hk _ => hb.block k hk⟩ (by cases hv : F.ownBlock <;> simp), h.xl, h.bcl, h.bfl, h.ne, by have := hb.size; omega⟩
theorem RC.drewN (h : RC W0 W X base N bc mc bf mf cv fv F n xs) (k : Nat) : RC W0 (W.drewN k) X base N bc mc bf mf cv fv F n xs := h.keep ⟨rfl, rfl, rfl, Nat.le_refl _, fun _ _ => rfl⟩
theorem RC.alloc (h : RC W0 W X base N bc mc bf mf cv fv F n xs) (o : Obj) : RC W0 (W.alloc o) X base N bc mc bf mf cv fv F n xs := h.keep ((Below.refl _ _).alloc (Nat.le_refl _) _)
/-- The found row's block is no other's. -/
theorem RC.far (h : RC W0 W X base N bc mc bf mf cv fv F n xs) {b : Nat} (hb : F.ownBlock = some b) : base ≤ b ∧ b < W.heap.size ∧ b ≠ X ∧ b ≠ bc ∧ b ≠ bf ∧ W0.heap.size ≤ b := by
  obtain ⟨a1, a2⟩ := h.own.lt b hb
  have h1 := h.bcl
  have h2 := h.bfl
  have h3 := h.xl
  omega
/-- The found row changes. -/
theorem RC.row (h : RC W0 W X base N bc mc bf mf cv fv F n xs) {F' : Value} {n' : Nat} {xs' : List Value} (hg : W.grownBy W' F.ownBlock) (hown : W'.ownsRow base 21 1 F' n' xs') (hx : W'.cell? ⟨X, 23, none⟩ = some F) :
    RC W0 (W'.setCell ⟨X, 23, none⟩ F') X base N bc mc bf mf cv fv F' n' xs' := by
  have hl := cell_lt h.x20
  have hs := h.size
  have h1 := h.bcl
  have h2 := h.bfl
  have h3 := h.hb
  have h4 := h.xl
  have hfar : ∀ k, k < base → some k ≠ F.ownBlock := fun k hk e => by have := (h.far e.symm).1; omega
  have blk : ∀ k, k < base → W'.heap[k]? = W.heap[k]? := fun k hk => hg.block k (by omega) (hfar k hk)
  have oth : ∀ k, k ≠ X → (W'.setCell ⟨X, 23, none⟩ F').heap[k]? = W'.heap[k]? := fun k hk => heap_setCell_other _ _ k _ (by simpa using hk)
  refine ⟨hg.os.trans h.os, hg.tape.trans h.tape, hg.output.trans h.output, by simp [World.setCell]; exact Nat.le_trans h.size hg.size, fun k hk hne => ?_, fun o a b c => ?_, fun o => ?_, ?_, ?_, ?_, ?_, ?_, ?_, h.xl, h.bcl, h.bfl, h.ne, ?_⟩
  · rw [oth k hne, blk k (by omega)]; exact h.blk k hk hne
  · rw [World.cell?_setCell_other _ _ _ _ (by simp), World.cell?_of_block (blk X (by omega))]; exact h.xc o a b c
  · rw [World.frozen?_setCell, World.frozen?_of_block (blk X (by omega))]; exact h.fz o
  · rw [World.cell?_setCell_other _ _ _ _ (by simp), World.cell?_of_block (blk X (by omega))]; exact h.x20
  · rw [World.cell?_setCell_other _ _ _ _ (by simp), World.cell?_of_block (blk X (by omega))]; exact h.x21
  · exact World.cell?_setCell_same _ _ _ hx
  · exact h.rc.same ((oth _ (by omega)).trans (blk _ h1.2))
  · exact h.rf.same ((oth _ (by omega)).trans (blk _ h2.2))
  · refine hown.kept (row := some X) ⟨rfl, rfl, rfl, by simp [World.setCell], fun k _ hne => oth k (fun e => hne (by rw [e]))⟩ ?_
    cases hv : F'.ownBlock with
    | none => exact .inl rfl
    | some c => exact .inr (fun e => by injection e with e; have := (hown.lt c hv).1; omega)
  · simp [World.setCell]; exact Nat.le_trans h.hb hg.size
theorem RC.cell (h : RC W0 W X base N bc mc bf mf cv fv F n xs) {b o : Nat} {v : Value} (hb : b ≠ X) (hc : W0.cell? ⟨b, o, none⟩ = some v) : W.cell? ⟨b, o, none⟩ = some v := by
  rw [World.cell?_of_block (h.blk b (cell_lt hc) hb)]; exact hc
theorem RC.xcell (h : RC W0 W X base N bc mc bf mf cv fv F n xs) {o : Nat} {v : Value} (h1 : o ≠ 20) (h2 : o ≠ 21) (h3 : o ≠ 23) (hc : W0.cell? ⟨X, o, none⟩ = some v) : W.cell? ⟨X, o, none⟩ = some v := (h.xc o h1 h2 h3).trans hc
theorem EvR.rc {p : Pl} {D : Dat} (he : EvR W0 p D) (h : RC W0 W p.X base N bc mc bf mf cv fv F n xs) (h2 : p.ge ≠ p.X) (h3 : p.gc ≠ p.X) : EvR W p D :=
  ⟨h.xcell (by decide) (by decide) (by decide) he.x2, h.xcell (by decide) (by decide) (by decide) he.x3, fun k hk => h.cell h2 (he.e0 k hk), fun k hk => h.cell h2 (he.e1 k hk), fun k hk => h.cell h2 (he.e2 k hk), fun k hk => h.cell h2 (he.e3 k hk), fun j hj => h.cell h3 (he.cl j hj), he.cap, he.capm, he.small, he.tN⟩
theorem UsR.rc {g o m : Nat} {U : Nat → Use4} (hu : UsR W0 g o m U) (h : RC W0 W X base N bc mc bf mf cv fv F n xs) (hg : g ≠ X) : UsR W g o m U := fun j hj =>
  ⟨h.cell hg (hu j hj).1, h.cell hg (hu j hj).2.1, h.cell hg (hu j hj).2.2.1, h.cell hg (hu j hj).2.2.2⟩
theorem UseR.rc {p : Pl} {u : Pu} {D : Dat} {gu : Nat} {U : Nat → Use4} (hu : UseR W0 p u D gu U) (h : RC W0 W p.X base N bc mc bf mf cv fv F n xs) (hg : gu ≠ p.X) : UseR W p u D gu U :=
  ⟨h.xcell (by decide) (by decide) (by decide) hu.x4, h.xcell (by decide) (by decide) (by decide) hu.x5, hu.au, hu.us.rc h hg, hu.cu, hu.cg, hu.mono, hu.tot, hu.small⟩
theorem PaR.rc {gp cp gr cr ne : Nat} {R : Nat → Nat} {run : Nat → Bool} (p : PaR W0 X gp cp gr cr ne R run) (h : RC W0 W X base N bc mc bf mf cv fv F n xs) (h1 : gp ≠ X) (h2 : gr ≠ X) : PaR W X gp cp gr cr ne R run :=
  ⟨h.xcell (by decide) (by decide) (by decide) p.x1, h.xcell (by decide) (by decide) (by decide) p.x7, fun k hk => h.cell h1 (p.n5 k hk), p.step, fun k hk => h.cell h2 (p.r0 k hk), fun k hk hr => h.cell h2 (p.r1 k hk hr), p.tot, p.cap, p.small⟩
theorem MapR.rc {M : Nat} {f : Nat → Value} (hm : MapR W0 M f) (h : RC W0 W X base N bc mc bf mf cv fv F n xs) (h1 : M ≠ X) : MapR W M f := hm.blk (h.blk M hm.lt h1)
end

theorem infoI32 : (Yba.prog.info? 21).map (fun i => (i.zero, i.size, i.bytes)) = some (some (.int .i32 0), 1, 4) := by kernel_rfl
/-- One number is appended. -/
theorem wp_app28 (w : World) {ops : Array Oper} {rest : List Oper} {o : Oper} {a : Act} {Q : Exit → Act → World → Prop} (hgd : o.guard = none) (s x : Operand)
    (ho : o.op = .call { callee := .builtin .append, args := #[s, x], argTypes := #[28, 28] })
    (base : Nat) (v : Value) (n : Nat) (xs : List Value) (hs : a.eval s = v) (hown : w.ownsRow base 21 1 v n xs) (u : Int) (b c : Nat) (hx : a.eval x = .slice (some ⟨b, 0, none⟩) 1 c)
    (hb : w.heap[b]? = some (.cells #[.int .i32 u] 21 (0, 0))) (hn : n ≤ 1000000) (hbase : base ≤ w.heap.size)
    (h : ∀ g cap w', w'.ownsRow base 21 1 (.slice (some ⟨g, 0, none⟩) (n + 1) cap) (n + 1) (xs ++ [.int .i32 u]) → w.grownBy w' v.ownBlock → (v.ownBlock = some g ∨ g = w.heap.size) → g < w'.heap.size → wpList Yba.prog ops Q rest (a.put o.dst (.slice (some ⟨g, 0, none⟩) (n + 1) cap)) w') :
    wpList Yba.prog ops Q (o :: rest) a w := by
  obtain ⟨i0, hi, hz0, hz1, hz2⟩ := info_parts infoI32
  exact wpList_append_lies w hgd s x 28 ho base 21 i0 (.int .i32 0) 1 4 Yba.underlying28 hi hz0 hz1 hz2 rfl (by decide) v n xs hs hown ⟨b, 0, none⟩ 1 c [.int .i32 u] hx rfl (World.news_of_block hb) (by simp [Value.oneCell']) (by decide) (by unfold maxLen; omega) (by omega) hbase _ rfl h
end Go.Proofs.Ybulkbxvu
