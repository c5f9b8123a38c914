/-
  races: how it starts; what it is given; what it leaves.
-/
import Derived.Test.YbulkbxvuP1
import Derived.Test.YbulkbxvuG36
import Derived.Laws.CopyOwn
namespace Go.Proofs.Ybulkbxvu
open Go.RowKit
set_option linter.unusedVariables false

section
variable {W0 W W' : World} {X base N bc mc bf mf n : Nat} {cv fv : Nat → Int} {F : Value} {xs : List Value}
theorem RC.start {W W1 V W2 : World} {X N mc mf : Nat} (hX : X < W.heap.size) {v20 v21 : Value} (x20 : W.cell? ⟨X, 20, none⟩ = some v20) (x21 : W.cell? ⟨X, 21, none⟩ = some v21) (x23 : W.cell? ⟨X, 23, none⟩ = some (.slice none 0 0)) (fz : ∀ o, W.frozen? ⟨X, o, none⟩ = false)
    (R1 : RowG W1 W.heap.size 0 mc N (fun _ => 0)) (b1 : Below W.heap.size W W1) (l1 : W.heap.size < W1.heap.size) (hV : W1.setCell ⟨X, 20, none⟩ (sl W.heap.size 0 N mc) = V)
    (R2 : RowG W2 V.heap.size 0 mf N (fun _ => 0)) (b2 : Below V.heap.size V W2) (l2 : V.heap.size < W2.heap.size) :
    RC W (W2.setCell ⟨X, 21, none⟩ (sl V.heap.size 0 N mf)) X W2.heap.size N W.heap.size mc V.heap.size mf (fun _ => 0) (fun _ => 0) (.slice none 0 0) 0 [] := by
  have sV : V.heap.size = W1.heap.size := by rw [← hV]; simp
  have oV : ∀ k, k ≠ X → V.heap[k]? = W1.heap[k]? := fun k hk => by rw [← hV]; exact heap_setCell_other _ _ k _ (by simpa using hk)
  have o3 : ∀ k, k ≠ X → (W2.setCell ⟨X, 21, none⟩ (sl V.heap.size 0 N mf)).heap[k]? = W2.heap[k]? := fun k hk => heap_setCell_other _ _ k _ (by simpa using hk)
  have s1 := b1.size
  have s2 := b2.size
  have c2 : ∀ o, W2.cell? ⟨X, o, none⟩ = V.cell? ⟨X, o, none⟩ := fun o => World.cell?_of_block (b2.block X (by omega))
  have cV : ∀ o, o ≠ 20 → V.cell? ⟨X, o, none⟩ = W.cell? ⟨X, o, none⟩ := fun o ho => by
    rw [← hV, World.cell?_setCell_other _ _ _ _ (by simp)]
    exact World.cell?_of_block (b1.block X hX)
  have c20 : V.cell? ⟨X, 20, none⟩ = some (sl W.heap.size 0 N mc) := by
    rw [← hV]; exact World.cell?_setCell_same _ _ _ ((World.cell?_of_block (b1.block X hX)).trans x20)
  refine ⟨?_, ?_, ?_, by simp; omega, fun k hk hne => ?_, fun o h1 h2 h3 => ?_, fun o => ?_, ?_, ?_, ?_, ?_, ?_, ⟨rfl, .inl ⟨rfl, rfl⟩⟩, hX, ⟨Nat.le_refl _, by omega⟩, ⟨by omega, l2⟩, by omega, by simp⟩
  · show W2.os = _; rw [b2.os, ← hV]; exact b1.os
  · show W2.tape = _; rw [b2.tape, ← hV]; exact b1.tape
  · show W2.output = _; rw [b2.output, ← hV]; exact b1.output
  · rw [o3 k hne, b2.block k (by omega), oV k hne]; exact b1.block k hk
  · rw [World.cell?_setCell_other _ _ _ _ (by simp), c2, cV o h1]
  · rw [World.frozen?_setCell, World.frozen?_of_block (b2.block X (by omega)), ← hV, World.frozen?_setCell, World.frozen?_of_block (b1.block X hX)]; exact fz o
  · rw [World.cell?_setCell_other _ _ _ _ (by simp), c2]; exact c20
  · exact World.cell?_setCell_same _ _ _ ((c2 21).trans ((cV 21 (by decide)).trans x21))
  · rw [World.cell?_setCell_other _ _ _ _ (by simp), c2, cV 23 (by decide)]; exact x23
  · refine R1.same ?_
    rw [o3 _ (by omega), b2.block _ (by omega), oV _ (by omega)]
  · exact R2.same (o3 _ (by omega))
/-- x.full changes. -/
theorem RC.rowF (h : RC W0 W X base N bc mc bf mf cv fv F n xs) (hf : Fr W W' bf) {fv' : Nat → Int} (hr : RowG W' bf 0 mf N fv') : RC W0 W' X base N bc mc bf mf cv fv' F n xs := by
  obtain ⟨a1, a2, a3, a4, a5⟩ := hf
  have h1 := h.bcl
  have h2 := h.bfl
  have h3 := h.hb
  have h4 := h.xl
  have hX : W'.heap[X]? = W.heap[X]? := a5 X (by omega) (by omega)
  have hs := h.size
  exact ⟨a1.trans h.os, a2.trans h.tape, a3.trans h.output, by omega, fun k hk hne => (a5 k (by omega) (by omega)).trans (h.blk k hk hne), fun o p q r => (World.cell?_of_block hX).trans (h.xc o p q r), fun o => (World.frozen?_of_block hX).trans (h.fz o),
    (World.cell?_of_block hX).trans h.x20, (World.cell?_of_block hX).trans h.x21, (World.cell?_of_block hX).trans h.x23, h.rc.same (a5 _ (by omega) h.ne), hr,
    h.own.kept (row := some bf) ⟨a1, a2, a3, a4, fun k hk hne => a5 k hk (fun e => hne (by rw [e]))⟩ (by
      cases hv : F.ownBlock with
      | none => exact .inl rfl
      | some c => exact .inr (fun e => by injection e with e; have := (h.far hv).2.2.2.2.1; omega)), h.xl, h.bcl, h.bfl, h.ne, by omega⟩
/-- x.c changes. -/
theorem RC.rowC (h : RC W0 W X base N bc mc bf mf cv fv F n xs) (hf : Fr W W' bc) {cv' : Nat → Int} (hr : RowG W' bc 0 mc N cv') : RC W0 W' X base N bc mc bf mf cv' fv F n xs := by
  obtain ⟨a1, a2, a3, a4, a5⟩ := hf
  have h1 := h.bcl
  have h2 := h.bfl
  have h3 := h.hb
  have h4 := h.xl
  have hX : W'.heap[X]? = W.heap[X]? := a5 X (by omega) (by omega)
  have hs := h.size
  exact ⟨a1.trans h.os, a2.trans h.tape, a3.trans h.output, by omega, fun k hk hne => (a5 k (by omega) (by omega)).trans (h.blk k hk hne), fun o p q r => (World.cell?_of_block hX).trans (h.xc o p q r), fun o => (World.frozen?_of_block hX).trans (h.fz o),
    (World.cell?_of_block hX).trans h.x20, (World.cell?_of_block hX).trans h.x21, (World.cell?_of_block hX).trans h.x23, hr, h.rf.same (a5 _ (by omega) (Ne.symm h.ne)),
    h.own.kept (row := some bc) ⟨a1, a2, a3, a4, fun k hk hne => a5 k hk (fun e => hne (by rw [e]))⟩ (by
      cases hv : F.ownBlock with
      | none => exact .inl rfl
      | some c => exact .inr (fun e => by injection e with e; have := (h.far hv).2.2.2.1; omega)), h.xl, h.bcl, h.bfl, h.ne, by omega⟩
/-- The found row has grown; the explorer is as it was. -/
theorem RC.at23 (h : RC W0 W X base N bc mc bf mf cv fv F n xs) (hg : W.grownBy W' F.ownBlock) : W'.cell? ⟨X, 23, none⟩ = some F ∧ W'.frozen? ⟨X, 23, none⟩ = false := by
  have h1 := h.bcl
  have h3 := h.hb
  have h4 := h.xl
  have hf : W'.heap[X]? = W.heap[X]? := hg.block X (by omega) (fun e => by have := (h.far e.symm).1; omega)
  exact ⟨(World.cell?_of_block hf).trans h.x23, (World.frozen?_of_block hf).trans (h.fz 23)⟩
end
/-- A box beside the found row. -/
structure UBx (W : World) (F : Value) (base UB : Nat) (g : Nat → Option Value) : Prop where
  row : RowP W UB 72 g
  ne : F.ownBlock ≠ some UB
  ge : base ≤ UB
section
variable {W W' : World} {X base UB : Nat} {F F' : Value} {g : Nat → Option Value}
theorem UBx.keep (h : UBx W F base UB g) (hb : Below W.heap.size W W') : UBx W' F base UB g := ⟨h.row.blk (hb.block _ h.row.lt), h.ne, h.ge⟩
theorem UBx.app (h : UBx W F base UB g) (hg : W.grownBy W' F.ownBlock) {gg n c : Nat} (hat : F.ownBlock = some gg ∨ gg = W.heap.size) (hX : X < base) (v : Value) : UBx (W'.setCell ⟨X, 23, none⟩ v) (.slice (some ⟨gg, 0, none⟩) n c) base UB g := by
  have hl := h.row.lt
  have hge := h.ge
  refine ⟨h.row.blk ?_, ?_, h.ge⟩
  · rw [heap_setCell_other _ _ UB _ (by simp; omega)]
    exact hg.block UB hl (fun e => h.ne e.symm)
  · intro e
    injection e with e
    dsimp only at e
    rcases hat with h1 | h1
    · exact h.ne (by rw [h1, e])
    · omega
theorem UBx.new (W : World) (hF : ∀ b, F.ownBlock = some b → b < W.heap.size) (hb : base ≤ W.heap.size) (cs : Array Value) : UBx (W.alloc (.cells cs 72)) F base W.heap.size (fun o => cs[o]?) :=
  ⟨⟨cs, heap_alloc_new _ _, fun _ _ h => h⟩, fun e => by have := hF _ e; omega, hb⟩
end

theorem infoS21 : (Yba.prog.info? 21).map (·.size) = some 1 := by kernel_rfl
/-- copy(x.full, x.c). -/
theorem wp_copyG (w : World) {ops : Array Oper} {rest : List Oper} {o : Oper} {a : Act} {Q : Exit → Act → World → Prop} (hgd : o.guard = none) (d s : Operand)
    (ho : o.op = .call { callee := .builtin .copy, args := #[d, s], argTypes := #[28, 28] }) (bf mf bc N cf cc : Nat) (fv cv : Nat → Int) (hd : a.eval d = sl bf 0 N cf) (hs : a.eval s = sl bc 0 N cc)
    (hf : RowG w bf 0 mf N fv) (hc : ∀ t, t < N → w.cell? ⟨bc, t, none⟩ = some (.int .i32 (cv t)))
    (h : ∀ w', RowG w' bf 0 mf N cv → Fr w w' bf → wpList Yba.prog ops Q rest (a.put o.dst (goInt N)) w') : wpList Yba.prog ops Q (o :: rest) a w := by
  obtain ⟨C, h1, h2, h3, h4⟩ := hf
  have hl : ((List.range N).map (fun t => Value.int .i32 (cv t))).length = N := by simp
  refine wpList_copy_own hgd d s 28 28 ho 21 Yba.underlying28 infoS21 bf 0 N cf ⟨bc, 0, none⟩ N cc hd hs C 21 h1 ((List.range N).map (fun t => .int .i32 (cv t))) (by rw [hl]; exact (Nat.min_self N).symm) (fun j v hj => ?_) (by rw [hl]; omega) (fun v hv => ?_) ?_
  · simp only [List.getElem?_map] at hj
    by_cases hjn : j < N
    · rw [List.getElem?_range hjn] at hj
      injection hj with hj
      rw [← hj, show (⟨bc, 0, none⟩ : Addr).add j = ⟨bc, j, none⟩ by simp [Addr.add]; omega]
      exact hc j hjn
    · rw [List.getElem?_eq_none (by simp; omega)] at hj; cases hj
  · simp only [List.mem_map] at hv
    obtain ⟨t, _, rfl⟩ := hv
    rfl
  · rw [hl]
    refine h _ ⟨_, setRow_heap w bf _ _ 21 _ h1, ?_, h3, fun j hj => ?_⟩ ⟨rfl, rfl, rfl, by simp [World.setRow], fun k hk hne => setRow_other w bf k _ hne⟩
    · simp; omega
    · simp only [List.take_zero, List.nil_append, List.getElem?_toArray, Nat.zero_add]
      rw [List.getElem?_append_left (by simp; exact hj), List.getElem?_map, List.getElem?_range hj]; rfl

theorem mem_obL (E : EvD) (o : Nat) : ∀ (n x : Nat), x ∈ obL E o n ↔ x < n ∧ E.ce o x % 3 ≠ 0
  | 0, x => by simp [obL]
  | n + 1, x => by
    rw [obL, List.mem_append, mem_obL E o n x]
    by_cases h : E.ce o n % 3 = 0
    · rw [if_pos h]
      simp only [List.not_mem_nil, or_false]
      constructor
      · rintro ⟨a, b⟩; exact ⟨by omega, b⟩
      · rintro ⟨a, b⟩
        refine ⟨?_, b⟩
        by_cases e : x = n
        · subst e; exact absurd h b
        · omega
    · rw [if_neg h]
      simp only [List.mem_singleton]
      constructor
      · rintro (⟨a, b⟩ | rfl)
        · exact ⟨by omega, b⟩
        · exact ⟨by omega, h⟩
      · rintro ⟨a, b⟩
        by_cases e : x = n
        · exact .inr e
        · exact .inl ⟨by omega, b⟩
theorem obL_sorted (E : EvD) (o : Nat) : ∀ n, (obL E o n).Pairwise (· < ·)
  | 0 => by simp [obL]
  | n + 1 => by
    rw [obL, List.pairwise_append]
    refine ⟨obL_sorted E o n, by split <;> simp, fun a ha b hb => ?_⟩
    have := ((mem_obL E o n a).mp ha).1
    split at hb
    · simp at hb
    · simp at hb; omega
theorem obL_at {E : EvD} {o n i k : Nat} (h : (obL E o n)[i]? = some k) : k < n ∧ E.ce o k % 3 ≠ 0 := (mem_obL E o n k).mp (List.mem_of_getElem? h)
/-- What is later in the list is greater; what is greater is later. -/
theorem obL_later {E : EvD} {o n i k x : Nat} (h : (obL E o n)[i]? = some k) (hx : x < n) (hm : E.ce o x % 3 ≠ 0) (hk : k < x) : ∃ j, i < j ∧ (obL E o n)[j]? = some x := by
  obtain ⟨j, hj⟩ := List.mem_iff_getElem?.mp ((mem_obL E o n x).mpr ⟨hx, hm⟩)
  refine ⟨j, ?_, hj⟩
  have hs := obL_sorted E o n
  obtain ⟨l1, e1⟩ := List.getElem?_eq_some_iff.mp h
  obtain ⟨l2, e2⟩ := List.getElem?_eq_some_iff.mp hj
  rcases Nat.lt_trichotomy i j with h1 | h1 | h1
  · exact h1
  · subst h1; rw [e1] at e2; omega
  · have := List.pairwise_iff_getElem.mp hs j i l2 l1 h1
    rw [e1, e2] at this; omega
theorem obL_lt {E : EvD} {o n i j k x : Nat} (h : (obL E o n)[i]? = some k) (hj : (obL E o n)[j]? = some x) (hij : i < j) : k < x := by
  obtain ⟨l1, e1⟩ := List.getElem?_eq_some_iff.mp h
  obtain ⟨l2, e2⟩ := List.getElem?_eq_some_iff.mp hj
  have := List.pairwise_iff_getElem.mp (obL_sorted E o n) i j l1 l2 hij
  rw [e1, e2] at this; exact this

/-- Where all lies that races reads. -/
structure Pq where
  M : Nat
  RB : Nat
  S : Nat
  lb : Nat
  lc : Nat
  rb : Nat
  rc : Nat
  gs : Nat
  cs : Nat
  gol : Nat → Nat
  gp : Nat
  cp : Nat
  gr : Nat
  cr : Nat
  gu : Nat
def lastR (ne : Nat) : Nat → Int := fun t => if t = 0 then (ne : Int) - 1 else -1
/-- What races is given, at the chain. -/
structure RcIn (W : World) (p : Pl) (u : Pu) (D : Dat) (U : Nat → Use4) (q : Pq) (R : Nat → Nat) (run : Nat → Bool) (li : Nat → Value) (E : EvD) (nu : Nat) (su : Nat → Nat) : Prop where
  N2 : D.N = 2
  hne : D.ne ≤ 512
  hnu : nu ≤ 512
  x2 : ∃ ao c, W.cell? ⟨p.X, 2, none⟩ = some (.slice ao D.ne c)
  ev : 0 < D.ne → EvR W p D
  us : 0 < D.ne → UseR W p u D q.gu U
  pa : 0 < D.ne → PaR W p.X q.gp q.cp q.gr q.cr D.ne R run
  t0 : ∀ k, k < D.ne → D.t k = 0
  nth : ∀ k, k < D.ne → D.nth k = (k : Int) + 1
  ck0 : ∀ k, k < D.ne → D.ck (k * 2) = (k : Int) + 1
  ck1 : ∀ k, k < D.ne → D.ck (k * 2 + 1) = 0
  n0 : ∀ k, k < D.ne → W.cell? ⟨q.gp, k * 9, none⟩ = some (.int .i32 0)
  n7 : ∀ k, k < D.ne → W.cell? ⟨q.gp, k * 9 + 7, none⟩ = some (.slice none 0 0)
  n8 : ∀ k, k < D.ne → W.cell? ⟨q.gp, k * 9 + 8, none⟩ = some (.pointer none)
  f8 : ∀ k, k < D.ne → W.frozen? ⟨q.gp, k * 9 + 8, none⟩ = false
  x6 : W.cell? ⟨p.X, 6, none⟩ = some (.map (some q.M))
  x9 : W.cell? ⟨p.X, 9, none⟩ = some (.int .i64 1)
  x20 : W.cell? ⟨p.X, 20, none⟩ = some (.slice none 0 0)
  x21 : W.cell? ⟨p.X, 21, none⟩ = some (.slice none 0 0)
  x22 : W.cell? ⟨p.X, 22, none⟩ = some (.slice none 0 0)
  x23 : W.cell? ⟨p.X, 23, none⟩ = some (.slice none 0 0)
  x27 : W.cell? ⟨p.X, 27, none⟩ = some (.slice none 0 0)
  fz : ∀ o, W.frozen? ⟨p.X, o, none⟩ = false
  mp : MapR W q.M li
  lis : ∀ o, o < 3 → ∃ ao c, li o = .slice ao (obL E o D.ne).length c ∧ (0 < (obL E o D.ne).length → ao = some ⟨q.gol o, 0, none⟩)
  lic : ∀ o, o < 3 → ∀ j k : Nat, (obL E o D.ne)[j]? = some k → W.cell? ⟨q.gol o, j, none⟩ = some (.int .i32 (k : Int))
  s0 : W.cell? ⟨q.S, 0, none⟩ = some (.int .i64 (D.ne : Int))
  s1 : W.cell? ⟨q.S, 1, none⟩ = some (.int .i64 1)
  s2 : W.cell? ⟨q.S, 2, none⟩ = some (.slice (some ⟨q.gs, 0, none⟩) nu q.cs)
  s3 : W.cell? ⟨q.S, 3, none⟩ = some (.slice none 0 0)
  su' : UsR W q.gs 0 nu (fun j => dec (su j))
  r14 : W.cell? ⟨q.RB, 14, none⟩ = some (sl q.lb 0 2 q.lc)
  r15 : W.cell? ⟨q.RB, 15, none⟩ = some (sl q.rb 0 2 q.rc)
  l0 : W.cell? ⟨q.lb, 0, none⟩ = some (.int .i32 ((D.ne : Int) - 1))
  l1 : W.cell? ⟨q.lb, 1, none⟩ = some (.int .i32 (-1))
  rr1 : W.cell? ⟨q.rb, 1, none⟩ = some (.int .i32 (-1))
  dX : q.M ≠ p.X ∧ q.RB ≠ p.X ∧ q.S ≠ p.X ∧ q.lb ≠ p.X ∧ q.rb ≠ p.X ∧ q.gs ≠ p.X
  dX2 : p.ge ≠ p.X ∧ p.gc ≠ p.X ∧ q.gp ≠ p.X ∧ q.gr ≠ p.X ∧ q.gu ≠ p.X ∧ q.gr ≠ q.gp
  dX3 : p.ge ≠ q.gp ∧ p.gc ≠ q.gp
  dgo : ∀ o, o < 3 → q.gol o ≠ p.X
  wr : ∀ o, o < 3 → ∀ k, k < D.ne → ((∃ j, D.U k ≤ j ∧ j < D.U (k + 1) ∧ Use4.eq ⟨objK o, objI o, 0, true⟩ (U j) = true) ↔ E.ce o k % 3 = 2)
  en : ∀ k, k < D.ne → ((∃ j, D.U k ≤ j ∧ j < D.U (k + 1) ∧ (U j).k = 7) ↔ E.en k = true)
end Go.Proofs.Ybulkbxvu
