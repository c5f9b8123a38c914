/-
  Clock: reverse, whatever the clocks.
-/
import Derived.Test.YbulkbxvuQ2
import Derived.Test.YbulkbxvuG2
import Derived.Test.YbulkbxvuR5
namespace Go.Proofs.Ybulkbxvu
open Go.RowKit
set_option linter.unusedVariables false
set_option linter.unusedSimpArgs false

theorem RI.cut27 {W0 W : World} {X base N n EB : Nat} {F I : Value} {xs : List Value} {g : Nat → Option Value} (h : RI W0 W X base N F I n xs EB g) : ∃ I', ((I = .slice none 0 0 ∧ I' = .slice none 0 0) ∨ ∃ gg cap, I = .slice (some ⟨gg, 0, none⟩) n cap ∧ I' = .slice (some ⟨gg, 0, none⟩) 0 cap ∧ n ≤ cap ∧ cap ≤ maxLen) ∧ RI W0 (W.setCell ⟨X, 27, none⟩ I') X base N F I' 0 [] EB g := by
  have hs := h.hb
  have hx := h.xl
  have key : ∀ I' : Value, W.ownsRow base 3 1 I' 0 [] → (∀ b, I'.ownBlock = some b → I.ownBlock = some b) → RI W0 (W.setCell ⟨X, 27, none⟩ I') X base N F I' 0 [] EB g := fun I' ho hI => by
    have oth : ∀ k, k ≠ X → (W.setCell ⟨X, 27, none⟩ I').heap[k]? = W.heap[k]? := fun k hk => heap_setCell_other _ _ k _ (by simpa using hk)
    refine ⟨h.os, h.tape, h.output, by simp; omega, h.xl, fun k hk hne => (oth k hne).trans (h.blk k hk hne), fun o p q => ?_, fun o => ?_, ?_, World.cell?_setCell_same _ _ _ h.x27, h.ff.same (fun b hb => oth b (by have := (h.ff.lt hb).1; omega)), ?_, fun u hu => by simp at hu, fun b hb e => h.ap b hb (hI b e), h.bx.blk (oth _ (by have := h.bg; omega)), h.bg, h.bf, fun e => h.bi (hI _ e)⟩
    · rw [World.cell?_setCell_other _ _ _ _ (by simp)]; exact h.xc o p q
    · rw [World.frozen?_setCell]; exact h.fz o
    · rw [World.cell?_setCell_other _ _ _ _ (by simp)]; exact h.x22
    · refine ho.kept (row := some X) ⟨rfl, rfl, rfl, by simp, fun k _ hne => oth k (fun e => hne (by rw [e]))⟩ ?_
      cases hv : I'.ownBlock with
      | none => exact .inl rfl
      | some c => exact .inr (fun e => by injection e with e; have := (ho.lt c hv).1; omega)
  rcases h.oi.2 with ⟨e, _⟩ | ⟨gg, cap, cur, e, h1, h2, h3, h4, h5, h6⟩
  · exact ⟨.slice none 0 0, .inl ⟨e, rfl⟩, key _ ⟨rfl, .inl ⟨rfl, rfl⟩⟩ (fun b hb => by cases hb)⟩
  · exact ⟨.slice (some ⟨gg, 0, none⟩) 0 cap, .inr ⟨gg, cap, e, rfl, h3, h4⟩, key _ ⟨rfl, .inr ⟨gg, cap, cur, rfl, h1, h2, Nat.zero_le _, h4, h5, by simp⟩⟩ (fun b hb => by rw [e]; exact hb)⟩
theorem EvR.ri {W0 W : World} {p : Pl} {D : Dat} {base N n EB : Nat} {F I : Value} {xs : List Value} {g : Nat → Option Value} (he : EvR W0 p D) (h : RI W0 W p.X base N F I n xs EB g) (l1 : p.ge < base) (l2 : p.gc < base) (h2 : p.ge ≠ p.X) (h3 : p.gc ≠ p.X) : EvR W p D :=
  ⟨(h.xc 2 (by decide) (by decide)).trans he.x2, (h.xc 3 (by decide) (by decide)).trans he.x3, fun k hk => h.cell l1 h2 (he.e0 k hk), fun k hk => h.cell l1 h2 (he.e1 k hk), fun k hk => h.cell l1 h2 (he.e2 k hk), fun k hk => h.cell l1 h2 (he.e3 k hk), fun j hj => h.cell l2 h3 (he.cl j hj), he.cap, he.capm, he.small, he.tN⟩
theorem infoQ3 : (Yba.prog.info? 3).map (fun i => (i.zero, i.size, i.bytes)) = some (some (.int .i64 0), 1, 8) := by kernel_rfl
/-- append of one int. -/
theorem wp_app27 (w : World) {o : Oper} {a : Act} {K : Act → World → Prop} {Q : Exit → Act → World → Prop} (s x : Operand)
    (ho : o.op = .call { callee := .builtin .append, args := #[s, x], argTypes := #[27, 27] })
    (base : Nat) (v : Value) (n : Nat) (xs : List Value) (hs : a.eval s = v) (hown : w.ownsRow base 3 1 v n xs) (u : Int) (b c : Nat) (hx : a.eval x = .slice (some ⟨b, 0, none⟩) 1 c)
    (hb : w.heap[b]? = some (.cells #[.int .i64 u] 3 (0, 0))) (hn : n ≤ 4096) (hbase : base ≤ w.heap.size)
    (h : ∀ g cap w', w'.ownsRow base 3 1 (.slice (some ⟨g, 0, none⟩) (n + 1) cap) (n + 1) (xs ++ [.int .i64 u]) → w.grownBy w' v.ownBlock → (v.ownBlock = some g ∨ g = w.heap.size) → g < w'.heap.size → K (a.put o.dst (.slice (some ⟨g, 0, none⟩) (n + 1) cap)) w') :
    Oper.wp Yba.prog o a w K Q := by
  obtain ⟨i0, hi, hz0, hz1, hz2⟩ := info_parts infoQ3
  exact wp_append_lies w s x 27 ho base 3 i0 (.int .i64 0) 1 8 Yba.underlying27 hi hz0 hz1 hz2 rfl (by decide) v n xs hs hown ⟨b, 0, none⟩ 1 c [.int .i64 u] hx rfl (World.news_of_block hb) (by simp [Value.oneCell']) (by decide) (by unfold maxLen; omega) (by omega) hbase _ rfl h
/-- The explorer, after the initials have grown. -/
theorem RI.at27 {W0 W W6 W' : World} {X base N n EB : Nat} {F I : Value} {xs : List Value} {g : Nat → Option Value} (h : RI W0 W X base N F I n xs EB g) (hk : Below W.heap.size W W6) (hg : W6.grownBy W' I.ownBlock) : ∀ k, k < base → W'.heap[k]? = W.heap[k]? := fun k hk' => by
  have h6 := h.keep hk
  have s1 := h.hb
  have s6 := h6.hb
  rw [hg.block k (by omega) (fun e => by have := (h6.oi.lt k e.symm).1; omega), hk.block k (by omega)]
/-- x.first's cell. -/
theorem RI.atF {W0 W : World} {X base N n EB b c : Nat} {I : Value} {xs : List Value} {g : Nat → Option Value} (h : RI W0 W X base N (sl b 0 N c) I n xs EB g) (t : Nat) (ht : t < N) : ∃ v, W.cell? ⟨b, t, none⟩ = some (.int .i32 v) ∧ W.frozen? ⟨b, t, none⟩ = false := by
  rcases h.ff with e | ⟨b', c', G, e, _, hG, _⟩
  · cases e
  · simp only [sl, Value.slice.injEq, Option.some.injEq, Addr.mk.injEq, and_true, true_and] at e
    obtain ⟨rfl, rfl⟩ := e
    have h1 := hG.cells.1 t ht
    have h2 := hG.cells.2 t ht
    rw [Nat.zero_add] at h1 h2
    exact ⟨_, h1, h2⟩
theorem RI.shape27 {W0 W : World} {X base N n EB : Nat} {F I : Value} {xs : List Value} {g : Nat → Option Value} (h : RI W0 W X base N F I n xs EB g) : ∃ ao cap, I = .slice ao n cap := by
  rcases h.oi.2 with ⟨e, e2⟩ | ⟨gg, cap, cur, e, _⟩
  · exact ⟨none, 0, by rw [e, e2]⟩
  · exact ⟨_, _, e⟩
theorem RI.elem {W0 W : World} {X base N n EB cap : Nat} {F : Value} {ao : Option Addr} {xs : List Value} {g : Nat → Option Value} (h : RI W0 W X base N F (.slice ao n cap) n xs EB g) (i : Nat) (hi : i < n) : ∃ gg t, ao = some ⟨gg, 0, none⟩ ∧ t < N ∧ W.cell? ⟨gg, i, none⟩ = some (.int .i64 (t : Nat)) := by
  rcases h.oi.2 with ⟨e, e2⟩ | ⟨gg, cap', cur, e, h1, h2, h3, h4, h5, h6⟩
  · omega
  · injection e with e _ _
    have hl : xs.length = n := by have := h.oi.1; omega
    obtain ⟨t, ht, e3⟩ := h.ii xs[i] (List.getElem_mem (by omega))
    refine ⟨gg, t, e, ht, ?_⟩
    have hx : xs[i]? = some (.int .i64 (t : Int)) := by rw [List.getElem?_eq_getElem (by omega), e3]
    rw [← h6, List.getElem?_take_of_lt (by omega)] at hx
    simp only [Array.getElem?_toList] at hx
    simp [World.cell?, h2, hx]
/-- What reverse is given. -/
structure RvG (W : World) (p : Pl) (D : Dat) (S K gp cp bf cf base st : Nat) (fv : Nat → Int) (F I : Value) (n : Nat) (xs : List Value) : Prop where
  ev : EvR W p D
  hK : K < D.ne
  s0 : W.cell? ⟨S, 0, none⟩ = some (.int .i64 (D.ne : Int))
  s1 : W.cell? ⟨S, 1, none⟩ = some (.int .i64 (st : Int))
  hst : st < D.N
  x21 : W.cell? ⟨p.X, 21, none⟩ = some (sl bf 0 D.N cf)
  rf : ∀ t, t < D.N → W.cell? ⟨bf, t, none⟩ = some (.int .i32 (fv t))
  x1 : W.cell? ⟨p.X, 1, none⟩ = some (.slice (some ⟨gp, 0, none⟩) D.ne cp)
  x7 : ∃ v, W.cell? ⟨p.X, 7, none⟩ = some v ∧ Nil7 v
  n0 : W.cell? ⟨gp, K * 9, none⟩ = some (.int .i32 (D.t K : Int))
  n5 : ∀ k, k < D.ne → W.cell? ⟨gp, k * 9 + 5, none⟩ = some (.int .i32 0)
  n7 : W.cell? ⟨gp, K * 9 + 7, none⟩ = some (.slice none 0 0)
  n8 : W.cell? ⟨gp, K * 9 + 8, none⟩ = some (.pointer none)
  x22 : W.cell? ⟨p.X, 22, none⟩ = some F
  x27 : W.cell? ⟨p.X, 27, none⟩ = some I
  fz : ∀ o, W.frozen? ⟨p.X, o, none⟩ = false
  ff : FRow W base D.N F
  oi : W.ownsRow base 3 1 I n xs
  ii : ∀ u, u ∈ xs → ∃ t : Nat, t < D.N ∧ u = .int .i64 (t : Int)
  ap : ∀ b, F.ownBlock = some b → I.ownBlock ≠ some b
  hb : base ≤ W.heap.size
  lt : p.X < base ∧ p.ge < base ∧ p.gc < base ∧ gp < base ∧ bf < base ∧ S < base
  ne : p.ge ≠ p.X ∧ p.gc ≠ p.X ∧ gp ≠ p.X ∧ bf ≠ p.X ∧ S ≠ p.X
/-- What reverse leaves. -/
def RvGOut (W : World) (X base N : Nat) (e : Ending) (W' : World) : Prop := e = .returned (.tuple #[]) ∧ ∃ F I n xs EB g, RI W W' X base N F I n xs EB g

set_option maxHeartbeats 100000000 in
set_option maxRecDepth 100000 in
theorem rev_gen (W : World) (p : Pl) (D : Dat) (S K gp cp bf cf base st : Nat) (fv : Nat → Int) (F I : Value) (n : Nat) (xs : List Value) (h : RvG W p D S K gp cp bf cf base st fv F I n xs) :
    Calls Yba.prog 22 #[pt p.X, .int .i64 (K : Int), pt S] W fun e W' => RvGOut W p.X base D.N e W' := by
  obtain ⟨X, ge, ce, gc, cc⟩ := p
  obtain ⟨N, ne, t, nth, ck, U⟩ := D
  have HI : Hid (RvG W ⟨X, ge, ce, gc, cc⟩ ⟨N, ne, t, nth, ck, U⟩ S K gp cp bf cf base st fv F I n xs) := h
  have x2 := h.ev.x2
  have e0 := h.ev.e0 K h.hK
  have e1 := h.ev.e1 K h.hK
  have e2 := h.ev.e2 K h.hK
  have e3 := h.ev.e3 K h.hK
  have hK := h.hK
  have hne := h.ev.small.1
  have hN3 := h.ev.small.2.1
  have hN1 := h.ev.small.2.2
  simp only at x2 e0 e1 e2 e3 hK hne hN3 hN1
  show Calls Yba.prog 22 #[pt X, .int .i64 (K : Int), pt S] W fun e W' => RvGOut W X base N e W'
  clear h
  obtain ⟨tK, htK⟩ : ∃ tK, t K = tK := ⟨_, rfl⟩
  have HTK : Hid (t K = tK ∧ tK < N) := ⟨htK, by rw [← htK]; exact HI.out.ev.tN K hK⟩
  rw [htK] at e0
  obtain ⟨nK, hnK⟩ : ∃ nK, nth K = nK := ⟨_, rfl⟩
  rw [hnK] at e1
  obtain ⟨u, hu⟩ : ∃ u, ((K * N : Nat) : Int) = u := ⟨_, rfl⟩
  rw [hu] at e2
  obtain ⟨u3, hu3⟩ : ∃ u3, ((U K : Nat) : Int) = u3 := ⟨_, rfl⟩
  rw [hu3] at e3
  clear htK hnK hu hu3
  go_enter Yba.func22, Yba.ntmps22
  go_upto_region 1 with fail
  obtain ⟨W1, hW1⟩ : ∃ W1, W.alloc (.cells #[.int .i32 (tK : Int), .int .i32 nK, .int .i32 u, .int .i32 u3] 84) = W1 := ⟨_, rfl⟩
  obtain ⟨EB, hEB⟩ : ∃ EB, W.heap.size = EB := ⟨_, rfl⟩
  have HR1 : Hid (RI W W1 X base N F I n xs EB (fun o => #[.int .i32 (tK : Int), .int .i32 nK, .int .i32 u, .int .i32 u3][o]?)) := by
    have hb := HI.out.hb
    have hl := HI.out.lt.1
    simp only at hl
    have h0 : Below W.heap.size W W1 := by rw [← hW1]; exact (Below.refl _ _).alloc (Nat.le_refl _) _
    have hX := h0.block X (by omega)
    exact ⟨h0.os, h0.tape, h0.output, by have := h0.size; omega, hl, fun k hk _ => h0.block k (by omega), fun o _ _ => World.cell?_of_block hX, fun o => World.frozen?_of_block hX, (World.cell?_of_block hX).trans HI.out.x22, (World.cell?_of_block hX).trans HI.out.x27,
      HI.out.ff.same (fun b hb' => h0.block b (HI.out.ff.lt hb').2), HI.out.oi.kept (row := none) ⟨h0.os, h0.tape, h0.output, h0.size, fun k hk _ => h0.block k hk⟩ (by cases hv : I.ownBlock <;> simp), HI.out.ii, HI.out.ap, ⟨_, by rw [← hW1, ← hEB]; exact heap_alloc_new _ _, fun _ _ h => h⟩, by omega,
      fun e => by have := (HI.out.ff.lt e).2; omega, fun e => by have := (HI.out.oi.lt _ e).2; omega⟩
  rw [hW1, hEB]
  clear hW1 hEB e0 e1 e2 e3 x2
  go_cut [] (fun wx => ∃ b1 c1, Hid (RI W wx X base N (sl b1 0 N c1) I n xs EB (fun o => #[.int .i32 (tK : Int), .int .i32 nK, .int .i32 u, .int .i32 u3][o]?)))
  case first => as_aux_lemma =>
    have x22 := HR1.out.x22
    have x21 := (HR1.out.xc 21 (by decide) (by decide)).trans HI.out.x21
    simp only at x21
    have HRZ : Hid _ := resize_row W1.drew base N F (by omega) hN3 (HR1.out.drewN 1).ff
    refine anyBut.begin Yba.mixed (fun w : World => w.cell? ⟨X, 22, none⟩ = some F ∧ w.cell? ⟨X, 21, none⟩ = some (sl bf 0 N cf)) 13 ?_
    have hSS : (fun w : World => w.cell? ⟨X, 22, none⟩ = some F ∧ w.cell? ⟨X, 21, none⟩ = some (sl bf 0 N cf)) W1.drew := ⟨x22, x21⟩
    refine' anyBut.take (i := 0) (v := _) ?Ae0 (by kernel_rfl) (by kernel_rfl) (by kernel_rfl) (by kernel_rfl) (by kernel_rfl) (fun _ _ _ h => h) (Or.inl ⟨?Be0, ?Ce0⟩) hSS ?De0
    case Ae0 => simp only [List.getElem?_toArray, List.getElem?_cons_succ, List.getElem?_cons_zero]; rfl
    case Be0 => rfl
    case Ce0 => (intro w hSw; (try dsimp only at hSw); go_simp; (try with_reducible rfl))
    try simp only [Act.put, List.setIfInBounds_toArray, List.set_cons_zero, List.set_cons_succ]
    refine' anyBut.take (i := 1) (v := _) ?Ae1 (by kernel_rfl) (by kernel_rfl) (by kernel_rfl) (by kernel_rfl) (by kernel_rfl) (fun _ _ _ h => h) (Or.inl ⟨?Be1, ?Ce1⟩) hSS ?De1
    case Ae1 => simp only [List.getElem?_toArray, List.getElem?_cons_succ, List.getElem?_cons_zero]; rfl
    case Be1 => rfl
    case Ce1 => (intro w hSw; (try dsimp only at hSw); go_simp; (try with_reducible rfl))
    try simp only [Act.put, List.setIfInBounds_toArray, List.set_cons_zero, List.set_cons_succ]
    refine' anyBut.take (i := 2) (v := _) ?Ae2 (by kernel_rfl) (by kernel_rfl) (by kernel_rfl) (by kernel_rfl) (by kernel_rfl) (fun _ _ _ h => h) (Or.inl ⟨?Be2, ?Ce2⟩) hSS ?De2
    case Ae2 => simp only [List.getElem?_toArray, List.getElem?_cons_succ, List.getElem?_cons_zero]; rfl
    case Be2 => rfl
    case Ce2 => (intro w hSw; (try dsimp only at hSw); go_simp; (try with_reducible rfl))
    try simp only [Act.put, List.setIfInBounds_toArray, List.set_cons_zero, List.set_cons_succ]
    refine' anyBut.take (i := 3) (v := _) ?Ae3 (by kernel_rfl) (by kernel_rfl) (by kernel_rfl) (by kernel_rfl) (by kernel_rfl) (fun _ _ _ h => h) (Or.inl ⟨?Be3, ?Ce3⟩) hSS ?De3
    case Ae3 => simp only [List.getElem?_toArray, List.getElem?_cons_succ, List.getElem?_cons_zero]; rfl
    case Be3 => rfl
    case Ce3 => (intro w hSw; (try dsimp only at hSw); go_simp; (try with_reducible rfl))
    try simp only [Act.put, List.setIfInBounds_toArray, List.set_cons_zero, List.set_cons_succ]
    refine' anyBut.take (i := 4) (v := _) ?Ae4 (by kernel_rfl) (by kernel_rfl) (by kernel_rfl) (by kernel_rfl) (by kernel_rfl) (fun _ _ _ h => h) (Or.inl ⟨?Be4, ?Ce4⟩) hSS ?De4
    case Ae4 => simp only [List.getElem?_toArray, List.getElem?_cons_succ, List.getElem?_cons_zero]; rfl
    case Be4 => rfl
    case Ce4 => (intro w hSw; (try dsimp only at hSw); go_simp; (try with_reducible rfl))
    try simp only [Act.put, List.setIfInBounds_toArray, List.set_cons_zero, List.set_cons_succ]
    refine' anyBut.take (i := 5) (v := _) ?Ae5 (by kernel_rfl) (by kernel_rfl) (by kernel_rfl) (by kernel_rfl) (by kernel_rfl) (fun _ _ _ h => h) (Or.inl ⟨?Be5, ?Ce5⟩) hSS ?De5
    case Ae5 => simp only [List.getElem?_toArray, List.getElem?_cons_succ, List.getElem?_cons_zero]; rfl
    case Be5 => rfl
    case Ce5 => (intro w hSw; (try dsimp only at hSw); go_simp; (try with_reducible rfl))
    try simp only [Act.put, List.setIfInBounds_toArray, List.set_cons_zero, List.set_cons_succ]
    refine' anyBut.take (i := 6) (v := _) ?Ae6 (by kernel_rfl) (by kernel_rfl) (by kernel_rfl) (by kernel_rfl) (by kernel_rfl) (fun _ _ _ h => h) (Or.inl ⟨?Be6, ?Ce6⟩) hSS ?De6
    case Ae6 => simp only [List.getElem?_toArray, List.getElem?_cons_succ, List.getElem?_cons_zero]; rfl
    case Be6 => rfl
    case Ce6 => (intro w hSw; (try dsimp only at hSw); go_simp; (try with_reducible rfl))
    try simp only [Act.put, List.setIfInBounds_toArray, List.set_cons_zero, List.set_cons_succ]
    refine' anyBut.take (i := 7) (v := _) ?Ae7 (by kernel_rfl) (by kernel_rfl) (by kernel_rfl) (by kernel_rfl) (by kernel_rfl) (fun _ _ _ h => h) (Or.inl ⟨?Be7, ?Ce7⟩) hSS ?De7
    case Ae7 => simp only [List.getElem?_toArray, List.getElem?_cons_succ, List.getElem?_cons_zero]; rfl
    case Be7 => rfl
    case Ce7 => (intro w hSw; (try dsimp only at hSw); go_simp; (try with_reducible rfl))
    try simp only [Act.put, List.setIfInBounds_toArray, List.set_cons_zero, List.set_cons_succ]
    refine' anyBut.take (i := 8) (v := _) ?Ae8 (by kernel_rfl) (by kernel_rfl) (by kernel_rfl) (by kernel_rfl) (by kernel_rfl) (fun _ _ _ h => h) (Or.inl ⟨?Be8, ?Ce8⟩) hSS ?De8
    case Ae8 => simp only [List.getElem?_toArray, List.getElem?_cons_succ, List.getElem?_cons_zero]; rfl
    case Be8 => rfl
    case Ce8 => (intro w hSw; (try dsimp only at hSw); go_simp; (try with_reducible rfl))
    try simp only [Act.put, List.setIfInBounds_toArray, List.set_cons_zero, List.set_cons_succ]
    refine' anyBut.take (i := 9) (v := _) ?Ae9 (by kernel_rfl) (by kernel_rfl) (by kernel_rfl) (by kernel_rfl) (by kernel_rfl) (fun _ _ _ h => h) (Or.inl ⟨?Be9, ?Ce9⟩) hSS ?De9
    case Ae9 => simp only [List.getElem?_toArray, List.getElem?_cons_succ, List.getElem?_cons_zero]; rfl
    case Be9 => rfl
    case Ce9 => (intro w hSw; (try dsimp only at hSw); go_simp; (try with_reducible rfl))
    try simp only [Act.put, List.setIfInBounds_toArray, List.set_cons_zero, List.set_cons_succ]
    refine' anyBut.one (i := 10) ?Ae10 (by kernel_rfl) ?Be10 ?Ce10
    case Ae10 => simp only [List.getElem?_toArray, List.getElem?_cons_succ, List.getElem?_cons_zero]; rfl
    case Be10 => rfl
    intro K hK
    go_simp
    refine Calls.mono HRZ.out ?_
    rintro e W2 ⟨b1, c1, rfl, hf2, hb2, hr2, hc2, hc3⟩
    have hXW : W2.heap[X]? = W1.drew.heap[X]? := by
      have hl := HI.out.lt.1
      have hb := HR1.out.hb
      have hbb : base ≤ b1 := by
        rcases hb2 with e | e
        · exact (HR1.out.ff.lt e).1
        · exact Nat.le_trans hb e
      simp only at hl
      rcases hf2 with h | h
      · exact h.2.2.2.2 X (by show X < W1.heap.size; omega) (by omega)
      · exact h.block X (by show X < W1.heap.size; omega)
    have hSS : (fun w : World => w.cell? ⟨X, 22, none⟩ = some F ∧ w.cell? ⟨X, 21, none⟩ = some (sl bf 0 N cf)) W2 := ⟨(World.cell?_of_block hXW).trans x22, (World.cell?_of_block hXW).trans x21⟩
    have z2 : W2.frozen? ⟨X, 22, none⟩ = false := (World.frozen?_of_block hXW).trans ((HR1.out.fz 22).trans (HI.out.fz 22))
    refine hK _ _ (fun _ => hSS) ?_
    clear hK K HRZ
    try simp only [Act.put, List.setIfInBounds_toArray, List.set_cons_zero, List.set_cons_succ]
    refine' anyBut.one (i := 11) ?Ae11 (by kernel_rfl) ?Be11 ?Ce11
    case Ae11 => simp only [List.getElem?_toArray, List.getElem?_cons_succ, List.getElem?_cons_zero]; rfl
    case Be11 => rfl
    intro K hK
    go_simp
    refine hK _ _ (fun _ => hSS) ?_
    clear hK K
    refine' anyBut.one (i := 12) ?Ae12 (by kernel_rfl) ?Be12 ?Ce12
    case Ae12 => simp only [List.getElem?_toArray, List.getElem?_cons_succ, List.getElem?_cons_zero]; rfl
    case Be12 => rfl
    intro K hK
    go_simp
    refine hK _ _ (fun _ => hSS) ?_
    clear hK K
    refine' anyBut.one (i := 13) ?Ae13 (by kernel_rfl) ?Be13 ?Ce13
    case Ae13 => simp only [List.getElem?_toArray, List.getElem?_cons_succ, List.getElem?_cons_zero]; rfl
    case Be13 => rfl
    intro K hK
    have z1 := hSS.1
    go_simp
    refine hK _ _ (fun h => absurd rfl h) ?_
    clear hK K
    refine anyBut.done (by kernel_rfl) ?_ _
    go_wp2
    go_meet
    case rel => exact ⟨b1, c1, (HR1.out.drewN 1).set22 hf2 hb2 hr2 hc2 hc3⟩
  case rest =>
    obtain ⟨b1, c1, hcut⟩ := hcut
    have HR2 : Hid (RI W wc X base N (sl b1 0 N c1) I n xs EB (fun o => #[.int .i32 (tK : Int), .int .i32 nK, .int .i32 u, .int .i32 u3][o]?)) := hcut.out
    clear hcut HR1
    go_upto_region 2 with fail
    go_cut [] (fun wx => ∃ I', Hid (RI W wx X base N (sl b1 0 N c1) I' 0 [] EB (fun o => #[.int .i32 (tK : Int), .int .i32 nK, .int .i32 u, .int .i32 u3][o]?)))
    case first => as_aux_lemma =>
      obtain ⟨I', hI, hri⟩ := HR2.out.cut27
      have HRI : Hid (RI W (wc.setCell ⟨X, 27, none⟩ I') X base N (sl b1 0 N c1) I' 0 [] EB (fun o => #[.int .i32 (tK : Int), .int .i32 nK, .int .i32 u, .int .i32 u3][o]?)) := hri
      have x27 := HR2.out.x27
      have f27 := (HR2.out.fz 27).trans (HI.out.fz 27)
      clear hri HR2
      rcases hI with ⟨rfl, rfl⟩ | ⟨gg, cap, rfl, rfl, h1, h2⟩
      · go_wp2
        go_meet
        case rel => exact ⟨_, HRI.out⟩
      · unfold maxLen at h2
        have h2' : (cap : Int) ≤ 9223372036854775807 := by omega
        clear h2
        go_wp2
        go_meet
        case rel => exact ⟨_, HRI.out⟩
    case rest =>
      obtain ⟨I1, hcut⟩ := hcut
      have HR3 : Hid (RI W wc X base N (sl b1 0 N c1) I1 0 [] EB (fun o => #[.int .i32 (tK : Int), .int .i32 nK, .int .i32 u, .int .i32 u3][o]?)) := hcut.out
      clear hcut HR2
      go_wp2
      go_loopg [7] ne (fun gh v wx => ∃ (j : Nat) (I : Value) (n : Nat) (xs : List Value), gh + j = ne + K + 1 ∧ K < j ∧ j ≤ ne ∧ v = .int .i64 (j : Int) ∧ Hid (RI W wx X base N (sl b1 0 N c1) I n xs EB (fun o => #[.int .i32 (tK : Int), .int .i32 nK, .int .i32 u, .int .i32 u3][o]?) ∧ n ≤ j))
      case atStart => exact ⟨K + 1, I1, 0, [], by omega, by omega, by omega, by go_num, HR3.out, by omega⟩
      case round =>
        clear HR3
        obtain ⟨j, I2, n2, xs2, hgj, hKj, hjn, rfl, H⟩ := hrel
        obtain ⟨q1, q2, q3, q4, q5, q6⟩ := HI.out.lt
        obtain ⟨d1, d2, d3, d4, d5⟩ := HI.out.ne
        simp only at q1 q2 q3 q4 q5 q6 d1 d2 d3 d4 d5
        have ys0 := H.out.1.cell q6 d5 HI.out.s0
        simp only at ys0
        by_cases hj : (j : Int) < (ne : Int)
        · have HEV : Hid (EvR wr ⟨X, ge, ce, gc, cc⟩ ⟨N, ne, t, nth, ck, U⟩) := EvR.ri HI.out.ev H.out.1 q2 q3 d1 d2
          have HC : Hid _ := clockOf_any wr ⟨X, ge, ce, gc, cc⟩ ⟨N, ne, t, nth, ck, U⟩ HEV.out j (by show j < ne; omega)
          simp only at HC
          go_upto_region 7 with (go_at_call 24; refine Calls.mono HC.out ?_; rintro e W2 ⟨rfl, q, rfl⟩)
          obtain ⟨wq, hwq⟩ : ∃ wq : World, wr.drewN q = wq := ⟨_, rfl⟩
          have HQ : Hid (RI W wq X base N (sl b1 0 N c1) I2 n2 xs2 EB (fun o => #[.int .i32 (tK : Int), .int .i32 nK, .int .i32 u, .int .i32 u3][o]?) ∧ n2 ≤ j) := by rw [← hwq]; exact ⟨H.out.1.drewN q, H.out.2⟩
          rw [hwq]
          clear hwq HC H HEV ys0
          have HEV : Hid (EvR wq ⟨X, ge, ce, gc, cc⟩ ⟨N, ne, t, nth, ck, U⟩) := EvR.ri HI.out.ev HQ.out.1 q2 q3 d1 d2
          have hcl : ∀ t', t' < N → wq.cell? ⟨gc, j * N + t', none⟩ = some (.int .i32 (ck (j * N + t'))) := fun t' ht' => HEV.out.cl (j * N + t') (by
            show _ < ne * N
            have h9 : (j + 1) * N ≤ ne * N := Nat.mul_le_mul_right _ (by omega)
            rw [Nat.succ_mul] at h9
            omega)
          obtain ⟨vt, hvt⟩ : ∃ vt, ck (j * N + tK) = vt := ⟨_, rfl⟩
          have HA2 : Hid (∀ m, Calls Yba.prog 30 #[sl gc (j * N) N (cc - j * N), .int .i64 (tK : Int)] (wq.drewN m) fun e W' => e = .returned (.int .i32 vt) ∧ W' = wq.drewN m) := fun m => at_any (wq.drewN m) gc (j * N) N (cc - j * N) tK vt HTK.out.2 (by omega) (by rw [← hvt]; exact hcl tK HTK.out.2)
          have HBG : Hid (∀ m, Calls Yba.prog 32 #[pt X, sl gc (j * N) N (cc - j * N)] (wq.drewN m) fun e W' => SomeBool (wq.drewN m) e W') := fun m => by
            rcases HQ.out.1.ff with e | ⟨b', c', G, e, _, hG, _⟩
            · cases e
            · simp only [sl, Value.slice.injEq, Option.some.injEq, Addr.mk.injEq, and_true, true_and] at e
              obtain ⟨rfl, rfl⟩ := e
              exact begins_any (wq.drewN m) X b1 c1 N gc (j * N) (cc - j * N) G _ hN3 HQ.out.1.x22 (fun t' ht' => by have := hG.cells.1 t' ht'; rw [Nat.zero_add] at this; exact this) hcl
          have htK := HTK.out.2
          have hwt : IntKind.i64.wrap (tK : Int) = (tK : Int) := by rw [IntKind.wrap_i64]; omega
          have b0 := HQ.out.1.bx.cell (o := 0) rfl
          have b1' := HQ.out.1.bx.cell (o := 1) rfl
          clear hvt hcl
          by_cases hge : nK ≤ vt
          · go_quiet ((go_at_call 30; exact Calls.quiet_of_same (HA2.out _)))
            go_wp2
            go_roundg (ne + K + 1 - (j + 1))
            case measure => omega
            case rel => exact ⟨j + 1, I2, n2, xs2, by omega, by omega, by omega, by go_num, HQ.out.1.drewN nq, by have := HQ.out.2; omega⟩
          · go_quiet ((go_at_call 30; exact Calls.quiet_of_same (HA2.out _)))
            go_upto_if 66 with (go_at_call 32; refine Calls.mono (HBG.out _) ?_; rintro e W2 ⟨r, rfl, hw2⟩; rw [hw2]; clear hw2 W2)
            obtain ⟨wz, hwz⟩ : ∃ wz : World, wq.drewN nq = wz := ⟨_, rfl⟩
            have HZ : Hid (RI W wz X base N (sl b1 0 N c1) I2 n2 xs2 EB (fun o => #[.int .i32 (tK : Int), .int .i32 nK, .int .i32 u, .int .i32 u3][o]?) ∧ n2 ≤ j) := by rw [← hwz]; exact ⟨HQ.out.1.drewN nq, HQ.out.2⟩
            rw [hwz]
            clear hwz HQ HEV HA2 HBG b0 b1'
            go_cut [] (fun wx => ∃ (I : Value) (n : Nat) (xs : List Value), Hid (RI W wx X base N (sl b1 0 N c1) I n xs EB (fun o => #[.int .i32 (tK : Int), .int .i32 nK, .int .i32 u, .int .i32 u3][o]?) ∧ n ≤ j + 1))
            case first => as_aux_lemma =>
              cases r
              · go_wp2
                go_meet
                case rel => exact ⟨I2, n2, xs2, HZ.out.1, by have := HZ.out.2; omega⟩
              · have HEV : Hid (EvR wz ⟨X, ge, ce, gc, cc⟩ ⟨N, ne, t, nth, ck, U⟩) := EvR.ri HI.out.ev HZ.out.1 q2 q3 d1 d2
                have x2 := HEV.out.x2
                have e0 := HEV.out.e0 j (by show j < ne; omega)
                simp only at x2 e0
                obtain ⟨tj, htj⟩ : ∃ tj, t j = tj := ⟨_, rfl⟩
                have htN : tj < N := by rw [← htj]; exact HI.out.ev.tN j (by show j < ne; omega)
                rw [htj] at e0
                have hwj : IntKind.i64.wrap (tj : Int) = (tj : Int) := by rw [IntKind.wrap_i64]; omega
                have x27 := HZ.out.1.x27
                clear htj HEV
                go_wp2
                refine anyBut.begin Yba.mixed (fun w : World => w.cell? ⟨X, 27, none⟩ = some I2 ∧ w.cell? ⟨X, 2, none⟩ = some (.slice (some ⟨ge, 0, none⟩) ne ce) ∧ w.cell? ⟨ge, j * 4, none⟩ = some (.int .i32 (tj : Int))) 18 ?_
                have hSS : (fun w : World => w.cell? ⟨X, 27, none⟩ = some I2 ∧ w.cell? ⟨X, 2, none⟩ = some (.slice (some ⟨ge, 0, none⟩) ne ce) ∧ w.cell? ⟨ge, j * 4, none⟩ = some (.int .i32 (tj : Int))) wz.drew := ⟨x27, x2, e0⟩
                refine' anyBut.take (i := 0) (v := _) ?Af0 (by kernel_rfl) (by kernel_rfl) (by kernel_rfl) (by kernel_rfl) (by kernel_rfl) (fun _ _ _ h => h) (Or.inl ⟨?Bf0, ?Cf0⟩) hSS ?Df0
                case Af0 => simp only [List.getElem?_toArray, List.getElem?_cons_succ, List.getElem?_cons_zero]; rfl
                case Bf0 => rfl
                case Cf0 => (intro w hSw; (try dsimp only at hSw); go_simp; (try with_reducible rfl))
                try simp only [Act.put, List.setIfInBounds_toArray, List.set_cons_zero, List.set_cons_succ]
                refine' anyBut.take (i := 1) (v := _) ?Af1 (by kernel_rfl) (by kernel_rfl) (by kernel_rfl) (by kernel_rfl) (by kernel_rfl) (fun _ _ _ h => h) (Or.inl ⟨?Bf1, ?Cf1⟩) hSS ?Df1
                case Af1 => simp only [List.getElem?_toArray, List.getElem?_cons_succ, List.getElem?_cons_zero]; rfl
                case Bf1 => rfl
                case Cf1 => (intro w hSw; (try dsimp only at hSw); go_simp; (try with_reducible rfl))
                try simp only [Act.put, List.setIfInBounds_toArray, List.set_cons_zero, List.set_cons_succ]
                refine' anyBut.take (i := 2) (v := _) ?Af2 (by kernel_rfl) (by kernel_rfl) (by kernel_rfl) (by kernel_rfl) (by kernel_rfl) (fun _ _ _ h => h) (Or.inl ⟨?Bf2, ?Cf2⟩) hSS ?Df2
                case Af2 => simp only [List.getElem?_toArray, List.getElem?_cons_succ, List.getElem?_cons_zero]; rfl
                case Bf2 => rfl
                case Cf2 => (intro w hSw; (try dsimp only at hSw); go_simp; (try with_reducible rfl))
                try simp only [Act.put, List.setIfInBounds_toArray, List.set_cons_zero, List.set_cons_succ]
                refine' anyBut.take (i := 3) (v := _) ?Af3 (by kernel_rfl) (by kernel_rfl) (by kernel_rfl) (by kernel_rfl) (by kernel_rfl) (fun _ _ _ h => h) (Or.inl ⟨?Bf3, ?Cf3⟩) hSS ?Df3
                case Af3 => simp only [List.getElem?_toArray, List.getElem?_cons_succ, List.getElem?_cons_zero]; rfl
                case Bf3 => rfl
                case Cf3 => (intro w hSw; (try dsimp only at hSw); go_simp; (try with_reducible rfl))
                try simp only [Act.put, List.setIfInBounds_toArray, List.set_cons_zero, List.set_cons_succ]
                refine' anyBut.take (i := 4) (v := _) ?Af4 (by kernel_rfl) (by kernel_rfl) (by kernel_rfl) (by kernel_rfl) (by kernel_rfl) (fun _ _ _ h => h) (Or.inl ⟨?Bf4, ?Cf4⟩) hSS ?Df4
                case Af4 => simp only [List.getElem?_toArray, List.getElem?_cons_succ, List.getElem?_cons_zero]; rfl
                case Bf4 => rfl
                case Cf4 => (intro w hSw; (try dsimp only at hSw); go_simp; (try with_reducible rfl))
                try simp only [Act.put, List.setIfInBounds_toArray, List.set_cons_zero, List.set_cons_succ]
                refine' anyBut.take (i := 5) (v := _) ?Af5 (by kernel_rfl) (by kernel_rfl) (by kernel_rfl) (by kernel_rfl) (by kernel_rfl) (fun _ _ _ h => h) (Or.inl ⟨?Bf5, ?Cf5⟩) hSS ?Df5
                case Af5 => simp only [List.getElem?_toArray, List.getElem?_cons_succ, List.getElem?_cons_zero]; rfl
                case Bf5 => rfl
                case Cf5 => (intro w hSw; (try dsimp only at hSw); go_simp; (try with_reducible rfl))
                try simp only [Act.put, List.setIfInBounds_toArray, List.set_cons_zero, List.set_cons_succ]
                refine' anyBut.take (i := 6) (v := _) ?Af6 (by kernel_rfl) (by kernel_rfl) (by kernel_rfl) (by kernel_rfl) (by kernel_rfl) (fun _ _ _ h => h) (Or.inl ⟨?Bf6, ?Cf6⟩) hSS ?Df6
                case Af6 => simp only [List.getElem?_toArray, List.getElem?_cons_succ, List.getElem?_cons_zero]; rfl
                case Bf6 => rfl
                case Cf6 => (intro w hSw; (try dsimp only at hSw); go_simp; (try with_reducible rfl))
                try simp only [Act.put, List.setIfInBounds_toArray, List.set_cons_zero, List.set_cons_succ]
                refine' anyBut.take (i := 7) (v := _) ?Af7 (by kernel_rfl) (by kernel_rfl) (by kernel_rfl) (by kernel_rfl) (by kernel_rfl) (fun _ _ _ h => h) (Or.inl ⟨?Bf7, ?Cf7⟩) hSS ?Df7
                case Af7 => simp only [List.getElem?_toArray, List.getElem?_cons_succ, List.getElem?_cons_zero]; rfl
                case Bf7 => rfl
                case Cf7 => (intro w hSw; (try dsimp only at hSw); go_simp; (try with_reducible rfl))
                try simp only [Act.put, List.setIfInBounds_toArray, List.set_cons_zero, List.set_cons_succ]
                refine' anyBut.take (i := 8) (v := _) ?Af8 (by kernel_rfl) (by kernel_rfl) (by kernel_rfl) (by kernel_rfl) (by kernel_rfl) (fun _ _ _ h => h) (Or.inl ⟨?Bf8, ?Cf8⟩) hSS ?Df8
                case Af8 => simp only [List.getElem?_toArray, List.getElem?_cons_succ, List.getElem?_cons_zero]; rfl
                case Bf8 => rfl
                case Cf8 => (intro w hSw; (try dsimp only at hSw); go_simp; (try with_reducible rfl))
                try simp only [Act.put, List.setIfInBounds_toArray, List.set_cons_zero, List.set_cons_succ]
                refine' anyBut.take (i := 9) (v := _) ?Af9 (by kernel_rfl) (by kernel_rfl) (by kernel_rfl) (by kernel_rfl) (by kernel_rfl) (fun _ _ _ h => h) (Or.inl ⟨?Bf9, ?Cf9⟩) hSS ?Df9
                case Af9 => simp only [List.getElem?_toArray, List.getElem?_cons_succ, List.getElem?_cons_zero]; rfl
                case Bf9 => rfl
                case Cf9 => (intro w hSw; (try dsimp only at hSw); go_simp; (try with_reducible rfl))
                try simp only [Act.put, List.setIfInBounds_toArray, List.set_cons_zero, List.set_cons_succ]
                refine' anyBut.take (i := 10) (v := _) ?Af10 (by kernel_rfl) (by kernel_rfl) (by kernel_rfl) (by kernel_rfl) (by kernel_rfl) (fun _ _ _ h => h) (Or.inl ⟨?Bf10, ?Cf10⟩) hSS ?Df10
                case Af10 => simp only [List.getElem?_toArray, List.getElem?_cons_succ, List.getElem?_cons_zero]; rfl
                case Bf10 => rfl
                case Cf10 => (intro w hSw; (try dsimp only at hSw); go_simp; (try with_reducible rfl))
                try simp only [Act.put, List.setIfInBounds_toArray, List.set_cons_zero, List.set_cons_succ]
                refine' anyBut.take (i := 11) (v := _) ?Af11 (by kernel_rfl) (by kernel_rfl) (by kernel_rfl) (by kernel_rfl) (by kernel_rfl) (fun _ _ _ h => h) (Or.inl ⟨?Bf11, ?Cf11⟩) hSS ?Df11
                case Af11 => simp only [List.getElem?_toArray, List.getElem?_cons_succ, List.getElem?_cons_zero]; rfl
                case Bf11 => rfl
                case Cf11 => (intro w hSw; (try dsimp only at hSw); go_simp; (try with_reducible rfl))
                try simp only [Act.put, List.setIfInBounds_toArray, List.set_cons_zero, List.set_cons_succ]
                refine' anyBut.take (i := 12) (v := _) ?Af12 (by kernel_rfl) (by kernel_rfl) (by kernel_rfl) (by kernel_rfl) (by kernel_rfl) (fun _ _ _ h => h) (Or.inl ⟨?Bf12, ?Cf12⟩) hSS ?Df12
                case Af12 => simp only [List.getElem?_toArray, List.getElem?_cons_succ, List.getElem?_cons_zero]; rfl
                case Bf12 => rfl
                case Cf12 => (intro w hSw; (try dsimp only at hSw); go_simp; (try with_reducible rfl))
                try simp only [Act.put, List.setIfInBounds_toArray, List.set_cons_zero, List.set_cons_succ]
                refine' anyBut.take (i := 13) (v := _) ?Af13 (by kernel_rfl) (by kernel_rfl) (by kernel_rfl) (by kernel_rfl) (by kernel_rfl) (fun _ _ _ h => h) (Or.inl ⟨?Bf13, ?Cf13⟩) hSS ?Df13
                case Af13 => simp only [List.getElem?_toArray, List.getElem?_cons_succ, List.getElem?_cons_zero]; rfl
                case Bf13 => rfl
                case Cf13 => (intro w hSw; (try dsimp only at hSw); go_simp; (try with_reducible rfl))
                try simp only [Act.put, List.setIfInBounds_toArray, List.set_cons_zero, List.set_cons_succ]
                refine' anyBut.one (i := 14) ?Af14 (by kernel_rfl) ?Bf14 ?Cf14
                case Af14 => simp only [List.getElem?_toArray, List.getElem?_cons_succ, List.getElem?_cons_zero]; rfl
                case Bf14 => rfl
                intro K hK
                go_simp
                obtain ⟨W6, hW6⟩ : ∃ W6, (wz.alloc (.cells #[.int .i64 (tj : Int)] 3)).drew = W6 := ⟨_, rfl⟩
                have H6 : Hid (Below wz.heap.size wz W6 ∧ W6.heap[wz.heap.size]? = some (.cells #[.int .i64 (tj : Int)] 3 (0, 0))) := by
                  rw [← hW6]
                  exact ⟨((Below.refl _ _).alloc (Nat.le_refl _) _).drew, heap_alloc_new wz _⟩
                have hS6 : (fun w : World => w.cell? ⟨X, 27, none⟩ = some I2 ∧ w.cell? ⟨X, 2, none⟩ = some (.slice (some ⟨ge, 0, none⟩) ne ce) ∧ w.cell? ⟨ge, j * 4, none⟩ = some (.int .i32 (tj : Int))) W6 := ⟨(H6.out.1.cell (cell_lt x27)).trans x27, (H6.out.1.cell (cell_lt x2)).trans x2, (H6.out.1.cell (cell_lt e0)).trans e0⟩
                rw [hW6]
                refine hK _ _ (fun _ => hS6) ?_
                clear hK K hSS hS6 hW6
                refine' anyBut.one (i := 15) ?Af15 (by kernel_rfl) ?Bf15 ?Cf15
                case Af15 => simp only [List.getElem?_toArray, List.getElem?_cons_succ, List.getElem?_cons_zero]; rfl
                case Bf15 => rfl
                intro K hK
                refine wp_app27 _ _ _ rfl base I2 n2 xs2 rfl (HZ.out.1.keep H6.out.1).oi (tj : Int) _ _ rfl H6.out.2 (by have := HZ.out.2; omega) (HZ.out.1.keep H6.out.1).hb ?_
                intro gg cap W7 hown hgr hat hlt
                have hfar := HZ.out.1.at27 H6.out.1 hgr
                have hSS : (fun w : World => w.cell? ⟨X, 27, none⟩ = some I2 ∧ w.cell? ⟨X, 2, none⟩ = some (.slice (some ⟨ge, 0, none⟩) ne ce) ∧ w.cell? ⟨ge, j * 4, none⟩ = some (.int .i32 (tj : Int))) W7 := ⟨(World.cell?_of_block (hfar X q1)).trans x27, (World.cell?_of_block (hfar X q1)).trans x2, (World.cell?_of_block (hfar ge q2)).trans e0⟩
                refine hK _ _ (fun _ => hSS) ?_
                clear hK K
                try simp only [Act.put, List.setIfInBounds_toArray, List.set_cons_zero, List.set_cons_succ]
                refine' anyBut.one (i := 16) ?Af16 (by kernel_rfl) ?Bf16 ?Cf16
                case Af16 => simp only [List.getElem?_toArray, List.getElem?_cons_succ, List.getElem?_cons_zero]; rfl
                case Bf16 => rfl
                intro K hK
                go_simp
                refine hK _ _ (fun _ => hSS) ?_
                clear hK K
                refine' anyBut.one (i := 17) ?Af17 (by kernel_rfl) ?Bf17 ?Cf17
                case Af17 => simp only [List.getElem?_toArray, List.getElem?_cons_succ, List.getElem?_cons_zero]; rfl
                case Bf17 => rfl
                intro K hK
                go_simp
                refine hK _ _ (fun _ => hSS) ?_
                clear hK K
                refine' anyBut.one (i := 18) ?Af18 (by kernel_rfl) ?Bf18 ?Cf18
                case Af18 => simp only [List.getElem?_toArray, List.getElem?_cons_succ, List.getElem?_cons_zero]; rfl
                case Bf18 => rfl
                intro K hK
                have z1 := hSS.1
                have z2 : W7.frozen? ⟨X, 27, none⟩ = false := (World.frozen?_of_block (hfar X q1)).trans ((HZ.out.1.fz 27).trans (HI.out.fz 27))
                go_simp
                refine hK _ _ (fun h => absurd rfl h) ?_
                clear hK K
                refine anyBut.done (by kernel_rfl) ?_ _
                go_wp2
                go_meet
                case rel =>
                  refine ⟨_, n2 + 1, _, HZ.out.1.push H6.out.1 hown hgr hat (fun v hv => ?_), by have := HZ.out.2; omega⟩
                  rcases List.mem_append.mp hv with h | h
                  · exact HZ.out.1.ii v h
                  · exact ⟨tj, htN, by simpa using h⟩
            case rest =>
              obtain ⟨I3, n3, xs3, hcut⟩ := hcut
              have HY : Hid (RI W wc X base N (sl b1 0 N c1) I3 n3 xs3 EB (fun o => #[.int .i32 (tK : Int), .int .i32 nK, .int .i32 u, .int .i32 u3][o]?) ∧ n3 ≤ j + 1) := hcut.out
              clear hcut HZ
              have HEV : Hid (EvR wc ⟨X, ge, ce, gc, cc⟩ ⟨N, ne, t, nth, ck, U⟩) := EvR.ri HI.out.ev HY.out.1 q2 q3 d1 d2
              have x2 := HEV.out.x2
              have e0 := HEV.out.e0 j (by show j < ne; omega)
              have e1 := HEV.out.e1 j (by show j < ne; omega)
              simp only at x2 e0 e1
              obtain ⟨tj, htj⟩ : ∃ tj, t j = tj := ⟨_, rfl⟩
              have htN : tj < N := by rw [← htj]; exact HI.out.ev.tN j (by show j < ne; omega)
              rw [htj] at e0
              obtain ⟨nj, hnj⟩ : ∃ nj, nth j = nj := ⟨_, rfl⟩
              rw [hnj] at e1
              have x22 := HY.out.1.x22
              obtain ⟨fj, f1, f2⟩ : ∃ fj, wc.cell? ⟨b1, tj, none⟩ = some (.int .i32 fj) ∧ wc.frozen? ⟨b1, tj, none⟩ = false := HY.out.1.atF tj htN
              clear htj hnj HEV
              have htN' : (tj : Int) < (N : Int) := by omega
              by_cases hf0 : fj = 0
              · subst hf0
                go_upto_region 12 with fail
                clear f1
                refine anyBut.begin Yba.mixed (fun w : World => w.cell? ⟨X, 22, none⟩ = some (sl b1 0 N c1) ∧ w.cell? ⟨X, 2, none⟩ = some (.slice (some ⟨ge, 0, none⟩) ne ce) ∧ w.cell? ⟨ge, j * 4 + 1, none⟩ = some (.int .i32 nj)) 14 ?_
                have hSS : (fun w : World => w.cell? ⟨X, 22, none⟩ = some (sl b1 0 N c1) ∧ w.cell? ⟨X, 2, none⟩ = some (.slice (some ⟨ge, 0, none⟩) ne ce) ∧ w.cell? ⟨ge, j * 4 + 1, none⟩ = some (.int .i32 nj)) wc.drew := ⟨x22, x2, e1⟩
                refine' anyBut.take (i := 0) (v := _) ?Ah0 (by kernel_rfl) (by kernel_rfl) (by kernel_rfl) (by kernel_rfl) (by kernel_rfl) (fun _ _ _ h => h) (Or.inl ⟨?Bh0, ?Ch0⟩) hSS ?Dh0
                case Ah0 => simp only [List.getElem?_toArray, List.getElem?_cons_succ, List.getElem?_cons_zero]; rfl
                case Bh0 => rfl
                case Ch0 => (intro w hSw; (try dsimp only at hSw); go_simp; (try with_reducible rfl))
                try simp only [Act.put, List.setIfInBounds_toArray, List.set_cons_zero, List.set_cons_succ]
                refine' anyBut.take (i := 1) (v := _) ?Ah1 (by kernel_rfl) (by kernel_rfl) (by kernel_rfl) (by kernel_rfl) (by kernel_rfl) (fun _ _ _ h => h) (Or.inl ⟨?Bh1, ?Ch1⟩) hSS ?Dh1
                case Ah1 => simp only [List.getElem?_toArray, List.getElem?_cons_succ, List.getElem?_cons_zero]; rfl
                case Bh1 => rfl
                case Ch1 => (intro w hSw; (try dsimp only at hSw); go_simp; (try with_reducible rfl))
                try simp only [Act.put, List.setIfInBounds_toArray, List.set_cons_zero, List.set_cons_succ]
                refine' anyBut.take (i := 2) (v := _) ?Ah2 (by kernel_rfl) (by kernel_rfl) (by kernel_rfl) (by kernel_rfl) (by kernel_rfl) (fun _ _ _ h => h) (Or.inl ⟨?Bh2, ?Ch2⟩) hSS ?Dh2
                case Ah2 => simp only [List.getElem?_toArray, List.getElem?_cons_succ, List.getElem?_cons_zero]; rfl
                case Bh2 => rfl
                case Ch2 => (intro w hSw; (try dsimp only at hSw); go_simp; (try with_reducible rfl))
                try simp only [Act.put, List.setIfInBounds_toArray, List.set_cons_zero, List.set_cons_succ]
                refine' anyBut.take (i := 3) (v := _) ?Ah3 (by kernel_rfl) (by kernel_rfl) (by kernel_rfl) (by kernel_rfl) (by kernel_rfl) (fun _ _ _ h => h) (Or.inl ⟨?Bh3, ?Ch3⟩) hSS ?Dh3
                case Ah3 => simp only [List.getElem?_toArray, List.getElem?_cons_succ, List.getElem?_cons_zero]; rfl
                case Bh3 => rfl
                case Ch3 => (intro w hSw; (try dsimp only at hSw); go_simp; (try with_reducible rfl))
                try simp only [Act.put, List.setIfInBounds_toArray, List.set_cons_zero, List.set_cons_succ]
                refine' anyBut.take (i := 4) (v := _) ?Ah4 (by kernel_rfl) (by kernel_rfl) (by kernel_rfl) (by kernel_rfl) (by kernel_rfl) (fun _ _ _ h => h) (Or.inl ⟨?Bh4, ?Ch4⟩) hSS ?Dh4
                case Ah4 => simp only [List.getElem?_toArray, List.getElem?_cons_succ, List.getElem?_cons_zero]; rfl
                case Bh4 => rfl
                case Ch4 => (intro w hSw; (try dsimp only at hSw); go_simp; (try with_reducible rfl))
                try simp only [Act.put, List.setIfInBounds_toArray, List.set_cons_zero, List.set_cons_succ]
                refine' anyBut.take (i := 5) (v := _) ?Ah5 (by kernel_rfl) (by kernel_rfl) (by kernel_rfl) (by kernel_rfl) (by kernel_rfl) (fun _ _ _ h => h) (Or.inl ⟨?Bh5, ?Ch5⟩) hSS ?Dh5
                case Ah5 => simp only [List.getElem?_toArray, List.getElem?_cons_succ, List.getElem?_cons_zero]; rfl
                case Bh5 => rfl
                case Ch5 => (intro w hSw; (try dsimp only at hSw); go_simp; (try with_reducible rfl))
                try simp only [Act.put, List.setIfInBounds_toArray, List.set_cons_zero, List.set_cons_succ]
                refine' anyBut.take (i := 6) (v := _) ?Ah6 (by kernel_rfl) (by kernel_rfl) (by kernel_rfl) (by kernel_rfl) (by kernel_rfl) (fun _ _ _ h => h) (Or.inl ⟨?Bh6, ?Ch6⟩) hSS ?Dh6
                case Ah6 => simp only [List.getElem?_toArray, List.getElem?_cons_succ, List.getElem?_cons_zero]; rfl
                case Bh6 => rfl
                case Ch6 => (intro w hSw; (try dsimp only at hSw); go_simp; (try with_reducible rfl))
                try simp only [Act.put, List.setIfInBounds_toArray, List.set_cons_zero, List.set_cons_succ]
                refine' anyBut.take (i := 7) (v := _) ?Ah7 (by kernel_rfl) (by kernel_rfl) (by kernel_rfl) (by kernel_rfl) (by kernel_rfl) (fun _ _ _ h => h) (Or.inl ⟨?Bh7, ?Ch7⟩) hSS ?Dh7
                case Ah7 => simp only [List.getElem?_toArray, List.getElem?_cons_succ, List.getElem?_cons_zero]; rfl
                case Bh7 => rfl
                case Ch7 => (intro w hSw; (try dsimp only at hSw); go_simp; (try with_reducible rfl))
                try simp only [Act.put, List.setIfInBounds_toArray, List.set_cons_zero, List.set_cons_succ]
                refine' anyBut.take (i := 8) (v := _) ?Ah8 (by kernel_rfl) (by kernel_rfl) (by kernel_rfl) (by kernel_rfl) (by kernel_rfl) (fun _ _ _ h => h) (Or.inl ⟨?Bh8, ?Ch8⟩) hSS ?Dh8
                case Ah8 => simp only [List.getElem?_toArray, List.getElem?_cons_succ, List.getElem?_cons_zero]; rfl
                case Bh8 => rfl
                case Ch8 => (intro w hSw; (try dsimp only at hSw); go_simp; (try with_reducible rfl))
                try simp only [Act.put, List.setIfInBounds_toArray, List.set_cons_zero, List.set_cons_succ]
                refine' anyBut.take (i := 9) (v := _) ?Ah9 (by kernel_rfl) (by kernel_rfl) (by kernel_rfl) (by kernel_rfl) (by kernel_rfl) (fun _ _ _ h => h) (Or.inl ⟨?Bh9, ?Ch9⟩) hSS ?Dh9
                case Ah9 => simp only [List.getElem?_toArray, List.getElem?_cons_succ, List.getElem?_cons_zero]; rfl
                case Bh9 => rfl
                case Ch9 => (intro w hSw; (try dsimp only at hSw); go_simp; (try with_reducible rfl))
                try simp only [Act.put, List.setIfInBounds_toArray, List.set_cons_zero, List.set_cons_succ]
                refine' anyBut.take (i := 10) (v := _) ?Ah10 (by kernel_rfl) (by kernel_rfl) (by kernel_rfl) (by kernel_rfl) (by kernel_rfl) (fun _ _ _ h => h) (Or.inl ⟨?Bh10, ?Ch10⟩) hSS ?Dh10
                case Ah10 => simp only [List.getElem?_toArray, List.getElem?_cons_succ, List.getElem?_cons_zero]; rfl
                case Bh10 => rfl
                case Ch10 => (intro w hSw; (try dsimp only at hSw); go_simp; (try with_reducible rfl))
                try simp only [Act.put, List.setIfInBounds_toArray, List.set_cons_zero, List.set_cons_succ]
                refine' anyBut.take (i := 11) (v := _) ?Ah11 (by kernel_rfl) (by kernel_rfl) (by kernel_rfl) (by kernel_rfl) (by kernel_rfl) (fun _ _ _ h => h) (Or.inl ⟨?Bh11, ?Ch11⟩) hSS ?Dh11
                case Ah11 => simp only [List.getElem?_toArray, List.getElem?_cons_succ, List.getElem?_cons_zero]; rfl
                case Bh11 => rfl
                case Ch11 => (intro w hSw; (try dsimp only at hSw); go_simp; (try with_reducible rfl))
                try simp only [Act.put, List.setIfInBounds_toArray, List.set_cons_zero, List.set_cons_succ]
                refine' anyBut.take (i := 12) (v := _) ?Ah12 (by kernel_rfl) (by kernel_rfl) (by kernel_rfl) (by kernel_rfl) (by kernel_rfl) (fun _ _ _ h => h) (Or.inl ⟨?Bh12, ?Ch12⟩) hSS ?Dh12
                case Ah12 => simp only [List.getElem?_toArray, List.getElem?_cons_succ, List.getElem?_cons_zero]; rfl
                case Bh12 => rfl
                case Ch12 => (intro w hSw; (try dsimp only at hSw); go_simp; (try with_reducible rfl))
                try simp only [Act.put, List.setIfInBounds_toArray, List.set_cons_zero, List.set_cons_succ]
                refine' anyBut.take (i := 13) (v := _) ?Ah13 (by kernel_rfl) (by kernel_rfl) (by kernel_rfl) (by kernel_rfl) (by kernel_rfl) (fun _ _ _ h => h) (Or.inl ⟨?Bh13, ?Ch13⟩) hSS ?Dh13
                case Ah13 => simp only [List.getElem?_toArray, List.getElem?_cons_succ, List.getElem?_cons_zero]; rfl
                case Bh13 => rfl
                case Ch13 => (intro w hSw; (try dsimp only at hSw); go_simp; (try with_reducible rfl))
                try simp only [Act.put, List.setIfInBounds_toArray, List.set_cons_zero, List.set_cons_succ]
                refine' anyBut.one (i := 14) ?Ah14 (by kernel_rfl) ?Bh14 ?Ch14
                case Ah14 => simp only [List.getElem?_toArray, List.getElem?_cons_succ, List.getElem?_cons_zero]; rfl
                case Bh14 => rfl
                intro K hK
                have z1 := (HY.out.1.drewN 1).atF tj htN
                obtain ⟨fz, z1, z2⟩ := z1
                change wc.drew.cell? _ = _ at z1
                change wc.drew.frozen? _ = _ at z2
                go_simp
                refine hK _ _ (fun h => absurd rfl h) ?_
                clear hK K
                refine anyBut.done (by kernel_rfl) ?_ _
                go_wp2
                go_roundg (ne + K + 1 - (j + 1))
                case measure => omega
                case rel => exact ⟨j + 1, I3, n3, xs3, by omega, by omega, by omega, by go_num, (HY.out.1.drewN 1).setF tj htN nj, HY.out.2⟩
              · have hf0' : (fj == 0) = false := by rw [beq_eq_false_iff_ne]; exact hf0
                go_wp2
                go_roundg (ne + K + 1 - (j + 1))
                case measure => omega
                case rel => exact ⟨j + 1, I3, n3, xs3, by omega, by omega, by omega, by go_num, HY.out.1, HY.out.2⟩
        · as_aux_lemma =>
          have x21 := (H.out.1.xc 21 (by decide) (by decide)).trans HI.out.x21
          simp only at x21
          have HBG : Hid (Calls Yba.prog 32 #[pt X, sl bf 0 N cf] wr fun e W' => SomeBool wr e W') := by
            rcases H.out.1.ff with e | ⟨b', c', G, e, _, hG, _⟩
            · cases e
            · simp only [sl, Value.slice.injEq, Option.some.injEq, Addr.mk.injEq, and_true, true_and] at e
              obtain ⟨rfl, rfl⟩ := e
              exact begins_any wr X b1 c1 N bf 0 cf G fv hN3 H.out.1.x22 (fun t' ht' => by have := hG.cells.1 t' ht'; rw [Nat.zero_add] at this; exact this) (fun t' ht' => by rw [Nat.zero_add]; exact H.out.1.cell q5 d4 (HI.out.rf t' ht'))
          go_upto_if 120 with (go_at_call 32; refine Calls.mono HBG.out ?_; rintro e W2 ⟨r, rfl, hw2⟩; rw [hw2]; clear hw2 W2)
          clear HBG x21 ys0
          go_cut [] (fun wx => ∃ (I : Value) (n : Nat) (xs : List Value), Hid (RI W wx X base N (sl b1 0 N c1) I n xs EB (fun o => #[.int .i32 (tK : Int), .int .i32 nK, .int .i32 u, .int .i32 u3][o]?) ∧ n ≤ ne + 1))
          case first => as_aux_lemma =>
            cases r
            · go_wp2
              go_meet
              case rel => exact ⟨I2, n2, xs2, H.out.1, by have := H.out.2; omega⟩
            · have x27 := H.out.1.x27
              have s1 := H.out.1.cell q6 d5 HI.out.s1
              have hst := HI.out.hst
              simp only at s1 hst
              go_wp2
              refine anyBut.begin Yba.mixed (fun w : World => w.cell? ⟨X, 27, none⟩ = some I2 ∧ w.cell? ⟨S, 1, none⟩ = some (.int .i64 (st : Int))) 13 ?_
              have hSS : (fun w : World => w.cell? ⟨X, 27, none⟩ = some I2 ∧ w.cell? ⟨S, 1, none⟩ = some (.int .i64 (st : Int))) wr.drew := ⟨x27, s1⟩
              refine' anyBut.take (i := 0) (v := _) ?Ak0 (by kernel_rfl) (by kernel_rfl) (by kernel_rfl) (by kernel_rfl) (by kernel_rfl) (fun _ _ _ h => h) (Or.inl ⟨?Bk0, ?Ck0⟩) hSS ?Dk0
              case Ak0 => simp only [List.getElem?_toArray, List.getElem?_cons_succ, List.getElem?_cons_zero]; rfl
              case Bk0 => rfl
              case Ck0 => (intro w hSw; (try dsimp only at hSw); go_simp; (try with_reducible rfl))
              try simp only [Act.put, List.setIfInBounds_toArray, List.set_cons_zero, List.set_cons_succ]
              refine' anyBut.take (i := 1) (v := _) ?Ak1 (by kernel_rfl) (by kernel_rfl) (by kernel_rfl) (by kernel_rfl) (by kernel_rfl) (fun _ _ _ h => h) (Or.inl ⟨?Bk1, ?Ck1⟩) hSS ?Dk1
              case Ak1 => simp only [List.getElem?_toArray, List.getElem?_cons_succ, List.getElem?_cons_zero]; rfl
              case Bk1 => rfl
              case Ck1 => (intro w hSw; (try dsimp only at hSw); go_simp; (try with_reducible rfl))
              try simp only [Act.put, List.setIfInBounds_toArray, List.set_cons_zero, List.set_cons_succ]
              refine' anyBut.take (i := 2) (v := _) ?Ak2 (by kernel_rfl) (by kernel_rfl) (by kernel_rfl) (by kernel_rfl) (by kernel_rfl) (fun _ _ _ h => h) (Or.inl ⟨?Bk2, ?Ck2⟩) hSS ?Dk2
              case Ak2 => simp only [List.getElem?_toArray, List.getElem?_cons_succ, List.getElem?_cons_zero]; rfl
              case Bk2 => rfl
              case Ck2 => (intro w hSw; (try dsimp only at hSw); go_simp; (try with_reducible rfl))
              try simp only [Act.put, List.setIfInBounds_toArray, List.set_cons_zero, List.set_cons_succ]
              refine' anyBut.take (i := 3) (v := _) ?Ak3 (by kernel_rfl) (by kernel_rfl) (by kernel_rfl) (by kernel_rfl) (by kernel_rfl) (fun _ _ _ h => h) (Or.inl ⟨?Bk3, ?Ck3⟩) hSS ?Dk3
              case Ak3 => simp only [List.getElem?_toArray, List.getElem?_cons_succ, List.getElem?_cons_zero]; rfl
              case Bk3 => rfl
              case Ck3 => (intro w hSw; (try dsimp only at hSw); go_simp; (try with_reducible rfl))
              try simp only [Act.put, List.setIfInBounds_toArray, List.set_cons_zero, List.set_cons_succ]
              refine' anyBut.take (i := 4) (v := _) ?Ak4 (by kernel_rfl) (by kernel_rfl) (by kernel_rfl) (by kernel_rfl) (by kernel_rfl) (fun _ _ _ h => h) (Or.inl ⟨?Bk4, ?Ck4⟩) hSS ?Dk4
              case Ak4 => simp only [List.getElem?_toArray, List.getElem?_cons_succ, List.getElem?_cons_zero]; rfl
              case Bk4 => rfl
              case Ck4 => (intro w hSw; (try dsimp only at hSw); go_simp; (try with_reducible rfl))
              try simp only [Act.put, List.setIfInBounds_toArray, List.set_cons_zero, List.set_cons_succ]
              refine' anyBut.take (i := 5) (v := _) ?Ak5 (by kernel_rfl) (by kernel_rfl) (by kernel_rfl) (by kernel_rfl) (by kernel_rfl) (fun _ _ _ h => h) (Or.inl ⟨?Bk5, ?Ck5⟩) hSS ?Dk5
              case Ak5 => simp only [List.getElem?_toArray, List.getElem?_cons_succ, List.getElem?_cons_zero]; rfl
              case Bk5 => rfl
              case Ck5 => (intro w hSw; (try dsimp only at hSw); go_simp; (try with_reducible rfl))
              try simp only [Act.put, List.setIfInBounds_toArray, List.set_cons_zero, List.set_cons_succ]
              refine' anyBut.take (i := 6) (v := _) ?Ak6 (by kernel_rfl) (by kernel_rfl) (by kernel_rfl) (by kernel_rfl) (by kernel_rfl) (fun _ _ _ h => h) (Or.inl ⟨?Bk6, ?Ck6⟩) hSS ?Dk6
              case Ak6 => simp only [List.getElem?_toArray, List.getElem?_cons_succ, List.getElem?_cons_zero]; rfl
              case Bk6 => rfl
              case Ck6 => (intro w hSw; (try dsimp only at hSw); go_simp; (try with_reducible rfl))
              try simp only [Act.put, List.setIfInBounds_toArray, List.set_cons_zero, List.set_cons_succ]
              refine' anyBut.take (i := 7) (v := _) ?Ak7 (by kernel_rfl) (by kernel_rfl) (by kernel_rfl) (by kernel_rfl) (by kernel_rfl) (fun _ _ _ h => h) (Or.inl ⟨?Bk7, ?Ck7⟩) hSS ?Dk7
              case Ak7 => simp only [List.getElem?_toArray, List.getElem?_cons_succ, List.getElem?_cons_zero]; rfl
              case Bk7 => rfl
              case Ck7 => (intro w hSw; (try dsimp only at hSw); go_simp; (try with_reducible rfl))
              try simp only [Act.put, List.setIfInBounds_toArray, List.set_cons_zero, List.set_cons_succ]
              refine' anyBut.take (i := 8) (v := _) ?Ak8 (by kernel_rfl) (by kernel_rfl) (by kernel_rfl) (by kernel_rfl) (by kernel_rfl) (fun _ _ _ h => h) (Or.inl ⟨?Bk8, ?Ck8⟩) hSS ?Dk8
              case Ak8 => simp only [List.getElem?_toArray, List.getElem?_cons_succ, List.getElem?_cons_zero]; rfl
              case Bk8 => rfl
              case Ck8 => (intro w hSw; (try dsimp only at hSw); go_simp; (try with_reducible rfl))
              try simp only [Act.put, List.setIfInBounds_toArray, List.set_cons_zero, List.set_cons_succ]
              refine' anyBut.one (i := 9) ?Ak9 (by kernel_rfl) ?Bk9 ?Ck9
              case Ak9 => simp only [List.getElem?_toArray, List.getElem?_cons_succ, List.getElem?_cons_zero]; rfl
              case Bk9 => rfl
              intro K hK
              go_simp
              obtain ⟨W6, hW6⟩ : ∃ W6, (wr.alloc (.cells #[.int .i64 (st : Int)] 3)).drew = W6 := ⟨_, rfl⟩
              have H6 : Hid (Below wr.heap.size wr W6 ∧ W6.heap[wr.heap.size]? = some (.cells #[.int .i64 (st : Int)] 3 (0, 0))) := by
                rw [← hW6]
                exact ⟨((Below.refl _ _).alloc (Nat.le_refl _) _).drew, heap_alloc_new wr _⟩
              have hS6 : (fun w : World => w.cell? ⟨X, 27, none⟩ = some I2 ∧ w.cell? ⟨S, 1, none⟩ = some (.int .i64 (st : Int))) W6 := ⟨(H6.out.1.cell (cell_lt x27)).trans x27, (H6.out.1.cell (cell_lt s1)).trans s1⟩
              rw [hW6]
              refine hK _ _ (fun _ => hS6) ?_
              clear hK K hSS hS6 hW6
              refine' anyBut.one (i := 10) ?Ak10 (by kernel_rfl) ?Bk10 ?Ck10
              case Ak10 => simp only [List.getElem?_toArray, List.getElem?_cons_succ, List.getElem?_cons_zero]; rfl
              case Bk10 => rfl
              intro K hK
              refine wp_app27 _ _ _ rfl base I2 n2 xs2 rfl (H.out.1.keep H6.out.1).oi (st : Int) _ _ rfl H6.out.2 (by have := H.out.2; omega) (H.out.1.keep H6.out.1).hb ?_
              intro gg cap W7 hown hgr hat hlt
              have hfar := H.out.1.at27 H6.out.1 hgr
              have hSS : (fun w : World => w.cell? ⟨X, 27, none⟩ = some I2 ∧ w.cell? ⟨S, 1, none⟩ = some (.int .i64 (st : Int))) W7 := ⟨(World.cell?_of_block (hfar X q1)).trans x27, (World.cell?_of_block (hfar S q6)).trans s1⟩
              refine hK _ _ (fun _ => hSS) ?_
              clear hK K
              try simp only [Act.put, List.setIfInBounds_toArray, List.set_cons_zero, List.set_cons_succ]
              refine' anyBut.one (i := 11) ?Ak11 (by kernel_rfl) ?Bk11 ?Ck11
              case Ak11 => simp only [List.getElem?_toArray, List.getElem?_cons_succ, List.getElem?_cons_zero]; rfl
              case Bk11 => rfl
              intro K hK
              go_simp
              refine hK _ _ (fun _ => hSS) ?_
              clear hK K
              refine' anyBut.one (i := 12) ?Ak12 (by kernel_rfl) ?Bk12 ?Ck12
              case Ak12 => simp only [List.getElem?_toArray, List.getElem?_cons_succ, List.getElem?_cons_zero]; rfl
              case Bk12 => rfl
              intro K hK
              go_simp
              refine hK _ _ (fun _ => hSS) ?_
              clear hK K
              refine' anyBut.one (i := 13) ?Ak13 (by kernel_rfl) ?Bk13 ?Ck13
              case Ak13 => simp only [List.getElem?_toArray, List.getElem?_cons_succ, List.getElem?_cons_zero]; rfl
              case Bk13 => rfl
              intro K hK
              have z1 := hSS.1
              have z2 : W7.frozen? ⟨X, 27, none⟩ = false := (World.frozen?_of_block (hfar X q1)).trans ((H.out.1.fz 27).trans (HI.out.fz 27))
              go_simp
              refine hK _ _ (fun h => absurd rfl h) ?_
              clear hK K
              refine anyBut.done (by kernel_rfl) ?_ _
              go_wp2
              go_meet
              case rel =>
                refine ⟨_, n2 + 1, _, H.out.1.push H6.out.1 hown hgr hat (fun v hv => ?_), by have := H.out.2; omega⟩
                rcases List.mem_append.mp hv with h | h
                · exact H.out.1.ii v h
                · exact ⟨st, hst, by simpa using h⟩
          case rest =>
            obtain ⟨I3, n3, xs3, hcut⟩ := hcut
            obtain ⟨ao, cap, hI3⟩ := hcut.out.1.shape27
            subst hI3
            have HY : Hid (RI W wc X base N (sl b1 0 N c1) (.slice ao n3 cap) n3 xs3 EB (fun o => #[.int .i32 (tK : Int), .int .i32 nK, .int .i32 u, .int .i32 u3][o]?)) := hcut.out.1
            have hn3 : n3 ≤ ne + 1 := hcut.out.2
            clear hcut H
            have x1 := (HY.out.xc 1 (by decide) (by decide)).trans HI.out.x1
            have x27 := HY.out.x27
            simp only at x1
            go_wp2
            clear x1 x27
            go_loopg [145] n3 (fun gh v wx => ∃ i : Nat, gh + i = n3 ∧ v = .int .i64 (i : Int) ∧ Hid (RI W wx X base N (sl b1 0 N c1) (.slice ao n3 cap) n3 xs3 EB (fun o => #[.int .i32 (tK : Int), .int .i32 nK, .int .i32 u, .int .i32 u3][o]?)))
            case atStart => exact ⟨0, by omega, rfl, HY.out⟩
            case round =>
              clear HY
              obtain ⟨i, hgi, rfl, HV⟩ := hrel
              by_cases hi : (i : Int) < (n3 : Int)
              · obtain ⟨gg, ti, rfl, hti, ci⟩ := HV.out.elem i (by omega)
                have n0 := HV.out.cell q4 d3 HI.out.n0
                have n7 := HV.out.cell q4 d3 HI.out.n7
                have n8 := HV.out.cell q4 d3 HI.out.n8
                simp only at n0 n7 n8
                rw [HTK.out.1] at n0
                have htK := HTK.out.2
                obtain ⟨r, hr⟩ : ∃ r, ((tK : Int) == (ti : Int)) = r := ⟨_, rfl⟩
                have HTA : Hid _ := taken_any wr gp (K * 9) ti (tK : Int) n0 n8 r hr (by omega) (by omega)
                have HAS : Hid _ := asleep_any wr gp (K * 9) 0 ti none n7
                clear n0 n7 n8 hr
                cases r
                · go_wp2_with (first
                    | (go_at_call 33; refine Calls.mono HTA.out ?_; rintro e W2 ⟨rfl, hw2⟩; rw [hw2]; clear hw2 W2)
                    | (go_at_call 34; refine Calls.mono HAS.out ?_; rintro e W2 ⟨rfl, hw2⟩; rw [hw2]; clear hw2 W2))
                  go_roundg (n3 - (i + 1))
                  case measure => omega
                  case rel => exact ⟨i + 1, by omega, by go_num, HV.out.keep ((Below.refl _ _).alloc (Nat.le_refl _) _)⟩
                · go_wp2_with (first
                    | (go_at_call 33; refine Calls.mono HTA.out ?_; rintro e W2 ⟨rfl, hw2⟩; rw [hw2]; clear hw2 W2))
                  refine bodyPost_ret (v := .tuple #[]) (by simp [results, Yba.results22, go_sem]) rfl ?_
                  exact (show RvGOut W X base N _ _ from ⟨rfl, _, _, _, _, _, _, HV.out⟩)
              · have x27 := HV.out.x27
                go_wp2
                clear x27
                go_loopg [163] n3 (fun gh v wx => ∃ i : Nat, gh + i = n3 ∧ v = .int .i64 (i : Int) ∧ Hid (RI W wx X base N (sl b1 0 N c1) (.slice ao n3 cap) n3 xs3 EB (fun o => #[.int .i32 (tK : Int), .int .i32 nK, .int .i32 u, .int .i32 u3][o]?)))
                case atStart => exact ⟨0, by omega, rfl, HV.out⟩
                case round =>
                  clear HV
                  obtain ⟨i2, hgi2, rfl, HU⟩ := hrel
                  by_cases hi2 : (i2 : Int) < (n3 : Int)
                  · obtain ⟨gg, ti, rfl, hti, ci⟩ := HU.out.elem i2 (by omega)
                    obtain ⟨V7, h7, hV7⟩ := HI.out.x7
                    have HRN : Hid _ := runnableNil_any wr X gp cp ne K V7 hV7 hK hne ((HU.out.xc 1 (by decide) (by decide)).trans HI.out.x1) ((HU.out.xc 7 (by decide) (by decide)).trans h7) (fun k hk => HU.out.cell q4 d3 (HI.out.n5 k hk))
                    have HCN : Hid (∀ m, Calls Yba.prog 35 #[V7, .int .i32 (ti : Int)] (wr.drewN m) fun e W' => e = .returned (.bool false) ∧ W' = wr.drewN m) := fun m => by
                      have key : ∀ (ao : Option Addr) (c : Nat), Calls Yba.prog 35 #[.slice ao 0 c, .int .i32 (ti : Int)] (wr.drewN m) fun e W' => e = .returned (.bool false) ∧ W' = wr.drewN m := fun ao c => by
                        refine (contains32_any (wr.drewN m) ao 0 0 0 c (fun _ => 0) (fun h => by omega) (by decide) (fun t ht => by omega) (ti : Int)).mono ?_
                        rintro e W' ⟨r, rfl, hr, rfl⟩
                        cases r
                        · exact ⟨rfl, rfl⟩
                        · obtain ⟨j, hj, _⟩ := hr.mp rfl
                          omega
                      rcases hV7 with rfl | ⟨g, c, rfl, _⟩
                      · exact key none 0
                      · exact key _ c
                    clear h7 hV7
                    have hwt : IntKind.i32.wrap (ti : Int) = (ti : Int) := by rw [IntKind.wrap_i32]; omega
                    go_wp2_with (first
                      | (go_at_call 36; refine Calls.mono HRN.out ?_; rintro e W2 ⟨rfl, mm, rfl⟩)
                      | (go_at_call 35; refine Calls.mono (HCN.out _) ?_; rintro e W2 ⟨rfl, hw2⟩; rw [hw2]; clear hw2 W2))
                    go_roundg (n3 - (i2 + 1))
                    case measure => omega
                    case rel => exact ⟨i2 + 1, by omega, by go_num, HU.out.drewN _⟩
                  · go_wp2
                    go_end0
                    exact (show RvGOut W X base N _ _ from ⟨rfl, _, _, _, _, _, _, HU.out⟩)
end Go.Proofs.Ybulkbxvu
