/-
  Clock: what races is given; the world in its last loop; the greatest clocks.
-/
import Derived.Test.YbulkbxvuP28
import Derived.Test.YbulkbxvuQ3
namespace Go.Proofs.Ybulkbxvu.Ck
open Go.RowKit
open Go.Sort
set_option linter.unusedVariables false

/-- Where all lies that races reads. -/
structure Pq where
  M : Nat
  RB : Nat
  S : Nat
  lb : Nat
  lc : Nat
  rb : Nat
  rc : Nat
  gs : Nat
  cs : Nat
  gol : Nat → Nat
  gp : Nat
  cp : Nat
  gu : Nat
/-- What races is given: N threads, the step of thread st, the last events la, the resuming one rv. -/
structure RcIn (W : World) (p : Pl) (u : Pu) (D : Dat) (U : Nat → Use4) (q : Pq) (li : Nat → Value) (E : EvD) (nu : Nat) (su : Nat → Nat) (st : Nat) (la : Nat → Int) (rv : Int) : Prop where
  hN : 1 ≤ D.N ∧ D.N ≤ 3
  hst : st < D.N
  hne : D.ne ≤ 512
  hnu : nu ≤ 512
  x2 : ∃ ao c, W.cell? ⟨p.X, 2, none⟩ = some (.slice ao D.ne c)
  ev : 0 < D.ne → EvR W p D
  us : 0 < D.ne → UseR W p u D q.gu U
  x1 : 0 < D.ne → W.cell? ⟨p.X, 1, none⟩ = some (.slice (some ⟨q.gp, 0, none⟩) D.ne q.cp)
  x7 : ∃ v, W.cell? ⟨p.X, 7, none⟩ = some v ∧ Nil7 v
  n0 : ∀ k, k < D.ne → W.cell? ⟨q.gp, k * 9, none⟩ = some (.int .i32 (D.t k : Int))
  n5 : ∀ k, k < D.ne → W.cell? ⟨q.gp, k * 9 + 5, none⟩ = some (.int .i32 0)
  n7 : ∀ k, k < D.ne → W.cell? ⟨q.gp, k * 9 + 7, none⟩ = some (.slice none 0 0)
  n8 : ∀ k, k < D.ne → W.cell? ⟨q.gp, k * 9 + 8, none⟩ = some (.pointer none)
  x6 : W.cell? ⟨p.X, 6, none⟩ = some (.map (some q.M))
  x9 : W.cell? ⟨p.X, 9, none⟩ = some (.int .i64 ((D.N : Int) - 1))
  x20 : W.cell? ⟨p.X, 20, none⟩ = some (.slice none 0 0)
  x21 : W.cell? ⟨p.X, 21, none⟩ = some (.slice none 0 0)
  x22 : W.cell? ⟨p.X, 22, none⟩ = some (.slice none 0 0)
  x23 : W.cell? ⟨p.X, 23, none⟩ = some (.slice none 0 0)
  x27 : W.cell? ⟨p.X, 27, none⟩ = some (.slice none 0 0)
  fz : ∀ o, W.frozen? ⟨p.X, o, none⟩ = false
  mp : MapR W q.M li
  lis : ∀ o, o < 3 → ∃ ao c, li o = .slice ao (obL E o D.ne).length c ∧ (0 < (obL E o D.ne).length → ao = some ⟨q.gol o, 0, none⟩)
  lic : ∀ o, o < 3 → ∀ j k : Nat, (obL E o D.ne)[j]? = some k → W.cell? ⟨q.gol o, j, none⟩ = some (.int .i32 (k : Int))
  s0 : W.cell? ⟨q.S, 0, none⟩ = some (.int .i64 (D.ne : Int))
  s1 : W.cell? ⟨q.S, 1, none⟩ = some (.int .i64 (st : Int))
  s2 : W.cell? ⟨q.S, 2, none⟩ = some (.slice (some ⟨q.gs, 0, none⟩) nu q.cs)
  s3 : W.cell? ⟨q.S, 3, none⟩ = some (.slice none 0 0)
  su' : UsR W q.gs 0 nu (fun j => dec (su j))
  r14 : W.cell? ⟨q.RB, 14, none⟩ = some (sl q.lb 0 D.N q.lc)
  r15 : W.cell? ⟨q.RB, 15, none⟩ = some (sl q.rb 0 D.N q.rc)
  l : ∀ t, t < D.N → W.cell? ⟨q.lb, t, none⟩ = some (.int .i32 (la t))
  r : W.cell? ⟨q.rb, st, none⟩ = some (.int .i32 rv)
  lr : ∀ t, t < D.N → -1 ≤ la t ∧ la t < (D.ne : Int)
  rr : -1 ≤ rv ∧ rv < (D.ne : Int)
  dX : q.M ≠ p.X ∧ q.RB ≠ p.X ∧ q.S ≠ p.X ∧ q.lb ≠ p.X ∧ q.rb ≠ p.X ∧ q.gs ≠ p.X
  dX2 : p.ge ≠ p.X ∧ p.gc ≠ p.X ∧ q.gp ≠ p.X ∧ q.gu ≠ p.X
  dgo : ∀ o, o < 3 → q.gol o ≠ p.X
  wr : ∀ o, o < 3 → ∀ k, k < D.ne → ((∃ j, D.U k ≤ j ∧ j < D.U (k + 1) ∧ Use4.eq ⟨objK o, objI o, 0, true⟩ (U j) = true) ↔ E.ce o k % 3 = 2)
  en : ∀ k, k < D.ne → ((∃ j, D.U k ≤ j ∧ j < D.U (k + 1) ∧ (U j).k = 7) ↔ E.en k = true)

/-- v is the greatest of 0 and of f at those k < ne that P says. -/
def MxC (ne : Nat) (P : Nat → Prop) (f : Nat → Int) (v : Int) : Prop := 0 ≤ v ∧ (∀ k, k < ne → P k → f k ≤ v) ∧ (v = 0 ∨ ∃ k, k < ne ∧ P k ∧ f k = v)
theorem MxC.none (ne : Nat) (f : Nat → Int) : MxC ne (fun _ => False) f 0 := ⟨Int.le_refl _, fun _ _ h => h.elim, .inl rfl⟩
theorem MxC.same {ne : Nat} {P P' : Nat → Prop} {f : Nat → Int} {v : Int} (h : MxC ne P f v) (hp : ∀ k, k < ne → (P' k ↔ P k)) : MxC ne P' f v :=
  ⟨h.1, fun k hk hP => h.2.1 k hk ((hp k hk).mp hP), h.2.2.imp id (fun ⟨k, h1, h2, h3⟩ => ⟨k, h1, (hp k h1).mpr h2, h3⟩)⟩
theorem MxC.add {ne : Nat} {P P' : Nat → Prop} {f : Nat → Int} {v : Int} (h : MxC ne P f v) (k : Nat) (hk : k < ne) (hp : ∀ x, x < ne → (P' x ↔ (x = k ∨ P x))) : MxC ne P' f (max v (f k)) := by
  obtain ⟨h1, h2, h3⟩ := h
  refine ⟨by omega, fun x hx hP => ?_, ?_⟩
  · rcases (hp x hx).mp hP with e | e
    · subst e; omega
    · have := h2 x hx e; omega
  · by_cases e : v ≤ f k
    · exact .inr ⟨k, hk, (hp k hk).mpr (.inl rfl), by omega⟩
    · rcases h3 with h | ⟨x, h4, h5, h6⟩
      · exact .inl (by omega)
      · exact .inr ⟨x, h4, (hp x h4).mpr (.inr h5), by omega⟩
theorem MxC.uniq {ne : Nat} {P : Nat → Prop} {f : Nat → Int} {v v' : Int} (h : MxC ne P f v) (h' : MxC ne P f v') : v = v' := by
  obtain ⟨a1, a2, a3⟩ := h
  obtain ⟨b1, b2, b3⟩ := h'
  have l1 : v ≤ v' := by
    rcases a3 with e | ⟨k, e1, e2, e3⟩
    · omega
    · have := b2 k e1 e2; omega
  have l2 : v' ≤ v := by
    rcases b3 with e | ⟨k, e1, e2, e3⟩
    · omega
    · have := a2 k e1 e2; omega
  omega

/-- After sort and compact: the same numbers. -/
theorem sorted_all {F : Value} {fl : List Nat} {ne b n n' : Nat} {P : Nat → Prop} {d' : Array Int} {G : Nat → Int} (hp : PermIn 0 n (fl.map (fun k : Nat => (k : Int))).toArray d') (hn : fl.length = n) (h : FLs F fl ne b P) (hsu : SameUp n' n G (fun t => d'[t]!)) :
    (∀ x, x < ne → ((∃ jj, jj < n' ∧ G jj = (x : Int)) ↔ P x)) ∧ ∀ jj, jj < n' → ∃ k : Nat, G jj = (k : Int) ∧ k < ne := by
  have hsz : d'.size = n := by have := hp.1; simp at this; omega
  have hperm := hp.2.2
  rw [show d'.extract 0 n = d' by rw [← hsz]; simp, show (fl.map (fun k : Nat => (k : Int))).toArray.extract 0 n = (fl.map (fun k : Nat => (k : Int))).toArray by rw [← hn]; simp; exact List.take_of_length_le (by simp)] at hperm
  have mem1 : ∀ t, t < n → ∃ k : Nat, d'[t]! = (k : Int) ∧ k ∈ fl := by
    intro t ht
    have : d'[t]! ∈ d'.toList := by rw [getElem!_pos d' t (by omega)]; simp
    have := hperm.mem_iff.mp this
    simp only [List.mem_map] at this
    obtain ⟨k, hk, e⟩ := this
    exact ⟨k, e.symm, hk⟩
  have mem2 : ∀ k : Nat, k ∈ fl → ∃ t, t < n ∧ d'[t]! = (k : Int) := by
    intro k hk
    have : (k : Int) ∈ d'.toList := hperm.mem_iff.mpr (by simp; exact ⟨k, hk, rfl⟩)
    obtain ⟨t, ht, e⟩ := List.mem_iff_getElem.mp this
    refine ⟨t, by simpa [hsz] using ht, ?_⟩
    rw [getElem!_pos d' t (by simpa using ht)]
    simpa using e
  refine ⟨fun x hx => ?_, fun jj hjj => ?_⟩
  · rw [← h.mem x hx]
    constructor
    · intro he
      obtain ⟨t, ht, e⟩ := (hsu.1 (x : Int)).mp he
      obtain ⟨k, hk, hkm⟩ := mem1 t ht
      simp only at e
      rw [hk] at e
      have : k = x := by omega
      rw [← this]; exact hkm
    · intro hm
      exact (hsu.1 (x : Int)).mpr (mem2 x hm)
  · obtain ⟨t, ht, e⟩ := (hsu.1 (G jj)).mp ⟨jj, hjj, rfl⟩
    obtain ⟨k, hk, hkm⟩ := mem1 t ht
    simp only at e
    exact ⟨k, by rw [← e, hk], h.lt k hkm⟩

/-- In the last loop: x.c, x.full, x.found, and reverse's own rows. -/
structure RL (W0 W : World) (X base N bc mc bf mf g m n cap : Nat) (cv fv H : Nat → Int) (F I : Value) (ni : Nat) (xs : List Value) : Prop where
  os : W.os = W0.os
  tape : W.tape = W0.tape
  output : W.output = W0.output
  size : W0.heap.size ≤ W.heap.size
  blk : ∀ k, k < W0.heap.size → k ≠ X → W.heap[k]? = W0.heap[k]?
  xc : ∀ o, o ≠ 20 → o ≠ 21 → o ≠ 22 → o ≠ 23 → o ≠ 27 → W.cell? ⟨X, o, none⟩ = W0.cell? ⟨X, o, none⟩
  fz : ∀ o, W.frozen? ⟨X, o, none⟩ = false
  x20 : W.cell? ⟨X, 20, none⟩ = some (sl bc 0 N mc)
  x21 : W.cell? ⟨X, 21, none⟩ = some (sl bf 0 N mf)
  x22 : W.cell? ⟨X, 22, none⟩ = some F
  x23 : W.cell? ⟨X, 23, none⟩ = some (sl g 0 n cap)
  x27 : W.cell? ⟨X, 27, none⟩ = some I
  rc : RowG W bc 0 mc N cv
  rf : RowG W bf 0 mf N fv
  rg : RowG W g 0 m n H
  ff : FRow W base N F
  oi : W.ownsRow base 3 1 I ni xs
  ii : ∀ u, u ∈ xs → ∃ t : Nat, t < N ∧ u = .int .i64 (t : Int)
  ap : ∀ b, F.ownBlock = some b → I.ownBlock ≠ some b
  hb : base ≤ W.heap.size
  pl : X < W0.heap.size ∧ W0.heap.size ≤ bc ∧ W0.heap.size ≤ bf ∧ W0.heap.size ≤ g ∧ bc ≠ bf ∧ bc ≠ g ∧ bf ≠ g ∧ bc < base ∧ bf < base ∧ g < base
section
variable {W0 W W' : World} {X base N bc mc bf mf g m n cap ni : Nat} {cv fv H : Nat → Int} {F I : Value} {xs : List Value}
theorem RL.start {b0 : Nat} (h : RC W0 W X b0 N bc mc bf mf cv fv (sl g 0 n cap) n xs) (hg : RowG W g 0 m n H) (x22 : W0.cell? ⟨X, 22, none⟩ = some (.slice none 0 0)) (x27 : W0.cell? ⟨X, 27, none⟩ = some (.slice none 0 0)) : RL W0 W X W.heap.size N bc mc bf mf g m n cap cv fv H (.slice none 0 0) (.slice none 0 0) 0 [] := by
  obtain ⟨q1, q2, q3, q4, q5, q6⟩ := h.far (b := g) rfl
  have h1 := h.bcl
  have h2 := h.bfl
  have h3 := h.hb
  exact ⟨h.os, h.tape, h.output, h.size, h.blk, fun o p1 p2 _ p4 _ => h.xc o p1 p2 p4, h.fz, h.x20, h.x21, (h.xc 22 (by decide) (by decide) (by decide)).trans x22, h.x23, (h.xc 27 (by decide) (by decide) (by decide)).trans x27, h.rc, h.rf, hg, .inl rfl, ⟨rfl, .inl ⟨rfl, rfl⟩⟩, fun u hu => by simp at hu, (fun b hb => by cases hb), Nat.le_refl _, h.xl, h1.1, h2.1, q6, h.ne, Ne.symm q4, Ne.symm q5, by omega, by omega, q2⟩
theorem RL.drewN (h : RL W0 W X base N bc mc bf mf g m n cap cv fv H F I ni xs) (k : Nat) : RL W0 (W.drewN k) X base N bc mc bf mf g m n cap cv fv H F I ni xs :=
  ⟨h.os, h.tape, h.output, h.size, h.blk, h.xc, h.fz, h.x20, h.x21, h.x22, h.x23, h.x27, h.rc, h.rf, h.rg, h.ff.same (fun _ _ => rfl), h.oi.kept (row := none) ⟨rfl, rfl, rfl, Nat.le_refl _, fun _ _ _ => rfl⟩ (by cases hv : I.ownBlock <;> simp), h.ii, h.ap, h.hb, h.pl⟩
theorem RL.rev {EB ni' : Nat} {F' I' : Value} {xs' : List Value} {g' : Nat → Option Value} (h : RL W0 W X base N bc mc bf mf g m n cap cv fv H F I ni xs) (hr : RI W W' X base N F' I' ni' xs' EB g') : RL W0 W' X base N bc mc bf mf g m n cap cv fv H F' I' ni' xs' := by
  obtain ⟨p1, p2, p3, p4, p5, p6, p7, p8, p9, p10⟩ := h.pl
  have hs := h.size
  have hb := hr.hb
  exact ⟨hr.os.trans h.os, hr.tape.trans h.tape, hr.output.trans h.output, by omega, fun k hk hne => (hr.blk k (by omega) hne).trans (h.blk k hk hne), fun o a1 a2 a3 a4 a5 => (hr.xc o a3 a5).trans (h.xc o a1 a2 a3 a4 a5), fun o => (hr.fz o).trans (h.fz o),
    (hr.xc 20 (by decide) (by decide)).trans h.x20, (hr.xc 21 (by decide) (by decide)).trans h.x21, hr.x22, (hr.xc 23 (by decide) (by decide)).trans h.x23, hr.x27, h.rc.same (hr.blk bc p8 (by omega)), h.rf.same (hr.blk bf p9 (by omega)), h.rg.same (hr.blk g p10 (by omega)), hr.ff, hr.oi, hr.ii, hr.ap, hb, h.pl⟩
theorem RL.fr {b : Nat} (h : RL W0 W X base N bc mc bf mf g m n cap cv fv H F I ni xs) (hf : Fr W W' b) (hb : b = bc ∨ b = bf) {cv' fv' : Nat → Int} (h1 : RowG W' bc 0 mc N cv') (h2 : RowG W' bf 0 mf N fv') : RL W0 W' X base N bc mc bf mf g m n cap cv' fv' H F I ni xs := by
  obtain ⟨a1, a2, a3, a4, a5⟩ := hf
  obtain ⟨p1, p2, p3, p4, p5, p6, p7, p8, p9, p10⟩ := h.pl
  have hs := h.size
  have hbb := h.hb
  have hbl : b < base := by rcases hb with e | e <;> omega
  have hX : W'.heap[X]? = W.heap[X]? := a5 X (by omega) (by rcases hb with e | e <;> omega)
  refine ⟨a1.trans h.os, a2.trans h.tape, a3.trans h.output, by omega, fun k hk n1 => (a5 k (by omega) (by rcases hb with e | e <;> omega)).trans (h.blk k hk n1), fun o q1 q2 q3 q4 q5 => (World.cell?_of_block hX).trans (h.xc o q1 q2 q3 q4 q5), fun o => (World.frozen?_of_block hX).trans (h.fz o),
    (World.cell?_of_block hX).trans h.x20, (World.cell?_of_block hX).trans h.x21, (World.cell?_of_block hX).trans h.x22, (World.cell?_of_block hX).trans h.x23, (World.cell?_of_block hX).trans h.x27, h1, h2, h.rg.same (a5 g (by omega) (by rcases hb with e | e <;> omega)), h.ff.same (fun b' hb' => ?_), ?_, h.ii, h.ap, by omega, h.pl⟩
  · have := h.ff.lt hb'
    exact a5 b' this.2 (by omega)
  · refine h.oi.kept (row := some b) ⟨a1, a2, a3, a4, fun k hk hne => a5 k hk (fun e => hne (by rw [e]))⟩ ?_
    cases hv : I.ownBlock with
    | none => exact .inl rfl
    | some c => exact .inr (fun e => by injection e with e; have := (h.oi.lt c hv).1; omega)
theorem RL.cell (h : RL W0 W X base N bc mc bf mf g m n cap cv fv H F I ni xs) {b o : Nat} {v : Value} (h1 : b ≠ X) (hc : W0.cell? ⟨b, o, none⟩ = some v) : W.cell? ⟨b, o, none⟩ = some v := by
  rw [World.cell?_of_block (h.blk b (cell_lt hc) h1)]; exact hc
theorem RL.xcell (h : RL W0 W X base N bc mc bf mf g m n cap cv fv H F I ni xs) {o : Nat} {v : Value} (h1 : o ≠ 20) (h2 : o ≠ 21) (h3 : o ≠ 22) (h4 : o ≠ 23) (h5 : o ≠ 27) (hc : W0.cell? ⟨X, o, none⟩ = some v) : W.cell? ⟨X, o, none⟩ = some v := (h.xc o h1 h2 h3 h4 h5).trans hc
end
theorem EvR.rl {W0 W : World} {base N bc mc bf mf g m n cap ni : Nat} {cv fv H : Nat → Int} {F I : Value} {xs : List Value} {p : Pl} {D : Dat} (he : EvR W0 p D) (h : RL W0 W p.X base N bc mc bf mf g m n cap cv fv H F I ni xs) (h2 : p.ge ≠ p.X) (h3 : p.gc ≠ p.X) : EvR W p D :=
  ⟨h.xcell (by decide) (by decide) (by decide) (by decide) (by decide) he.x2, h.xcell (by decide) (by decide) (by decide) (by decide) (by decide) he.x3, fun k hk => h.cell h2 (he.e0 k hk), fun k hk => h.cell h2 (he.e1 k hk), fun k hk => h.cell h2 (he.e2 k hk), fun k hk => h.cell h2 (he.e3 k hk), fun j hj => h.cell h3 (he.cl j hj), he.cap, he.capm, he.small, he.tN⟩
end Go.Proofs.Ybulkbxvu.Ck
