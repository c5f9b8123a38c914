/-
  races: the found row sorted; what stands once the last has been reversed.
-/
import Derived.Test.YbulkbxvuP25
namespace Go.Proofs.Ybulkbxvu
open Go.RowKit
open Go.Sort
set_option linter.unusedVariables false

section
variable {W0 W W' : World} {X base N bc mc bf mf n n' g cap : Nat} {cv fv : Nat → Int} {xs : List Value}
theorem fr_grown {g : Nat} (hf : Fr W W' g) : W.grownBy W' (some g) := ⟨hf.1, hf.2.1, hf.2.2.1, hf.2.2.2.1, fun k hk hne => hf.2.2.2.2 k hk (fun e => hne (by rw [e]))⟩
/-- The cells that an own row holds. -/
theorem own_rowG {b : Nat} {G : Nat → Int} (hown : W.ownsRow base 21 1 (.slice (some ⟨g, 0, none⟩) n cap) n xs) (hr : RowG W' g 0 cap n' G) (hn : n' ≤ n) : ∃ xs', W'.ownsRow base 21 1 (.slice (some ⟨g, 0, none⟩) n' cap) n' xs' := by
  obtain ⟨h1, h2 | ⟨g', cap', cur, hv, hb, hh, r1, r2, r3, r4⟩⟩ := hown
  · simp at h2
  · simp only [Value.slice.injEq, Option.some.injEq, Addr.mk.injEq, and_true] at hv
    obtain ⟨rfl, rfl⟩ : g = g' ∧ cap = cap' := ⟨by have := hv.1; simpa using this, by have := hv.2; simpa using this⟩
    obtain ⟨C, c1, c2, c3, c4⟩ := hr
    refine ⟨C.toList.take (n' * 1), ?_, .inr ⟨g, cap, C, rfl, hb, c1, by omega, r2, by omega, rfl⟩⟩
    simp; omega
theorem RC.row0 (h : RC W0 W X base N bc mc bf mf cv fv (.slice (some ⟨g, 0, none⟩) n cap) n xs) (hf : Fr W W' g) {G : Nat → Int} (hr : RowG W' g 0 cap n G) : ∃ xs', RC W0 W' X base N bc mc bf mf cv fv (.slice (some ⟨g, 0, none⟩) n cap) n xs' := by
  obtain ⟨xs', ho⟩ := own_rowG (b := 0) h.own hr (Nat.le_refl _)
  obtain ⟨q1, q2, q3, q4, q5, q6⟩ := h.far (b := g) rfl
  obtain ⟨a1, a2, a3, a4, a5⟩ := hf
  have hX : W'.heap[X]? = W.heap[X]? := a5 X (by have := h.xl; have := h.size; omega) (Ne.symm q3)
  have hs := h.size
  have h1 := h.bcl
  have h2 := h.bfl
  have h3 := h.hb
  exact ⟨xs', a1.trans h.os, a2.trans h.tape, a3.trans h.output, by omega, fun k hk hne => (a5 k (by omega) (by omega)).trans (h.blk k hk hne), fun o p q r => (World.cell?_of_block hX).trans (h.xc o p q r), fun o => (World.frozen?_of_block hX).trans (h.fz o),
    (World.cell?_of_block hX).trans h.x20, (World.cell?_of_block hX).trans h.x21, (World.cell?_of_block hX).trans h.x23, h.rc.same (a5 _ (by omega) (Ne.symm q4)), h.rf.same (a5 _ (by omega) (Ne.symm q5)), ho, h.xl, h.bcl, h.bfl, h.ne, by omega⟩
theorem RC.row1 (h : RC W0 W X base N bc mc bf mf cv fv (.slice (some ⟨g, 0, none⟩) n cap) n xs) (hf : Fr W W' g) {G : Nat → Int} (hr : RowG W' g 0 cap n' G) (hn : n' ≤ n) : ∃ xs', RC W0 (W'.setCell ⟨X, 23, none⟩ (sl g 0 n' cap)) X base N bc mc bf mf cv fv (sl g 0 n' cap) n' xs' ∧ RowG (W'.setCell ⟨X, 23, none⟩ (sl g 0 n' cap)) g 0 cap n' G := by
  obtain ⟨xs', ho⟩ := own_rowG (b := 0) h.own hr hn
  obtain ⟨q1, q2, q3, q4, q5, q6⟩ := h.far (b := g) rfl
  have hg := fr_grown hf
  exact ⟨xs', h.row hg ho (h.at23 hg).1, hr.same (heap_setCell_other _ _ g _ (by simpa using q3))⟩
end

/-- The list found so far. -/
structure FLs (F : Value) (fl : List Nat) (ne b : Nat) (P : Nat → Prop) : Prop where
  mem : ∀ x, x < ne → (x ∈ fl ↔ P x)
  lt : ∀ x, x ∈ fl → x < ne
  len : fl.length ≤ b
  nil : fl = [] → F = .slice none 0 0

theorem FLs.push {F F' : Value} {fl : List Nat} {ne b b' k : Nat} {P P' : Nat → Prop} (h : FLs F fl ne b P) (hk : k < ne) (hP : ∀ x, x < ne → (P' x ↔ (x = k ∨ P x))) (hb : b + 1 ≤ b') : FLs F' (fl ++ [k]) ne b' P' := by
  refine ⟨fun x hx => ?_, fun x hx => ?_, ?_, fun e => by simp at e⟩
  · rw [hP x hx, ← h.mem x hx]; simp [or_comm]
  · simp only [List.mem_append, List.mem_singleton] at hx
    rcases hx with hx | hx
    · exact h.lt x hx
    · rw [hx]; exact hk
  · have := h.len; simp; omega
theorem RC.push {W0 W W' : World} {X base N bc mc bf mf : Nat} {cv fv : Nat → Int} {F : Value} {fl : List Nat} {g cap k : Nat} (h : RC W0 W X base N bc mc bf mf cv fv F fl.length (intsN fl)) (hg : W.grownBy W' F.ownBlock) (hown : W'.ownsRow base 21 1 (.slice (some ⟨g, 0, none⟩) (fl.length + 1) cap) (fl.length + 1) (intsN fl ++ [.int .i32 (k : Int)])) (hx : W'.cell? ⟨X, 23, none⟩ = some F) :
    RC W0 (W'.setCell ⟨X, 23, none⟩ (.slice (some ⟨g, 0, none⟩) (fl.length + 1) cap)) X base N bc mc bf mf cv fv (.slice (some ⟨g, 0, none⟩) (fl.length + 1) cap) (fl ++ [k]).length (intsN (fl ++ [k])) := by
  have := h.row hg hown hx
  rw [show (fl ++ [k]).length = fl.length + 1 by simp, show intsN (fl ++ [k]) = intsN fl ++ [.int .i32 (k : Int)] by simp [intsN]]
  exact this
theorem FLs.same {F : Value} {fl : List Nat} {ne b b' : Nat} {P P' : Nat → Prop} (h : FLs F fl ne b P) (hP : ∀ x, x < ne → (P' x ↔ P x)) (hb : b ≤ b') : FLs F fl ne b' P' :=
  ⟨fun x hx => by rw [h.mem x hx, hP x hx], h.lt, by have := h.len; omega, h.nil⟩

/-- The last after the sort is the greatest. -/
theorem sorted_max {F : Value} {fl : List Nat} {ne b n n' : Nat} {P : Nat → Prop} {d' : Array Int} {G : Nat → Int} (hp : PermIn 0 n (fl.map (fun k : Nat => (k : Int))).toArray d') (hs : Srt 0 n d') (hn : fl.length = n) (h : FLs F fl ne b P) (h1 : 1 ≤ n) (h1' : 1 ≤ n') (hsu : SameUp n' n G (fun t => d'[t]!)) :
    ∃ K : Nat, G (n' - 1) = (K : Int) ∧ K < ne ∧ P K ∧ (∀ x, x < ne → P x → x ≤ K) ∧ ∀ jj, jj < n' → ∃ k : Nat, G jj = (k : Int) ∧ k ≤ K := by
  have hsz : d'.size = n := by have := hp.1; simp at this; omega
  have hperm := hp.2.2
  rw [show d'.extract 0 n = d' by rw [← hsz]; simp, show (fl.map (fun k : Nat => (k : Int))).toArray.extract 0 n = (fl.map (fun k : Nat => (k : Int))).toArray by rw [← hn]; simp; exact List.take_of_length_le (by simp)] at hperm
  have mem1 : ∀ t, t < n → ∃ k : Nat, d'[t]! = (k : Int) ∧ k ∈ fl := by
    intro t ht
    have : d'[t]! ∈ d'.toList := by rw [getElem!_pos d' t (by omega)]; simp
    have := hperm.mem_iff.mp this
    simp only [List.mem_map] at this
    obtain ⟨k, hk, e⟩ := this
    exact ⟨k, e.symm, hk⟩
  have mem2 : ∀ k : Nat, k ∈ fl → ∃ t, t < n ∧ d'[t]! = (k : Int) := by
    intro k hk
    have : (k : Int) ∈ d'.toList := hperm.mem_iff.mpr (by simp; exact ⟨k, hk, rfl⟩)
    obtain ⟨t, ht, e⟩ := List.mem_iff_getElem.mp this
    refine ⟨t, by simpa [hsz] using ht, ?_⟩
    rw [getElem!_pos d' t (by simpa using ht)]
    simpa using e
  obtain ⟨K, hK, hKm⟩ := mem1 (n - 1) (by omega)
  have hup : ∀ t, t < n → d'[t]! ≤ (K : Int) := fun t ht => by rw [← hK]; exact hs t (n - 1) (Nat.zero_le _) (by omega) (by omega)
  refine ⟨K, hsu.2.trans hK, h.lt K hKm, (h.mem K (h.lt K hKm)).mp hKm, fun x hx hPx => ?_, fun jj hjj => ?_⟩
  · obtain ⟨t, ht, e⟩ := mem2 x ((h.mem x hx).mpr hPx)
    have := hup t ht
    rw [e] at this; omega
  · obtain ⟨t, ht, e⟩ := (hsu.1 (G jj)).mp ⟨jj, hjj, rfl⟩
    obtain ⟨k, hk, _⟩ := mem1 t ht
    have := hup t ht
    simp only at e
    rw [hk] at this
    exact ⟨k, by rw [← e, hk], by omega⟩
/-- After the last has been reversed. -/
structure RE (W0 W : World) (X gp K bc mc bf mf g m n cap : Nat) (cv fv H : Nat → Int) (run : Bool) : Prop where
  os : W.os = W0.os
  tape : W.tape = W0.tape
  output : W.output = W0.output
  size : W0.heap.size ≤ W.heap.size
  blk : ∀ k, k < W0.heap.size → k ≠ X → k ≠ gp → W.heap[k]? = W0.heap[k]?
  xc : ∀ o, o ≠ 20 → o ≠ 21 → o ≠ 22 → o ≠ 23 → o ≠ 27 → W.cell? ⟨X, o, none⟩ = W0.cell? ⟨X, o, none⟩
  x20 : W.cell? ⟨X, 20, none⟩ = some (sl bc 0 2 mc)
  x21 : W.cell? ⟨X, 21, none⟩ = some (sl bf 0 2 mf)
  x23 : W.cell? ⟨X, 23, none⟩ = some (sl g 0 n cap)
  rc : RowG W bc 0 mc 2 cv
  rf : RowG W bf 0 mf 2 fv
  rg : RowG W g 0 m n H
  gc : ∀ o, o ≠ K * 9 + 8 → W.cell? ⟨gp, o, none⟩ = W0.cell? ⟨gp, o, none⟩
  more0 : run = false → W.cell? ⟨gp, K * 9 + 8, none⟩ = some (.pointer none)
  more1 : run = true → ∃ q b c, W.cell? ⟨gp, K * 9 + 8, none⟩ = some (pt q) ∧ W.cell? ⟨q, 0, none⟩ = some (.slice (some ⟨b, 0, none⟩) 1 c) ∧ W.cell? ⟨b, 0, none⟩ = some (.int .i64 1) ∧ q ≠ bc ∧ q ≠ bf ∧ b ≠ bc ∧ b ≠ bf
  pl : X < W0.heap.size ∧ gp < W0.heap.size ∧ W0.heap.size ≤ bc ∧ W0.heap.size ≤ bf ∧ W0.heap.size ≤ g ∧ bc ≠ bf ∧ bc ≠ g ∧ bf ≠ g
section
variable {W0 W W' : World} {X gp K bc mc bf mf g m n cap : Nat} {cv fv H : Nat → Int} {run : Bool}
theorem RE.start {W0 Wa Wb : World} {base : Nat} {xs : List Value} (h : RC W0 Wa X base 2 bc mc bf mf cv fv (sl g 0 n cap) n xs) (hg : RowG Wa g 0 m n H) (hr : RvOut Wa Wb X gp K run) (hgp : gp < W0.heap.size) (hgX : gp ≠ X) : RE W0 Wb X gp K bc mc bf mf g m n cap cv fv H run := by
  obtain ⟨q1, q2, q3, q4, q5, q6⟩ := h.far (b := g) rfl
  have h1 := h.bcl
  have h2 := h.bfl
  have h3 := h.hb
  have hs := h.size
  have hs2 := hr.size
  have hx := h.xl
  have rc : RowG Wb bc 0 mc 2 cv := h.rc.same (hr.blk bc (by omega) (by omega) (by omega))
  have rf : RowG Wb bf 0 mf 2 fv := h.rf.same (hr.blk bf (by omega) (by omega) (by omega))
  refine ⟨hr.os.trans h.os, hr.tape.trans h.tape, hr.output.trans h.output, by omega, fun k hk n1 n2 => (hr.blk k (by omega) n1 n2).trans (h.blk k hk n1), fun o p1 p2 p3 p4 p5 => (hr.xc o p3 p5).trans (h.xc o p1 p2 p4),
    (hr.xc 20 (by decide) (by decide)).trans h.x20, (hr.xc 21 (by decide) (by decide)).trans h.x21, (hr.xc 23 (by decide) (by decide)).trans h.x23, rc, rf, hg.same (hr.blk g (by omega) q3 (by omega)),
    fun o ho => (hr.gc o ho).trans (World.cell?_of_block (h.blk gp hgp hgX)), hr.more0, fun hrun => ?_, hx, hgp, h1.1, h2.1, q6, h.ne, Ne.symm q4, Ne.symm q5⟩
  obtain ⟨q, b, c, m1, m2, m3⟩ := hr.more1 hrun
  have c0 := rc.cells.1 0 (by decide)
  have f0 := rf.cells.1 0 (by decide)
  rw [Nat.zero_add] at c0 f0
  refine ⟨q, b, c, m1, m2, m3, ?_, ?_, ?_, ?_⟩
  · intro e; rw [e, c0] at m2; cases m2
  · intro e; rw [e, f0] at m2; cases m2
  · intro e; rw [e, c0] at m3; cases m3
  · intro e; rw [e, f0] at m3; cases m3
theorem RE.drewN (h : RE W0 W X gp K bc mc bf mf g m n cap cv fv H run) (k : Nat) : RE W0 (W.drewN k) X gp K bc mc bf mf g m n cap cv fv H run :=
  ⟨h.os, h.tape, h.output, h.size, h.blk, h.xc, h.x20, h.x21, h.x23, h.rc, h.rf, h.rg, h.gc, h.more0, h.more1, h.pl⟩
theorem RE.fr {b : Nat} (h : RE W0 W X gp K bc mc bf mf g m n cap cv fv H run) (hf : Fr W W' b) (hb : b = bc ∨ b = bf) {cv' fv' : Nat → Int} (h1 : RowG W' bc 0 mc 2 cv') (h2 : RowG W' bf 0 mf 2 fv') : RE W0 W' X gp K bc mc bf mf g m n cap cv' fv' H run := by
  obtain ⟨a1, a2, a3, a4, a5⟩ := hf
  obtain ⟨p1, p2, p3, p4, p5, p6, p7, p8⟩ := h.pl
  have hs := h.size
  have hX : W'.heap[X]? = W.heap[X]? := a5 X (by omega) (by rcases hb with e | e <;> omega)
  have hG : W'.heap[gp]? = W.heap[gp]? := a5 gp (by omega) (by rcases hb with e | e <;> omega)
  have hg : W'.heap[g]? = W.heap[g]? := a5 g (by have := cell_lt (h.x23); obtain ⟨C, c1, _⟩ := h.rg; exact (Array.getElem?_eq_some_iff.1 c1).1) (by rcases hb with e | e <;> omega)
  refine ⟨a1.trans h.os, a2.trans h.tape, a3.trans h.output, by omega, fun k hk n1 n2 => (a5 k (by omega) (by rcases hb with e | e <;> omega)).trans (h.blk k hk n1 n2), fun o q1 q2 q3 q4 q5 => (World.cell?_of_block hX).trans (h.xc o q1 q2 q3 q4 q5),
    (World.cell?_of_block hX).trans h.x20, (World.cell?_of_block hX).trans h.x21, (World.cell?_of_block hX).trans h.x23, h1, h2, h.rg.same hg, fun o ho => (World.cell?_of_block hG).trans (h.gc o ho), fun hr => (World.cell?_of_block hG).trans (h.more0 hr), fun hr => ?_, h.pl⟩
  obtain ⟨q, b', c, m1, m2, m3, m4, m5, m6, m7⟩ := h.more1 hr
  exact ⟨q, b', c, (World.cell?_of_block hG).trans m1, (World.cell?_of_block (a5 q (cell_lt m2) (by rcases hb with e | e <;> omega))).trans m2, (World.cell?_of_block (a5 b' (cell_lt m3) (by rcases hb with e | e <;> omega))).trans m3, m4, m5, m6, m7⟩
theorem RE.cell (h : RE W0 W X gp K bc mc bf mf g m n cap cv fv H run) {b o : Nat} {v : Value} (h1 : b ≠ X) (h2 : b ≠ gp) (hc : W0.cell? ⟨b, o, none⟩ = some v) : W.cell? ⟨b, o, none⟩ = some v := by
  rw [World.cell?_of_block (h.blk b (cell_lt hc) h1 h2)]; exact hc
theorem EvR.re {p : Pl} {D : Dat} (he : EvR W0 p D) (h : RE W0 W p.X gp K bc mc bf mf g m n cap cv fv H run) (h2 : p.ge ≠ p.X) (h3 : p.gc ≠ p.X) (h4 : p.ge ≠ gp) (h5 : p.gc ≠ gp) : EvR W p D :=
  ⟨(h.xc 2 (by decide) (by decide) (by decide) (by decide) (by decide)).trans he.x2, (h.xc 3 (by decide) (by decide) (by decide) (by decide) (by decide)).trans he.x3, fun k hk => h.cell h2 h4 (he.e0 k hk), fun k hk => h.cell h2 h4 (he.e1 k hk), fun k hk => h.cell h2 h4 (he.e2 k hk), fun k hk => h.cell h2 h4 (he.e3 k hk), fun j hj => h.cell h3 h5 (he.cl j hj), he.cap, he.capm, he.small, he.tN⟩
end
end Go.Proofs.Ybulkbxvu
