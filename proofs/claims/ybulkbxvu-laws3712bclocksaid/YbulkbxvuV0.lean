/-
  LawS3712BClock: what stands beside its walk.
-/
import Derived.Test.YbulkbxvuT3
import Derived.Test.YbulkbxvuH4
import Derived.Test.YbulkbxvuU1
import Derived.Test.YbulkbxvuC1
namespace Go.Proofs.Ybulkbxvu.Ck
open Go.RowKit
set_option linter.unusedVariables false

/-- The resuming event. -/
def resF (ne : Nat) (r : Int) : Int := r % ((ne : Int) + 1) - 1
theorem resF_rng (ne : Nat) (r : Int) : -1 ≤ resF ne r ∧ resF ne r < (ne : Int) := by
  unfold resF
  have h1 := Int.emod_nonneg r (show ((ne : Int) + 1) ≠ 0 by omega)
  have h2 := Int.emod_lt_of_pos r (show (0 : Int) < (ne : Int) + 1 by omega)
  omega
theorem tmod_cases (ne : Nat) (r : Int) : (r.tmod ((ne : Int) + 1) < 0 ∧ r.tmod ((ne : Int) + 1) + ((ne : Int) + 1) - 1 = resF ne r) ∨ (0 ≤ r.tmod ((ne : Int) + 1) ∧ r.tmod ((ne : Int) + 1) - 1 = resF ne r) := by
  have h1 := Int.emod_nonneg r (show ((ne : Int) + 1) ≠ 0 by omega)
  have h2 := Int.emod_lt_of_pos r (show (0 : Int) < (ne : Int) + 1 by omega)
  have h3 := Int.tmod_eq_emod (a := r) (b := (ne : Int) + 1)
  have h4 : (((ne : Int) + 1).natAbs : Int) = (ne : Int) + 1 := by omega
  unfold resF
  by_cases hc : 0 ≤ r ∨ ((ne : Int) + 1) ∣ r
  · rw [if_pos hc] at h3; right; omega
  · rw [if_neg hc, h4] at h3; left; omega
/-- Three cells. -/
def f3 (a b c : Int) : Nat → Int
  | 0 => a
  | 1 => b
  | _ => c

theorem MxC.no {k : Nat} {P : Nat → Prop} {f : Nat → Int} {v : Int} (h : MxC k P f v) (hn : P k → f k ≤ v) : MxC (k + 1) P f v := by
  obtain ⟨h1, h2, h3⟩ := h
  refine ⟨h1, fun x hx hP => ?_, h3.imp id (fun ⟨x, a, b⟩ => ⟨x, by omega, b⟩)⟩
  by_cases e : x = k
  · subst e; exact hn hP
  · exact h2 x (by omega) hP
theorem MxC.yes {k : Nat} {P : Nat → Prop} {f : Nat → Int} {v : Int} (h : MxC k P f v) (hP : P k) (hv : v < f k) : MxC (k + 1) P f (f k) := by
  obtain ⟨h1, h2, h3⟩ := h
  refine ⟨by omega, fun x hx hPx => ?_, .inr ⟨k, by omega, hP, rfl⟩⟩
  by_cases e : x = k
  · subst e; exact Int.le_refl _
  · have := h2 x (by omega) hPx; omega
theorem MxC.zero (P : Nat → Prop) (f : Nat → Int) : MxC 0 P f 0 := ⟨Int.le_refl _, fun k hk => by omega, .inl rfl⟩

set_option maxHeartbeats 4000000 in
set_option maxRecDepth 100000 in
theorem big1 (W : World) (ea sa : Option Addr) (ne ec nu sc : Nat) (a s r0 r1 r2 : Int) (h : (512 : Int) < (ne : Int)) : Calls Yba.prog 3 #[.int .u8 a, .slice ea ne ec, .int .u8 s, .slice sa nu sc, .agg #[.int .i16 r0, .int .i16 r1, .int .i16 r2]] W fun e W' => e = .returned (.bool true) ∧ Below W.heap.size W W' := by
  go_enter Yba.func3, Yba.ntmps3
  go_wp2
  go_ret
  exact ⟨rfl, (Below.refl _ _).alloc (Nat.le_refl _) _⟩
set_option maxHeartbeats 4000000 in
set_option maxRecDepth 100000 in
theorem big2 (W : World) (ea sa : Option Addr) (ne ec nu sc : Nat) (a s r0 r1 r2 : Int) (h1 : (ne : Int) ≤ 512) (h : (512 : Int) < (nu : Int)) : Calls Yba.prog 3 #[.int .u8 a, .slice ea ne ec, .int .u8 s, .slice sa nu sc, .agg #[.int .i16 r0, .int .i16 r1, .int .i16 r2]] W fun e W' => e = .returned (.bool true) ∧ Below W.heap.size W W' := by
  go_enter Yba.func3, Yba.ntmps3
  go_wp2
  go_ret
  exact ⟨rfl, (Below.refl _ _).alloc (Nat.le_refl _) _⟩

/-- What the law holds in hand after races. -/
structure AfR (W W7 : World) (X T L R gp cp bf N ne st : Nat) (E : EvD) (fv : Nat → Int) (rv : Int) : Prop where
  bel : Below W.heap.size W W7
  f : ∀ t, t < N → W7.cell? ⟨bf, t, none⟩ = some (.int .i32 (fv t))
  x1 : 0 < ne → W7.cell? ⟨X, 1, none⟩ = some (.slice (some ⟨gp, 0, none⟩) ne cp)
  no : ∀ k, k < ne → W7.cell? ⟨gp, k * 9 + 8, none⟩ = some (.pointer none)
  tr : ∀ k, k < ne → W7.cell? ⟨T, k, none⟩ = some (.int .i64 (tt E N k : Int))
  l : ∀ t, t < N → W7.cell? ⟨L, t, none⟩ = some (.int .i32 (la E N t ne))
  r : W7.cell? ⟨R, st, none⟩ = some (.int .i32 rv)
theorem AfR.below {W W7 W8 : World} {X T L R gp cp bf N ne st : Nat} {E : EvD} {fv : Nat → Int} {rv : Int} (h : AfR W W7 X T L R gp cp bf N ne st E fv rv) (hb : Below W7.heap.size W7 W8) : AfR W W8 X T L R gp cp bf N ne st E fv rv := by
  have c : ∀ {b o : Nat} {v : Value}, W7.cell? ⟨b, o, none⟩ = some v → W8.cell? ⟨b, o, none⟩ = some v := fun hc => (hb.cell (cell_lt hc)).trans hc
  exact ⟨h.bel.trans (hb.mono h.bel.size), fun t ht => c (h.f t ht), fun hn => c (h.x1 hn), fun k hk => c (h.no k hk), fun k hk => c (h.tr k hk), fun t ht => c (h.l t ht), c h.r⟩
/-- What races leaves, at the law. -/
theorem AfR.of {W Wb W6 W7 : World} {p : Pc} {E : EvD} {N ne st R gp cp bf : Nat} {vv : Nat → Value} (h : BS Wb W6 p E N (Sk E N ne) ne ne ne ne vv vv (fun o => vv (6 + o))) (hWb : Below W.heap.size W Wb) {fv : Nat → Int} {rv : Int} (hr : RcsOut W6 W7 p.X N bf fv) (hRX : R ≠ p.X) (hRv : W6.cell? ⟨R, st, none⟩ = some (.int .i32 rv))
    (hgX : gp ≠ p.X) (hno : ∀ k, k < ne → W6.cell? ⟨gp, k * 9 + 8, none⟩ = some (.pointer none)) (hx : 0 < ne → W6.cell? ⟨p.X, 1, none⟩ = some (.slice (some ⟨gp, 0, none⟩) ne cp)) : AfR W W7 p.X p.T p.L R gp cp bf N ne st E fv rv := by
  obtain ⟨a1, a2, a3, a4, a5⟩ := h.hi
  obtain ⟨l1, l2, l3, l4, l5⟩ := h.lo
  have hs := h.hb
  have fs := h.fr.size
  have ws := hWb.size
  have c : ∀ {b o : Nat} {v : Value}, b ≠ p.X → W6.cell? ⟨b, o, none⟩ = some v → W7.cell? ⟨b, o, none⟩ = some v := fun hb hc => (World.cell?_of_block (hr.blk _ (cell_lt hc) hb)).trans hc
  refine ⟨⟨hr.os.trans (h.fr.os.trans hWb.os), hr.tape.trans (h.fr.tape.trans hWb.tape), hr.output.trans (h.fr.output.trans hWb.output), by have := hr.size; omega, fun k hk => (hr.blk k (by omega) (by omega)).trans ((h.fr.block k (by omega)).trans (hWb.block k hk))⟩, hr.f, fun hn => hr.x1.trans (hx hn), fun k hk => c hgX (hno k hk), fun k hk => c (Ne.symm h.d1.2.1) (h.pT.cell ?_), fun t ht => c (Ne.symm h.d1.2.2.1) (h.pL.cell (gN_at ht)), c hRX hRv⟩
  unfold gT; rw [if_pos hk]
end Go.Proofs.Ybulkbxvu.Ck
