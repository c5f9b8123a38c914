/-
  reverse, at the law's chain: the walk.
-/
import Derived.Test.YbulkbxvuR6
import Derived.Deep.RegionHeld3
namespace Go.Proofs.Ybulkbxvu
open Go.RowKit
set_option linter.unusedVariables false

/-- The path and the runnable threads, as they are read: at event k thread 0, and thread 1 where 'run k'. -/
structure PaR (W : World) (X gp cp gr cr ne : Nat) (R : Nat → Nat) (run : Nat → Bool) : Prop where
  x1 : W.cell? ⟨X, 1, none⟩ = some (.slice (some ⟨gp, 0, none⟩) ne cp)
  x7 : W.cell? ⟨X, 7, none⟩ = some (.slice (some ⟨gr, 0, none⟩) (R ne) cr)
  n5 : ∀ k, k < ne → W.cell? ⟨gp, k * 9 + 5, none⟩ = some (.int .i32 (R k : Int))
  step : ∀ k, k < ne → R (k + 1) = R k + (if run k then 2 else 1)
  r0 : ∀ k, k < ne → W.cell? ⟨gr, R k, none⟩ = some (.int .i32 0)
  r1 : ∀ k, k < ne → run k = true → W.cell? ⟨gr, R k + 1, none⟩ = some (.int .i32 1)
  tot : ∀ k, k ≤ ne → R k ≤ R ne
  cap : R ne ≤ cr
  small : R ne ≤ 1024 ∧ ne ≤ 512

set_option maxHeartbeats 2000000 in
set_option maxRecDepth 100000 in
theorem runnableAt_any (W : World) (X gp cp gr cr ne : Nat) (R : Nat → Nat) (run : Nat → Bool) (h : PaR W X gp cp gr cr ne R run) (k : Nat) (hk : k < ne) :
    Calls Yba.prog 36 #[pt X, .int .i64 (k : Int)] W fun e W' => e = .returned (.slice (some ⟨gr, R k, none⟩) (R (k + 1) - R k) (cr - R k)) ∧ ∃ m, W' = W.drewN m := by
  have x1 := h.x1
  have x7 := h.x7
  have e5 := h.n5 k hk
  have e5' := h.n5 (k + 1)
  have hst := h.step k hk
  have htot := h.tot (k + 1) hk
  have hcap := h.cap
  obtain ⟨s1, s2⟩ := h.small
  clear h
  obtain ⟨a, ha⟩ : ∃ a, R k = a := ⟨_, rfl⟩
  obtain ⟨b, hb⟩ : ∃ b, R (k + 1) = b := ⟨_, rfl⟩
  obtain ⟨T, hT⟩ : ∃ T, R ne = T := ⟨_, rfl⟩
  have hab : a < b := by
    rw [← ha, ← hb, hst]; split <;> omega
  rw [hT] at x7 htot hcap s1
  rw [hb] at htot e5'
  rw [ha] at e5
  rw [ha, hb]
  clear hst
  have hcr : ¬ cr = a := by omega
  by_cases hlast : (k : Int) + 1 < (ne : Int)
  · have e5'' := e5' (by omega)
    clear e5' ha hb hT
    go_enter Yba.func36, Yba.ntmps36
    go_wp2
    go_quiet (fail)
    go_wp2
    go_ret
    exact ⟨rfl, _, rfl⟩
  · have hbT : b = T := by rw [← hb, ← hT]; congr 1; omega
    subst hbT
    clear e5' ha hb hT
    go_enter Yba.func36, Yba.ntmps36
    go_wp2
    go_quiet (fail)
    go_wp2
    go_ret
    exact ⟨rfl, _, rfl⟩

/-- What reverse finds: the chain. -/
structure RvIn (W : World) (p : Pl) (D : Dat) (S K gp cp gr cr bf cf : Nat) (R : Nat → Nat) (run : Nat → Bool) : Prop where
  ev : EvR W p D
  N2 : D.N = 2
  t0 : ∀ k, k < D.ne → D.t k = 0
  nth : ∀ k, k < D.ne → D.nth k = (k : Int) + 1
  ck : ∀ k, k < D.ne → D.ck (k * 2) = (k : Int) + 1
  pa : PaR W p.X gp cp gr cr D.ne R run
  hK : K < D.ne
  s0 : W.cell? ⟨S, 0, none⟩ = some (.int .i64 (D.ne : Int))
  s1 : W.cell? ⟨S, 1, none⟩ = some (.int .i64 1)
  x21 : W.cell? ⟨p.X, 21, none⟩ = some (sl bf 0 2 cf)
  x22 : W.cell? ⟨p.X, 22, none⟩ = some (.slice none 0 0)
  x27 : W.cell? ⟨p.X, 27, none⟩ = some (.slice none 0 0)
  fz : ∀ o, W.frozen? ⟨p.X, o, none⟩ = false
  n0 : W.cell? ⟨gp, K * 9, none⟩ = some (.int .i32 0)
  n7 : W.cell? ⟨gp, K * 9 + 7, none⟩ = some (.slice none 0 0)
  n8 : W.cell? ⟨gp, K * 9 + 8, none⟩ = some (.pointer none)
  f8 : W.frozen? ⟨gp, K * 9 + 8, none⟩ = false
  d1 : p.ge ≠ p.X
  d2 : p.gc ≠ p.X
  d3 : S ≠ p.X
  d4 : gp ≠ p.X
  d5 : gr ≠ p.X
  d6 : gr ≠ gp

/-- The world inside reverse: the box of e, too. -/
def RV (W wx : World) (X : Nat) (F I : Value) (K : Nat) : Prop := RS W wx X F I ∧ W.heap.size < wx.heap.size ∧ wx.cell? ⟨W.heap.size, 0, none⟩ = some (.int .i32 0) ∧ wx.cell? ⟨W.heap.size, 1, none⟩ = some (.int .i32 ((K : Int) + 1))
theorem RV.below {W wx W' : World} {X : Nat} {F I : Value} {K : Nat} (h : RV W wx X F I K) (hb : Below wx.heap.size wx W') : RV W W' X F I K :=
  ⟨h.1.below hb, Nat.lt_of_lt_of_le h.2.1 hb.size, (hb.cell h.2.1).trans h.2.2.1, (hb.cell h.2.1).trans h.2.2.2⟩
theorem RV.drewN {W wx : World} {X : Nat} {F I : Value} {K : Nat} (h : RV W wx X F I K) (k : Nat) : RV W (wx.drewN k) X F I K := ⟨h.1.drewN k, h.2⟩
theorem RV.set22 {W wx : World} {X : Nat} {F I : Value} {K : Nat} (h : RV W wx X F I K) (hX : X < W.heap.size) (v : Value) : RV W (wx.setCell ⟨X, 22, none⟩ v) X v I K :=
  ⟨h.1.set22 v, by simp [World.setCell]; exact h.2.1, by rw [World.cell?_setCell_other _ _ _ _ (by simp)]; exact h.2.2.1, by rw [World.cell?_setCell_other _ _ _ _ (by simp)]; exact h.2.2.2⟩
theorem RV.set27 {W wx : World} {X : Nat} {F I : Value} {K : Nat} (h : RV W wx X F I K) (hX : X < W.heap.size) (v : Value) : RV W (wx.setCell ⟨X, 27, none⟩ v) X F v K :=
  ⟨h.1.set27 v, by simp [World.setCell]; exact h.2.1, by rw [World.cell?_setCell_other _ _ _ _ (by simp)]; exact h.2.2.1, by rw [World.cell?_setCell_other _ _ _ _ (by simp)]; exact h.2.2.2⟩

end Go.Proofs.Ybulkbxvu
