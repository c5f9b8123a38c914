/-
  From what build leaves to what races is given.
-/
import Derived.Test.YbulkbxvuB0
namespace Go.Proofs.Ybulkbxvu
open Go.RowKit
set_option linter.unusedVariables false

/-- A row that is not empty. -/
theorem own_some {W : World} {base e s n : Nat} {v : Value} {xs : List Value} (h : W.ownsRow base e s v n xs) (hn : 0 < n) : ∃ g cap, v = .slice (some ⟨g, 0, none⟩) n cap ∧ v.ownBlock = some g ∧ base ≤ g ∧ n ≤ cap ∧ cap ≤ maxLen ∧ (∀ j u, xs[j]? = some u → W.cell? ⟨g, j, none⟩ = some u) ∧ ∀ j, W.frozen? ⟨g, j, none⟩ = false := by
  rcases h.2 with ⟨_, h0⟩ | ⟨g, cap, cur, hv, hb, hh, r1, r2, r3, r4⟩
  · omega
  · refine ⟨g, cap, hv, by rw [hv]; rfl, hb, r1, r2, fun j u hj => ?_, fun j => by simp [World.frozen?, hh]⟩
    rw [← r4] at hj
    have hlt : j < n * s := by
      have := (List.getElem?_eq_some_iff.mp hj).1
      simp at this; omega
    rw [List.getElem?_take_of_lt hlt] at hj
    simp only [Array.getElem?_toList] at hj
    simp [World.cell?, hh, hj]

/-- What the law lays beside: the replay, the step. -/
structure RsIn (W : World) (X base ne RB S lb lc rb rc gs cs nu : Nat) (su : Nat → Nat) : Prop where
  s0 : W.cell? ⟨S, 0, none⟩ = some (.int .i64 (ne : Int))
  s1 : W.cell? ⟨S, 1, none⟩ = some (.int .i64 1)
  s2 : W.cell? ⟨S, 2, none⟩ = some (.slice (some ⟨gs, 0, none⟩) nu cs)
  s3 : W.cell? ⟨S, 3, none⟩ = some (.slice none 0 0)
  su' : UsR W gs 0 nu (fun j => dec (su j))
  r14 : W.cell? ⟨RB, 14, none⟩ = some (sl lb 0 2 lc)
  r15 : W.cell? ⟨RB, 15, none⟩ = some (sl rb 0 2 rc)
  l0 : W.cell? ⟨lb, 0, none⟩ = some (.int .i32 ((ne : Int) - 1))
  l1 : W.cell? ⟨lb, 1, none⟩ = some (.int .i32 (-1))
  rr1 : W.cell? ⟨rb, 1, none⟩ = some (.int .i32 (-1))
  dX : RB ≠ X ∧ S ≠ X ∧ lb ≠ X ∧ rb ≠ X ∧ gs ≠ X

/-- All that races wants. -/
theorem BS.rcIn {W0 W : World} {p : Pc} {E : EvD} {ne : Nat} {la co : Int} {vv : Nat → Value} (h : BS W0 W p E (Sk E ne) ne la co vv vv (fun o => vv (6 + o))) (hne : ne ≤ 512) {nu : Nat} (hnu : nu ≤ 512) {su : Nat → Nat} {RB S lb lc rb rc gs cs : Nat} (hR : RsIn W p.X p.base ne RB S lb lc rb rc gs cs nu su) :
    ∃ pl u D U q R, RcIn W pl u D U q R E.ru (fun o => vv (6 + o)) E nu su ∧ pl.X = p.X ∧ D.ne = ne ∧ q.RB = RB ∧ q.S = S ∧ p.base ≤ q.gp ∧ (0 < ne → W.cell? ⟨p.X, 1, none⟩ = some (.slice (some ⟨q.gp, 0, none⟩) ne q.cp)) := by
  have hXb := h.hi.1
  have hXw : p.X < W.heap.size := by have := h.hb; omega
  have sh : ∀ i, i < 9 → ∃ ao cap, vv i = .slice ao (nS (Sk E ne) i) cap := fun i hi => BI.shape h i hi
  have ge : ∀ i, i < 9 → ∀ b, (vv i).ownBlock = some b → p.base ≤ b := fun i hi b hb => ((BI.own h i hi).lt b hb).1
  obtain ⟨a1, cp1, e1⟩ := sh 1 (by decide)
  have hlist : ∀ o, o < 3 → ∃ ao c, vv (6 + o) = .slice ao (obL E o ne).length c ∧ (0 < (obL E o ne).length → ao = some ⟨((vv (6 + o)).ownBlock).getD (p.X + 1), 0, none⟩) := fun o ho => by
    have ho' := BS.ownO h o ho
    rcases Nat.eq_zero_or_pos (obL E o ne).length with h0 | h0
    · obtain ⟨ao, c, e⟩ := sh (6 + o) (by omega)
      rw [nS_6] at e
      exact ⟨ao, c, e, fun h => by omega⟩
    · obtain ⟨g, c, e, e2, _⟩ := own_some ho' h0
      exact ⟨_, c, e, fun _ => by rw [e2]; rfl⟩
  have hlic : ∀ o, o < 3 → ∀ j k : Nat, (obL E o ne)[j]? = some k → W.cell? ⟨((vv (6 + o)).ownBlock).getD (p.X + 1), j, none⟩ = some (.int .i32 (k : Int)) := fun o ho j k hj => by
    have h0 : 0 < (obL E o ne).length := by have := (List.getElem?_eq_some_iff.mp hj).1; omega
    obtain ⟨g, c, e, e2, _, _, _, hc, _⟩ := own_some (BS.ownO h o ho) h0
    rw [e2]
    refine hc j _ ?_
    show ((obL E o ne).map (fun k : Nat => Value.int .i32 (k : Int)))[j]? = _
    rw [List.getElem?_map, hj]; rfl
  have hdgo : ∀ o, o < 3 → ((vv (6 + o)).ownBlock).getD (p.X + 1) ≠ p.X := fun o ho e => by
    cases hb : (vv (6 + o)).ownBlock with
    | none => rw [hb] at e; simp at e
    | some b => rw [hb] at e; have := ge (6 + o) (by omega) b hb; simp at e; omega
  rcases Nat.eq_zero_or_pos ne with hn0 | hn0
  · refine ⟨⟨p.X, W.heap.size + p.X + 3, 0, W.heap.size + p.X + 4, 0⟩, ⟨none, 0, none, 0⟩, ⟨2, ne, fun _ => 0, fun k => (k : Int) + 1, ckV, fun k => (useL E k).length⟩, usAt E ne, ⟨p.M, RB, S, lb, lc, rb, rc, gs, cs, fun o => ((vv (6 + o)).ownBlock).getD (p.X + 1), W.heap.size + p.X + 1, 0, W.heap.size + p.X + 2, 0, W.heap.size + p.X + 5⟩, fun k => (rnL E k).length, ?_, rfl, rfl, rfl, rfl, by have := h.hb; show p.base ≤ W.heap.size + p.X + 1; omega, fun h => by omega⟩
    exact ⟨rfl, hne, hnu, ⟨a1, cp1, by have := h.pX.cell (o := 2) rfl; rw [this, e1]; rfl⟩, fun h => by simp at h; omega, fun h => by simp at h; omega, fun h => by simp at h; omega, fun k hk => rfl, fun k hk => rfl, fun k hk => by simp at hk; omega, fun k hk => by simp at hk; omega, fun k hk => by simp at hk; omega, fun k hk => by simp at hk; omega, fun k hk => by simp at hk; omega, fun k hk => by simp at hk; omega,
      h.pX.cell (o := 6) rfl, h.pX.cell (o := 9) rfl, h.pX.cell (o := 20) rfl, h.pX.cell (o := 21) rfl, h.pX.cell (o := 22) rfl, h.pX.cell (o := 23) rfl, h.pX.cell (o := 27) rfl, h.pX.fz, h.mp, hlist, hlic, hR.s0, hR.s1, hR.s2, hR.s3, hR.su', hR.r14, hR.r15, hR.l0, hR.l1, hR.rr1, ⟨Ne.symm h.d1.1, hR.dX⟩, ⟨show W.heap.size + p.X + 3 ≠ p.X by omega, show W.heap.size + p.X + 4 ≠ p.X by omega, show W.heap.size + p.X + 1 ≠ p.X by omega, show W.heap.size + p.X + 2 ≠ p.X by omega, show W.heap.size + p.X + 5 ≠ p.X by omega, show W.heap.size + p.X + 2 ≠ W.heap.size + p.X + 1 by omega⟩, ⟨show W.heap.size + p.X + 3 ≠ W.heap.size + p.X + 1 by omega, show W.heap.size + p.X + 4 ≠ W.heap.size + p.X + 1 by omega⟩, hdgo,
      fun o ho k hk => by simp at hk; omega, fun k hk => by simp at hk; omega⟩
  · obtain ⟨gp, cp, vp, bp, lp, _, _, cpc, fpc⟩ := own_some (BI.own h 0 (by decide)) (show 0 < nS (Sk E ne) 0 from hn0)
    obtain ⟨gE, cE, vE, bE, lE, _, _, cEc, _⟩ := own_some (BI.own h 1 (by decide)) (show 0 < nS (Sk E ne) 1 from hn0)
    obtain ⟨gC, cC, vC, bC, lC, kC, mC, cCc, _⟩ := own_some (BI.own h 2 (by decide)) (show 0 < (ckL ne).length by rw [ckL_len]; omega)
    obtain ⟨gR, cR, vR, bR, lR, kR, _, cRc, _⟩ := own_some (BI.own h 5 (by decide)) (show 0 < (rnL E ne).length by have := rnL_pos E ne; omega)
    obtain ⟨aU, cU, vU⟩ := sh 3 (by decide)
    obtain ⟨aG, cG, vG⟩ := sh 4 (by decide)
    have hCU : (useL E ne).length ≤ cU := by
      rcases (BI.own h 3 (by decide)).2 with ⟨_, h0⟩ | ⟨g, cap, cur, hv, _, _, r1, _⟩
      · have : (useL E ne).length = 0 := h0
        omega
      · rw [vU] at hv; injection hv with _ _ hv; rw [hv]; exact r1
    have hCG : (useL E ne).length ≤ cG := by
      rcases (BI.own h 4 (by decide)).2 with ⟨_, h0⟩ | ⟨g, cap, cur, hv, _, _, r1, _⟩
      · have : (useL E ne).length = 0 := h0
        omega
      · rw [vG] at hv; injection hv with _ _ hv; rw [hv]; exact r1
    have hus : UsR W ((vv 3).ownBlock.getD (p.X + 1)) 0 (useL E ne).length (usAt E ne) := fun j hj => by
      obtain ⟨g, c, _, e2, _, _, _, hc, _⟩ := own_some (BI.own h 3 (by decide)) (show 0 < (useL E ne).length by omega)
      have hu : (useL E ne)[j]? = some (usAt E ne j) := by unfold usAt; rw [List.getElem?_eq_getElem hj]; rfl
      have f : ∀ i, i < 4 → ∀ u, (usAt E ne j).cs[i]? = some u → W.cell? ⟨g, 0 + j * 4 + i, none⟩ = some u := fun i hi u hcu => by
        rw [Nat.zero_add]
        refine hc _ u ?_
        show ((useL E ne).flatMap Use4.cs)[j * 4 + i]? = _
        rw [flat_get _ j i _ hu hi]; exact hcu
      rw [e2]
      exact ⟨f 0 (by decide) _ rfl, f 1 (by decide) _ rfl, f 2 (by decide) _ rfl, f 3 (by decide) _ rfl⟩
    have hguX : (vv 3).ownBlock.getD (p.X + 1) ≠ p.X := fun e => by
      cases hb : (vv 3).ownBlock with
      | none => rw [hb] at e; simp at e
      | some b => rw [hb] at e; have := ge 3 (by decide) b hb; simp at e; omega
    have ap : ∀ i j, i < 9 → j < 9 → i ≠ j → ∀ a b, (vv i).ownBlock = some a → (vv j).ownBlock = some b → a ≠ b := fun i j hi hj hij a b ha hb e => h.ap i j hi hj hij a ha (by rw [hb, e])
    have x1 := h.pX.cell (o := 1) rfl
    have x2 := h.pX.cell (o := 2) rfl
    have x3 := h.pX.cell (o := 3) rfl
    have x4 := h.pX.cell (o := 4) rfl
    have x5 := h.pX.cell (o := 5) rfl
    have x7 := h.pX.cell (o := 7) rfl
    rw [vp] at x1; rw [vE] at x2; rw [vC] at x3; rw [vU] at x4; rw [vG] at x5; rw [vR] at x7
    have hul := useL_len E ne
    have hrl := rnL_len E ne
    have n8 : ∀ k, k < ne → ∀ i, i < 9 → ∀ u, [Value.int .i32 0, .int .i32 0, .int .i32 0, .int .i32 0, .int .i32 0, .int .i32 ((rnL E k).length : Int), .bool false, .slice none 0 0, .pointer none][i]? = some u → W.cell? ⟨gp, k * 9 + i, none⟩ = some u := fun k hk i hi u hu => cpc _ u (by show (paL E ne)[k * 9 + i]? = _; rw [paL_get E ne k i hk hi]; exact hu)
    have ev4 : ∀ k, k < ne → ∀ i, i < 4 → ∀ u, [Value.int .i32 0, .int .i32 ((k : Int) + 1), .int .i32 ((ckL k).length : Int), .int .i32 ((useL E k).length : Int)][i]? = some u → W.cell? ⟨gE, k * 4 + i, none⟩ = some u := fun k hk i hi u hu => cEc _ u (by show (evL E ne)[k * 4 + i]? = _; rw [evL_get E ne k i hk hi]; exact hu)
    refine ⟨⟨p.X, gE, cE, gC, cC⟩, ⟨aU, cU, aG, cG⟩, ⟨2, ne, fun _ => 0, fun k => (k : Int) + 1, ckV, fun k => (useL E k).length⟩, usAt E ne, ⟨p.M, RB, S, lb, lc, rb, rc, gs, cs, fun o => ((vv (6 + o)).ownBlock).getD (p.X + 1), gp, cp, gR, cR, (vv 3).ownBlock.getD (p.X + 1)⟩, fun k => (rnL E k).length, ?_, rfl, rfl, rfl, rfl, lp, fun _ => x1⟩
    have hEv : EvR W ⟨p.X, gE, cE, gC, cC⟩ ⟨2, ne, fun _ => 0, fun k => (k : Int) + 1, ckV, fun k => (useL E k).length⟩ := by
      refine ⟨x2, ?_, fun k hk => ev4 k hk 0 (by decide) _ rfl, fun k hk => ev4 k hk 1 (by decide) _ rfl, fun k hk => ?_, fun k hk => ev4 k hk 3 (by decide) _ rfl, fun j hj => cCc j _ (ckL_get ne j hj), ?_, ?_, ⟨hne, show (2 : Nat) ≤ 3 by decide, show 1 ≤ 2 by decide⟩, fun k hk => show 0 < 2 by decide⟩
      · rw [x3]; show some (Value.slice _ (ckL ne).length _) = _; rw [ckL_len, Nat.mul_comm]
      · have := ev4 k hk 2 (by decide) _ rfl
        rw [this, ckL_len, Nat.mul_comm]
      · have : (ckL ne).length ≤ cC := kC
        rw [ckL_len] at this; show ne * 2 ≤ cC; omega
      · unfold maxLen at mC; show cC ≤ 9223372036854775807; omega
    exact ⟨rfl, hne, hnu, ⟨_, _, x2⟩, fun _ => hEv, fun _ => ⟨x4, x5, fun h0 => by
        have h0' : 0 < (useL E ne).length := h0
        obtain ⟨g, c, e1', e2, _⟩ := own_some (BI.own h 3 (by decide)) (show 0 < (useL E ne).length from h0')
        rw [vU] at e1'; injection e1' with e1'; rw [e2, e1']; rfl, hus, hCU, hCG, fun k hk => cat_mono (L := useL E) (c := chunk E) (fun n => rfl) (k + 1) k (by omega), fun k hk => cat_mono (L := useL E) (c := chunk E) (fun n => rfl) ne k hk, by show (useL E ne).length ≤ 2048; omega⟩,
      fun _ => ⟨x1, x7, fun k hk => n8 k hk 5 (by decide) _ rfl, fun k hk => rnL_step E k, fun k hk => cRc _ _ (rnL_get0 E ne k hk), fun k hk hr => cRc _ _ (rnL_get1 E ne k hk hr), fun k hk => cat_mono (L := rnL E) (fun n => rfl) ne k hk, kR, by show (rnL E ne).length ≤ 1024; omega, hne⟩,
      fun k hk => rfl, fun k hk => rfl, fun k hk => by show ckV (k * 2) = _; unfold ckV; rw [if_pos (by omega), show k * 2 / 2 = k by omega], fun k hk => by show ckV (k * 2 + 1) = _; unfold ckV; rw [if_neg (by omega)], fun k hk => n8 k hk 0 (by decide) _ rfl, fun k hk => n8 k hk 7 (by decide) _ rfl, fun k hk => n8 k hk 8 (by decide) _ rfl, fun k hk => fpc _,
      h.pX.cell (o := 6) rfl, h.pX.cell (o := 9) rfl, h.pX.cell (o := 20) rfl, h.pX.cell (o := 21) rfl, h.pX.cell (o := 22) rfl, h.pX.cell (o := 23) rfl, h.pX.cell (o := 27) rfl, h.pX.fz, h.mp, hlist, hlic, hR.s0, hR.s1, hR.s2, hR.s3, hR.su', hR.r14, hR.r15, hR.l0, hR.l1, hR.rr1, ⟨Ne.symm h.d1.1, hR.dX⟩,
      ⟨show gE ≠ p.X by omega, show gC ≠ p.X by omega, show gp ≠ p.X by omega, show gR ≠ p.X by omega, hguX, Ne.symm (ap 0 5 (by decide) (by decide) (by decide) _ _ bp bR)⟩, ⟨ap 1 0 (by decide) (by decide) (by decide) _ _ bE bp, ap 2 0 (by decide) (by decide) (by decide) _ _ bC bp⟩, hdgo,
      fun o ho k hk => (usAt_range E ne k hk _).trans (chunk_writes E k o ho), fun k hk => (usAt_range E ne k hk _).trans (chunk_end E k)⟩
end Go.Proofs.Ybulkbxvu
