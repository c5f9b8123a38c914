/-
  Clock: from what build leaves to what races is given.
-/
import Derived.Test.YbulkbxvuB1
import Derived.Test.YbulkbxvuH3
import Derived.Test.YbulkbxvuT2
namespace Go.Proofs.Ybulkbxvu.Ck
open Go.RowKit
set_option linter.unusedVariables false

theorem evL_get (E : EvD) (N n k i : Nat) (hk : k < n) (hi : i < 4) : (evL E N n)[k * 4 + i]? = [Value.int .i32 (tt E N k : Int), .int .i32 (cnt E N (tt E N k) (k + 1) : Int), .int .i32 ((ckL E N k).length : Int), .int .i32 ((useL E k).length : Int)][i]? := by
  have := cat_get (L := evL E N) (c := fun k => [Value.int .i32 (tt E N k : Int), .int .i32 (cnt E N (tt E N k) (k + 1) : Int), .int .i32 ((ckL E N k).length : Int), .int .i32 ((useL E k).length : Int)]) (fun n => rfl) n k i hk hi
  rw [cat_len (L := evL E N) rfl (fun n => rfl) (s := 4) (fun n => rfl) k] at this
  exact this
theorem paL_get (E : EvD) (N n k i : Nat) (hk : k < n) (hi : i < 9) : (paL E N n)[k * 9 + i]? = [Value.int .i32 (tt E N k : Int), .int .i32 0, .int .i32 0, .int .i32 0, .int .i32 0, .int .i32 0, .bool false, .slice none 0 0, .pointer none][i]? := by
  have := cat_get (L := paL E N) (c := fun k => [Value.int .i32 (tt E N k : Int), .int .i32 0, .int .i32 0, .int .i32 0, .int .i32 0, .int .i32 0, .bool false, .slice none 0 0, .pointer none]) (fun n => rfl) n k i hk hi
  rw [cat_len (L := paL E N) rfl (fun n => rfl) (s := 9) (fun n => rfl) k] at this
  exact this
theorem ckC_get (E : EvD) (k : Nat) : ∀ (n i : Nat), i < n → (ckC E k n)[i]? = some (.int .i32 (E.ck i k))
  | 0, i, h => by omega
  | n + 1, i, h => by
    rw [ckC]
    by_cases e : i = n
    · subst e
      rw [List.getElem?_append_right (by rw [ckC_len]; exact Nat.le_refl _), ckC_len, Nat.sub_self]; rfl
    · rw [List.getElem?_append_left (by rw [ckC_len]; omega)]
      exact ckC_get E k n i (by omega)
/-- The clocks, one after the other. -/
def ckV (E : EvD) (N j : Nat) : Int := E.ck (j % N) (j / N)
theorem ckV_at (E : EvD) {N : Nat} (k t : Nat) (ht : t < N) : ckV E N (k * N + t) = E.ck t k := by
  unfold ckV
  rw [Nat.mul_comm, Nat.mul_add_mod, Nat.mod_eq_of_lt ht, Nat.mul_add_div (by omega), Nat.div_eq_of_lt ht, Nat.add_zero]
theorem ckL_get (E : EvD) (N n j : Nat) (hN : 1 ≤ N) (hj : j < n * N) : (ckL E N n)[j]? = some (.int .i32 (ckV E N j)) := by
  have hk : j / N < n := by rw [Nat.div_lt_iff_lt_mul hN]; exact hj
  have hi : j % N < N := Nat.mod_lt _ hN
  have := cat_get (L := ckL E N) (c := fun k => ckC E k N) (fun n => rfl) n (j / N) (j % N) hk (by rw [ckC_len]; exact hi)
  rw [ckL_len, ckC_get _ _ _ _ hi, show j / N * N + j % N = j by rw [Nat.mul_comm]; exact Nat.div_add_mod j N] at this
  exact this
/-- The law's data. -/
def DD (E : EvD) (N ne : Nat) : Dat := ⟨N, ne, tt E N, fun k => (cnt E N (tt E N k) (k + 1) : Int), ckV E N, fun k => (useL E k).length⟩

/-- What the law lays beside: the replay, the step. -/
structure RsIn (W : World) (X ne N RB S lb lc rb rc gs cs nu : Nat) (su : Nat → Nat) (st : Nat) (la : Nat → Int) (rv : Int) : Prop where
  s0 : W.cell? ⟨S, 0, none⟩ = some (.int .i64 (ne : Int))
  s1 : W.cell? ⟨S, 1, none⟩ = some (.int .i64 (st : Int))
  s2 : W.cell? ⟨S, 2, none⟩ = some (.slice (some ⟨gs, 0, none⟩) nu cs)
  s3 : W.cell? ⟨S, 3, none⟩ = some (.slice none 0 0)
  su' : UsR W gs 0 nu (fun j => dec (su j))
  r14 : W.cell? ⟨RB, 14, none⟩ = some (sl lb 0 N lc)
  r15 : W.cell? ⟨RB, 15, none⟩ = some (sl rb 0 N rc)
  l : ∀ t, t < N → W.cell? ⟨lb, t, none⟩ = some (.int .i32 (la t))
  r : W.cell? ⟨rb, st, none⟩ = some (.int .i32 rv)
  rr : -1 ≤ rv ∧ rv < (ne : Int)
  dX : RB ≠ X ∧ S ≠ X ∧ lb ≠ X ∧ rb ≠ X ∧ gs ≠ X

/-- All that races wants. -/
theorem BS.rcIn {W0 W : World} {p : Pc} {E : EvD} {N ne : Nat} {vv : Nat → Value} (h : BS W0 W p E N (Sk E N ne) ne ne ne ne vv vv (fun o => vv (6 + o))) (hN1 : 1 ≤ N) (hN3 : N ≤ 3) (hne : ne ≤ 512) {nu : Nat} (hnu : nu ≤ 512) {su : Nat → Nat} {RB S lb lc rb rc gs cs st : Nat} {rv : Int} (hst : st < N) (hR : RsIn W p.X ne N RB S lb lc rb rc gs cs nu su st (fun t => la E N t ne) rv) :
    ∃ pl u q, RcIn W pl u (DD E N ne) (usAt E ne) q (fun o => vv (6 + o)) E nu su st (fun t => la E N t ne) rv ∧ pl.X = p.X ∧ q.RB = RB ∧ q.S = S := by
  have hXb := h.hi.1
  have hXw : p.X < W.heap.size := by have := h.hb; omega
  have sh : ∀ i, i < 9 → ∃ ao cap, vv i = .slice ao (nS (Sk E N ne) i) cap := fun i hi => BI.shape h i hi
  have ge : ∀ i, i < 9 → ∀ b, (vv i).ownBlock = some b → p.base ≤ b := fun i hi b hb => ((BI.own h i hi).lt b hb).1
  obtain ⟨a1, cp1, e1⟩ := sh 1 (by decide)
  have x7 : ∃ v, W.cell? ⟨p.X, 7, none⟩ = some v ∧ Nil7 v := by
    refine ⟨_, h.pX.cell (o := 7) rfl, ?_⟩
    rcases (BI.own h 5 (by decide)).2 with ⟨e, _⟩ | ⟨g, cap, cur, hv, hb, hh, r1, r2, r3, r4⟩
    · exact .inl e
    · exact .inr ⟨g, cap, hv, by unfold maxLen at r2; omega⟩
  have hlist : ∀ o, o < 3 → ∃ ao c, vv (6 + o) = .slice ao (obL E o ne).length c ∧ (0 < (obL E o ne).length → ao = some ⟨((vv (6 + o)).ownBlock).getD (p.X + 1), 0, none⟩) := fun o ho => by
    have ho' := BS.ownO h o ho
    rcases Nat.eq_zero_or_pos (obL E o ne).length with h0 | h0
    · obtain ⟨ao, c, e⟩ := sh (6 + o) (by omega)
      rw [nS_6] at e
      exact ⟨ao, c, e, fun h => by omega⟩
    · obtain ⟨g, c, e, e2, _⟩ := own_some ho' h0
      exact ⟨_, c, e, fun _ => by rw [e2]; rfl⟩
  have hlic : ∀ o, o < 3 → ∀ j k : Nat, (obL E o ne)[j]? = some k → W.cell? ⟨((vv (6 + o)).ownBlock).getD (p.X + 1), j, none⟩ = some (.int .i32 (k : Int)) := fun o ho j k hj => by
    have h0 : 0 < (obL E o ne).length := by have := (List.getElem?_eq_some_iff.mp hj).1; omega
    obtain ⟨g, c, e, e2, _, _, _, hc, _⟩ := own_some (BS.ownO h o ho) h0
    rw [e2]
    refine hc j _ ?_
    show ((obL E o ne).map (fun k : Nat => Value.int .i32 (k : Int)))[j]? = _
    rw [List.getElem?_map, hj]; rfl
  have hdgo : ∀ o, o < 3 → ((vv (6 + o)).ownBlock).getD (p.X + 1) ≠ p.X := fun o ho e => by
    cases hb : (vv (6 + o)).ownBlock with
    | none => rw [hb] at e; simp at e
    | some b => rw [hb] at e; have := ge (6 + o) (by omega) b hb; simp at e; omega
  rcases Nat.eq_zero_or_pos ne with hn0 | hn0
  · have no : ∀ {k : Nat} {P : Prop}, k < (DD E N ne).ne → P := fun {k P} h => by
      have h' : k < ne := h
      omega
    refine ⟨⟨p.X, W.heap.size + p.X + 3, 0, W.heap.size + p.X + 4, 0⟩, ⟨none, 0, none, 0⟩, ⟨p.M, RB, S, lb, lc, rb, rc, gs, cs, fun o => ((vv (6 + o)).ownBlock).getD (p.X + 1), W.heap.size + p.X + 1, 0, W.heap.size + p.X + 5⟩, ?_, rfl, rfl, rfl⟩
    exact ⟨⟨hN1, hN3⟩, hst, hne, hnu, ⟨a1, cp1, by have := h.pX.cell (o := 2) rfl; rw [this, e1]; rfl⟩, fun h => no h, fun h => no h, fun h => no h, x7, fun k hk => no hk, fun k hk => no hk, fun k hk => no hk, fun k hk => no hk,
      h.pX.cell (o := 6) rfl, h.pX.cell (o := 9) rfl, h.pX.cell (o := 20) rfl, h.pX.cell (o := 21) rfl, h.pX.cell (o := 22) rfl, h.pX.cell (o := 23) rfl, h.pX.cell (o := 27) rfl, h.pX.fz, h.mp, hlist, hlic, hR.s0, hR.s1, hR.s2, hR.s3, hR.su', hR.r14, hR.r15, hR.l, hR.r, fun t _ => la_lt E N t ne, hR.rr, ⟨Ne.symm h.d1.1, hR.dX⟩, ⟨show W.heap.size + p.X + 3 ≠ p.X by omega, show W.heap.size + p.X + 4 ≠ p.X by omega, show W.heap.size + p.X + 1 ≠ p.X by omega, show W.heap.size + p.X + 5 ≠ p.X by omega⟩, hdgo,
      fun o ho k hk => no hk, fun k hk => no hk⟩
  · have hckpos : 0 < ne * N := Nat.mul_pos hn0 (by omega)
    obtain ⟨gp, cp, vp, bp, lp, _, _, cpc, fpc⟩ := own_some (BI.own h 0 (by decide)) (show 0 < nS (Sk E N ne) 0 from hn0)
    obtain ⟨gE, cE, vE, bE, lE, _, _, cEc, _⟩ := own_some (BI.own h 1 (by decide)) (show 0 < nS (Sk E N ne) 1 from hn0)
    obtain ⟨gC, cC, vC, bC, lC, kC, mC, cCc, _⟩ := own_some (BI.own h 2 (by decide)) (show 0 < (ckL E N ne).length by rw [ckL_len]; exact hckpos)
    obtain ⟨aU, cU, vU⟩ := sh 3 (by decide)
    obtain ⟨aG, cG, vG⟩ := sh 4 (by decide)
    have hCU : (useL E ne).length ≤ cU := by
      rcases (BI.own h 3 (by decide)).2 with ⟨_, h0⟩ | ⟨g, cap, cur, hv, _, _, r1, _⟩
      · have : (useL E ne).length = 0 := h0
        omega
      · rw [vU] at hv; injection hv with _ _ hv; rw [hv]; exact r1
    have hCG : (useL E ne).length ≤ cG := by
      rcases (BI.own h 4 (by decide)).2 with ⟨_, h0⟩ | ⟨g, cap, cur, hv, _, _, r1, _⟩
      · have : (useL E ne).length = 0 := h0
        omega
      · rw [vG] at hv; injection hv with _ _ hv; rw [hv]; exact r1
    have hus : UsR W ((vv 3).ownBlock.getD (p.X + 1)) 0 (useL E ne).length (usAt E ne) := fun j hj => by
      obtain ⟨g, c, _, e2, _, _, _, hc, _⟩ := own_some (BI.own h 3 (by decide)) (show 0 < (useL E ne).length by omega)
      have hu : (useL E ne)[j]? = some (usAt E ne j) := by unfold usAt; rw [List.getElem?_eq_getElem hj]; rfl
      have f : ∀ i, i < 4 → ∀ u, (usAt E ne j).cs[i]? = some u → W.cell? ⟨g, 0 + j * 4 + i, none⟩ = some u := fun i hi u hcu => by
        rw [Nat.zero_add]
        refine hc _ u ?_
        show ((useL E ne).flatMap Use4.cs)[j * 4 + i]? = _
        rw [flat_get _ j i _ hu hi]; exact hcu
      rw [e2]
      exact ⟨f 0 (by decide) _ rfl, f 1 (by decide) _ rfl, f 2 (by decide) _ rfl, f 3 (by decide) _ rfl⟩
    have hguX : (vv 3).ownBlock.getD (p.X + 1) ≠ p.X := fun e => by
      cases hb : (vv 3).ownBlock with
      | none => rw [hb] at e; simp at e
      | some b => rw [hb] at e; have := ge 3 (by decide) b hb; simp at e; omega
    have x1 := h.pX.cell (o := 1) rfl
    have x2 := h.pX.cell (o := 2) rfl
    have x3 := h.pX.cell (o := 3) rfl
    have x4 := h.pX.cell (o := 4) rfl
    have x5 := h.pX.cell (o := 5) rfl
    rw [vp] at x1; rw [vE] at x2; rw [vC] at x3; rw [vU] at x4; rw [vG] at x5
    have hul := useL_len E ne
    have n8 : ∀ k, k < ne → ∀ i, i < 9 → ∀ u, [Value.int .i32 (tt E N k : Int), .int .i32 0, .int .i32 0, .int .i32 0, .int .i32 0, .int .i32 0, .bool false, .slice none 0 0, .pointer none][i]? = some u → W.cell? ⟨gp, k * 9 + i, none⟩ = some u := fun k hk i hi u hu => cpc _ u (by show (paL E N ne)[k * 9 + i]? = _; rw [paL_get E N ne k i hk hi]; exact hu)
    have ev4 : ∀ k, k < ne → ∀ i, i < 4 → ∀ u, [Value.int .i32 (tt E N k : Int), .int .i32 (cnt E N (tt E N k) (k + 1) : Int), .int .i32 ((ckL E N k).length : Int), .int .i32 ((useL E k).length : Int)][i]? = some u → W.cell? ⟨gE, k * 4 + i, none⟩ = some u := fun k hk i hi u hu => cEc _ u (by show (evL E N ne)[k * 4 + i]? = _; rw [evL_get E N ne k i hk hi]; exact hu)
    refine ⟨⟨p.X, gE, cE, gC, cC⟩, ⟨aU, cU, aG, cG⟩, ⟨p.M, RB, S, lb, lc, rb, rc, gs, cs, fun o => ((vv (6 + o)).ownBlock).getD (p.X + 1), gp, cp, (vv 3).ownBlock.getD (p.X + 1)⟩, ?_, rfl, rfl, rfl⟩
    have hEv : EvR W ⟨p.X, gE, cE, gC, cC⟩ (DD E N ne) := by
      refine ⟨x2, ?_, fun k hk => ev4 k hk 0 (by decide) _ rfl, fun k hk => ev4 k hk 1 (by decide) _ rfl, fun k hk => ?_, fun k hk => ev4 k hk 3 (by decide) _ rfl, fun j hj => cCc j _ (ckL_get E N ne j hN1 hj), ?_, ?_, ⟨hne, hN3, hN1⟩, fun k hk => tt_lt E hN1 k⟩
      · rw [x3]; show some (Value.slice _ (ckL E N ne).length _) = _; rw [ckL_len]; rfl
      · have := ev4 k hk 2 (by decide) _ rfl
        rw [this, ckL_len]; rfl
      · have : (ckL E N ne).length ≤ cC := kC
        rw [ckL_len] at this; exact this
      · unfold maxLen at mC; show cC ≤ 9223372036854775807; omega
    exact ⟨⟨hN1, hN3⟩, hst, hne, hnu, ⟨_, _, x2⟩, fun _ => hEv, fun _ => ⟨x4, x5, fun h0 => by
        have h0' : 0 < (useL E ne).length := h0
        obtain ⟨g, c, e1', e2, _⟩ := own_some (BI.own h 3 (by decide)) (show 0 < (useL E ne).length from h0')
        rw [vU] at e1'; injection e1' with e1'; rw [e2, e1']; rfl, hus, hCU, hCG, fun k hk => cat_mono (L := useL E) (c := chunk E) (fun n => rfl) (k + 1) k (by omega), fun k hk => cat_mono (L := useL E) (c := chunk E) (fun n => rfl) ne k hk, by show (useL E ne).length ≤ 2048; omega⟩,
      fun _ => x1, x7, fun k hk => n8 k hk 0 (by decide) _ rfl, fun k hk => n8 k hk 5 (by decide) _ rfl, fun k hk => n8 k hk 7 (by decide) _ rfl, fun k hk => n8 k hk 8 (by decide) _ rfl,
      h.pX.cell (o := 6) rfl, h.pX.cell (o := 9) rfl, h.pX.cell (o := 20) rfl, h.pX.cell (o := 21) rfl, h.pX.cell (o := 22) rfl, h.pX.cell (o := 23) rfl, h.pX.cell (o := 27) rfl, h.pX.fz, h.mp, hlist, hlic, hR.s0, hR.s1, hR.s2, hR.s3, hR.su', hR.r14, hR.r15, hR.l, hR.r, fun t _ => la_lt E N t ne, hR.rr, ⟨Ne.symm h.d1.1, hR.dX⟩,
      ⟨show gE ≠ p.X by omega, show gC ≠ p.X by omega, show gp ≠ p.X by omega, hguX⟩, hdgo,
      fun o ho k hk => (usAt_range E ne k hk _).trans (chunk_writes E k o ho), fun k hk => (usAt_range E ne k hk _).trans (chunk_end E k)⟩
end Go.Proofs.Ybulkbxvu.Ck
