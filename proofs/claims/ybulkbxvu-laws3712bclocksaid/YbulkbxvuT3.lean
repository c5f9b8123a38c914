/-
  Clock: races.
-/
import Derived.Test.YbulkbxvuT2
import Derived.StillTailTactics
namespace Go.Proofs.Ybulkbxvu.Ck
open Go.RowKit
set_option linter.unusedVariables false

/-- What races leaves. -/
structure RcsOut (W W' : World) (X N bf : Nat) (fv : Nat → Int) : Prop where
  os : W'.os = W.os
  tape : W'.tape = W.tape
  output : W'.output = W.output
  size : W.heap.size ≤ W'.heap.size
  blk : ∀ k, k < W.heap.size → k ≠ X → W'.heap[k]? = W.heap[k]?
  x1 : W'.cell? ⟨X, 1, none⟩ = W.cell? ⟨X, 1, none⟩
  f : ∀ t, t < N → W'.cell? ⟨bf, t, none⟩ = some (.int .i32 (fv t))
/-- The events whose clocks count. -/
def AllP (st : Nat) (la : Nat → Int) (rv : Int) (P : Nat → Prop) (k : Nat) : Prop := (la st = (k : Int) ∨ rv = (k : Int)) ∨ P k
def RacesPost (W : World) (X N ne : Nat) (ck : Nat → Int) (P : Nat → Prop) (e : Ending) (W' : World) : Prop := ∃ bf cf fv, e = .returned (sl bf 0 N cf) ∧ (∀ t, t < N → MxC ne P (fun k => ck (k * N + t)) (fv t)) ∧ RcsOut W W' X N bf fv
/-- A cell in one of two. -/
theorem st_lt {n N : Nat} (h : n < N) : (n : Int) < (N : Int) := by omega
set_option maxHeartbeats 100000000 in
set_option maxRecDepth 100000 in
theorem races_any (W : World) (p : Pl) (u : Pu) (D : Dat) (U : Nat → Use4) (q : Pq) (li : Nat → Value) (E : EvD) (nu : Nat) (su : Nat → Nat) (st : Nat) (la : Nat → Int) (rv : Int) (h : RcIn W p u D U q li E nu su st la rv) :
    Calls Yba.prog 8 #[pt p.X, pt q.RB, pt q.S] W fun e W' => RacesPost W p.X D.N D.ne D.ck (AllP st la rv (FoundP E D.ne D.N st D.t la nu su)) e W' := by
  obtain ⟨X, ge, ce, gc, cc⟩ := p
  obtain ⟨N, ne, t, nth, ck, UU⟩ := D
  obtain ⟨M, RB, S, lb, lc, rb, rcp, gs, cs, gol, gp, cp, gu⟩ := q
  have HI : Hid (RcIn W ⟨X, ge, ce, gc, cc⟩ u ⟨N, ne, t, nth, ck, UU⟩ U ⟨M, RB, S, lb, lc, rb, rcp, gs, cs, gol, gp, cp, gu⟩ li E nu su st la rv) := h
  have hne := h.hne
  have hnu := h.hnu
  have hN1 := h.hN.1
  have hN3 := h.hN.2
  have hst := h.hst
  have hXl : X < W.heap.size := cell_lt h.x6
  have x9 := h.x9
  have x20 := h.x20
  have f20 := h.fz 20
  simp only at hne x9 x20 f20 hN1 hN3 hst
  show Calls Yba.prog 8 #[pt X, pt RB, pt S] W fun e W' => RacesPost W X N ne ck (AllP st la rv (FoundP E ne N st t la nu su)) e W'
  clear h
  have eN : IntKind.i64.wrap ((N : Int) - 1 + 1) = (N : Int) := by rw [IntKind.wrap_i64]; omega
  go_enter Yba.func8, Yba.ntmps8
  go_upto_region 3 with (go_at_call 11; refine Calls.mono (resize_nil W N (by omega) (by omega)) ?_; rintro e W1 ⟨mc, rfl, hc1, hR1, hb1, hl1⟩; have y20 := (hb1.cell hXl).trans x20; have g20 := (hb1.frozen hXl).trans f20)
  obtain ⟨V, hV⟩ : ∃ V, W1.setCell ⟨X, 20, none⟩ (sl W.heap.size 0 N mc) = V := ⟨_, rfl⟩
  have HV : Hid (RowG W1 W.heap.size 0 mc N (fun _ => 0) ∧ Below W.heap.size W W1 ∧ W.heap.size < W1.heap.size ∧ W1.setCell ⟨X, 20, none⟩ (sl W.heap.size 0 N mc) = V ∧ X < V.heap.size ∧ V.cell? ⟨X, 21, none⟩ = some (.slice none 0 0) ∧ V.frozen? ⟨X, 21, none⟩ = false) := by
    refine ⟨hR1, hb1, hl1, hV, ?_, ?_, ?_⟩
    · rw [← hV]; simp; omega
    · rw [← hV, World.cell?_setCell_other _ _ _ _ (by simp)]; exact (hb1.cell hXl).trans HI.out.x21
    · rw [← hV, World.frozen?_setCell]; exact (hb1.frozen hXl).trans (HI.out.fz 21)
  rw [hV]
  clear hV hR1 hb1 hl1 y20 g20 x20 f20 x9
  have x21 := HV.out.2.2.2.2.2.1
  have f21 := HV.out.2.2.2.2.2.2
  have hXV := HV.out.2.2.2.2.1
  go_upto_region 4 with (go_at_call 11; refine Calls.mono (resize_nil V N (by omega) (by omega)) ?_; rintro e W2 ⟨mf, rfl, hc2, hR2, hb2, hl2⟩; have y21 := (hb2.cell hXV).trans x21; have g21 := (hb2.frozen hXV).trans f21)
  have HR0 : Hid (RC W (W2.setCell ⟨X, 21, none⟩ (sl V.heap.size 0 N mf)) X W2.heap.size N W.heap.size mc V.heap.size mf (fun _ => 0) (fun _ => 0) (.slice none 0 0) 0 []) :=
    RC.start hXl HI.out.x20 HI.out.x21 HI.out.x23 HI.out.fz HV.out.1 HV.out.2.1 HV.out.2.2.1 HV.out.2.2.2.1 hR2 hb2 hl2
  obtain ⟨W3, hW3⟩ : ∃ W3, W2.setCell ⟨X, 21, none⟩ (sl V.heap.size 0 N mf) = W3 := ⟨_, rfl⟩
  obtain ⟨bc, hbc⟩ : ∃ bc, W.heap.size = bc := ⟨_, rfl⟩
  obtain ⟨bf, hbf⟩ : ∃ bf, V.heap.size = bf := ⟨_, rfl⟩
  obtain ⟨base, hba⟩ : ∃ base, W2.heap.size = base := ⟨_, rfl⟩
  rw [hW3, hbc, hbf, hba] at HR0
  rw [hW3]
  try rw [hbf]
  try rw [hbc]
  have HR : Hid (RC W W3 X base N bc mc bf mf (fun _ => 0) (fun _ => 0) (.slice none 0 0) 0 []) := HR0.out
  clear HR0 hW3 hbc hbf hba hR2 hb2 hl2 y21 g21 HV x21 f21 hXV eN
  obtain ⟨dM, dRB, dS, dlb, drb, dgs⟩ := HI.out.dX
  simp only at dM dRB dS dlb drb dgs
  have r14 := HR.out.cell dRB HI.out.r14
  have r15 := HR.out.cell dRB HI.out.r15
  have s1 := HR.out.cell dS HI.out.s1
  obtain ⟨ls, hls⟩ : ∃ ls, la st = ls := ⟨_, rfl⟩
  have l1 := HR.out.cell dlb (HI.out.l st hst)
  rw [hls] at l1
  have HLS : Hid (la st = ls ∧ ls < (ne : Int) ∧ rv < (ne : Int)) := ⟨hls, by rw [← hls]; exact (HI.out.lr st hst).2, HI.out.rr.2⟩
  have q1 := HR.out.cell drb HI.out.r
  have hst' : (st : Int) < (N : Int) := by omega
  simp only at r14 r15 s1 l1 q1
  clear hls
  go_quiet (fail)
  have HR4 : Hid (RC W (W3.drewN nq) X base N bc mc bf mf (fun _ => 0) (fun _ => 0) (.slice none 0 0) 0 []) := HR.out.drewN nq
  obtain ⟨W4, hW4⟩ : ∃ W4 : World, W3.drewN nq = W4 := ⟨_, rfl⟩
  rw [hW4] at HR4 ⊢
  clear hW4 HR r14 r15 s1 l1 q1
  go_wp2
  go_loopg [69] 2 (fun g v wx => ∃ (i : Nat) (cv : Nat → Int), g + i = 2 ∧ v = .int .i64 (i : Int) ∧ Hid (RC W wx X base N bc mc bf mf cv (fun _ => 0) (.slice none 0 0) 0 [] ∧ ∀ tt, tt < N → MxC ne (fun k => (0 < i ∧ ls = (k : Int)) ∨ (1 < i ∧ rv = (k : Int))) (fun k => ck (k * N + tt)) (cv tt)))
  case atStart => exact ⟨0, _, rfl, rfl, HR4.out, fun tt _ => (MxC.none ne _).same (fun k _ => by simp)⟩
  case round =>
    clear HR4
    obtain ⟨i, cv, hgi, rfl, H4⟩ := hrel
    have hjoin : ∀ (kk : Nat) (P' : Nat → Prop) (hk : kk < ne), (∀ x, x < ne → (P' x ↔ (x = kk ∨ ((0 < i ∧ ls = (x : Int)) ∨ (1 < i ∧ rv = (x : Int)))))) → Calls Yba.prog 12 #[pt X, sl bc 0 N mc, .int .i64 (kk : Int)] wr fun e W' => e = .returned (.tuple #[]) ∧ ∃ cv', RC W W' X base N bc mc bf mf cv' (fun _ => 0) (.slice none 0 0) 0 [] ∧ ∀ tt, tt < N → MxC ne P' (fun k => ck (k * N + tt)) (cv' tt) := fun kk P' hk hP => by
      have h0 : 0 < ne := by omega
      have hp1 := H4.out.1.bcl.1
      have gel := cell_lt ((HI.out.ev h0).e0 kk hk)
      have gcl := cell_lt ((HI.out.ev h0).cl 0 (by show 0 < ne * N; exact Nat.mul_pos h0 (by omega)))
      simp only at gel gcl
      refine (join_any wr ⟨X, ge, ce, gc, cc⟩ ⟨N, ne, t, nth, ck, UU⟩ ((HI.out.ev h0).rc H4.out.1 HI.out.dX2.1 HI.out.dX2.2.1) kk hk bc mc mc cv H4.out.1.rc (by show X ≠ bc; omega) (by show ge ≠ bc; omega) (by show gc ≠ bc; omega)).mono ?_
      rintro e W' ⟨rfl, hr1, hf1⟩
      exact ⟨rfl, _, H4.out.1.rowC hf1 hr1, fun tt ht => (H4.out.2 tt ht).add kk hk hP⟩
    have HJN : Hid _ := hjoin
    clear hjoin
    match i, hgi with
    | 0, _ =>
      have hix : (Instr.index 88 (.agg #[.int .i32 ls, .int .i32 rv]) (.int .i64 0)).run Yba.prog wr = .ok (.int .i32 ls) wr := by kernel_rfl
      by_cases h0 : 0 ≤ ls
      · obtain ⟨kk, hkk⟩ : ∃ kk : Nat, ls = (kk : Int) := ⟨ls.toNat, by omega⟩
        have hkn : kk < ne := by have := HLS.out.2.1; omega
        have HJ : Hid _ := HJN.out kk (fun k => (0 < 1 ∧ ls = (k : Int)) ∨ (1 < 1 ∧ rv = (k : Int))) hkn (fun x _ => by
          constructor
          · rintro (⟨_, h⟩ | ⟨h, _⟩)
            · exact .inl (by omega)
            · omega
          · rintro (h | ⟨h, _⟩ | ⟨h, _⟩)
            · exact .inl ⟨by omega, by omega⟩
            · omega
            · omega)
        have x20 := H4.out.1.x20
        have hwk : IntKind.i64.wrap ls = (kk : Int) := by rw [IntKind.wrap_i64]; omega
        clear hkk HJN
        go_wp2_with (go_at_call 12; refine Calls.mono HJ.out ?_; rintro e Wg ⟨rfl, cv', hr1, hm1⟩)
        go_roundg 1
        case measure => omega
        case rel => exact ⟨1, cv', rfl, by go_num, hr1, hm1⟩
      · clear HJN
        go_wp2
        go_roundg 1
        case measure => omega
        case rel => exact ⟨1, cv, rfl, by go_num, H4.out.1, fun tt ht => (H4.out.2 tt ht).same (fun k _ => by
          constructor
          · rintro (⟨_, h⟩ | ⟨h, _⟩) <;> omega
          · rintro (⟨h, _⟩ | ⟨h, _⟩) <;> omega)⟩
    | 1, _ =>
      have hix : (Instr.index 88 (.agg #[.int .i32 ls, .int .i32 rv]) (.int .i64 1)).run Yba.prog wr = .ok (.int .i32 rv) wr := by kernel_rfl
      by_cases h0 : 0 ≤ rv
      · obtain ⟨kk, hkk⟩ : ∃ kk : Nat, rv = (kk : Int) := ⟨rv.toNat, by omega⟩
        have hkn : kk < ne := by have := HLS.out.2.2; omega
        have HJ : Hid _ := HJN.out kk (fun k => (0 < 2 ∧ ls = (k : Int)) ∨ (1 < 2 ∧ rv = (k : Int))) hkn (fun x _ => by
          constructor
          · rintro (⟨_, h⟩ | ⟨_, h⟩)
            · exact .inr (.inl ⟨by omega, h⟩)
            · exact .inl (by omega)
          · rintro (h | ⟨_, h⟩ | ⟨h, _⟩)
            · exact .inr ⟨by omega, by omega⟩
            · exact .inl ⟨by omega, h⟩
            · omega)
        have x20 := H4.out.1.x20
        have hwk : IntKind.i64.wrap rv = (kk : Int) := by rw [IntKind.wrap_i64]; omega
        clear hkk HJN
        go_wp2_with (go_at_call 12; refine Calls.mono HJ.out ?_; rintro e Wg ⟨rfl, cv', hr1, hm1⟩)
        go_roundg 0
        case measure => omega
        case rel => exact ⟨2, cv', rfl, by go_num, hr1, hm1⟩
      · clear HJN
        go_wp2
        go_roundg 0
        case measure => omega
        case rel => exact ⟨2, cv, rfl, by go_num, H4.out.1, fun tt ht => (H4.out.2 tt ht).same (fun k _ => by
          constructor
          · rintro (⟨_, h⟩ | ⟨_, h⟩)
            · exact .inl ⟨by omega, h⟩
            · omega
          · rintro (⟨_, h⟩ | ⟨h, _⟩)
            · exact .inl ⟨by omega, h⟩
            · omega)⟩
    | 2, _ =>
      have HCV : Hid (∀ tt, tt < N → MxC ne (fun k => la st = (k : Int) ∨ rv = (k : Int)) (fun k => ck (k * N + tt)) (cv tt)) := fun tt ht => (H4.out.2 tt ht).same (fun k _ => by
          rw [HLS.out.1]
          constructor
          · rintro (h | h)
            · exact .inl ⟨by omega, h⟩
            · exact .inr ⟨by omega, h⟩
          · rintro (⟨_, h⟩ | ⟨_, h⟩)
            · exact .inl h
            · exact .inr h)
      have HR4 : Hid (RC W wr X base N bc mc bf mf cv (fun _ => 0) (.slice none 0 0) 0 []) := H4.out.1
      clear H4 HJN
      go_upto_region 10 with fail
      have x20 := HR4.out.x20
      have x21 := HR4.out.x21
      go_still_tail 8, Yba.mixed
      refine wp_copyG _ rfl _ _ rfl bf mf bc N mf mc (fun _ => 0) cv rfl rfl (HR4.out.drewN 1).rf (fun t ht => by have := HR4.out.rc.cells.1 t ht; rw [Nat.zero_add] at this; exact this) ?_
      intro W5 hr5 hf5
      have HR5 : Hid (RC W W5 X base N bc mc bf mf cv cv (.slice none 0 0) 0 []) := (HR4.out.drewN 1).rowF hf5 hr5
      clear hr5 hf5 x20 x21 HR4
      have x23 := HR5.out.x23
      have f23 := HR5.out.fz 23
      have s2 := HR5.out.cell dS HI.out.s2
      simp only at s2
      have hSX : S ≠ X := dS
      have hXS : X ≠ S := Ne.symm dS
      go_wp2
      have HR6 : Hid (RC W (W5.setCell ⟨X, 23, none⟩ (.slice none 0 0)) X base N bc mc bf mf cv cv (.slice none 0 0) ([] : List Nat).length (intsN [])) := HR5.out.row ⟨rfl, rfl, rfl, Nat.le_refl _, fun _ _ _ => rfl⟩ ⟨rfl, .inl ⟨rfl, rfl⟩⟩ HR5.out.x23
      clear HR5 x23 f23 s2
      go_loopg [105] nu (fun g v wx => ∃ (j : Nat) (F : Value) (fl : List Nat), g + j = nu ∧ v = .int .i64 (j : Int) ∧ Hid (RC W wx X base N bc mc bf mf cv cv F fl.length (intsN fl) ∧ FLs F fl ne (j * 514) (fun x => ∃ i, i < j ∧ HitB E ne N st la (su i) x)))
      case atStart => exact ⟨0, _, _, by omega, rfl, HR6.out, ⟨fun x _ => by simp, fun x hx => by simp at hx, by simp, fun _ => rfl⟩⟩
      case round =>
        clear HR6
        obtain ⟨j, F, fl, hgj, rfl, H⟩ := hrel
        by_cases hj : (j : Int) < (nu : Int)
        · have hfl : fl.length ≤ 1000000 := by have := H.out.2.len; omega
          obtain ⟨c0, c1, c2, c3⟩ := (HI.out.su'.rc H.out.1 dgs) j (by omega)
          simp only [Nat.zero_add] at c0 c1 c2 c3
          obtain ⟨sel, hsel⟩ : ∃ sel, su j % 7 = sel := ⟨_, rfl⟩
          have hs7 : sel < 7 := by omega
          by_cases h6 : sel = 6
          · as_aux_lemma =>
            have HD : Hid (dec (su j) = ⟨7, 0, 0, true⟩) := by show _ = _; unfold dec; rw [if_pos (by omega)]
            have HB6 : Hid (∀ x, HitB E ne N st la (su j) x ↔ ∃ t, t < N ∧ t ≠ st ∧ la t = (x : Int)) := fun x => by unfold HitB; rw [if_pos (by omega)]
            rw [HD.out] at c0 c1 c2 c3
            simp only at c0 c1 c2 c3
            have r14 := H.out.1.cell dRB HI.out.r14
            simp only at r14
            have rl := cell_lt r14
            clear hsel hs7 h6 HD
            go_wp2
            have H3 : Hid (RC W (wr.alloc (.cells #[.int .u8 7, .int .u32 0, .int .u32 0, .bool true] 72)) X base N bc mc bf mf cv cv F fl.length (intsN fl)) := H.out.1.alloc _
            clear c0 c1 c2 c3 r14 rl
            go_loopg [118] N (fun g v wx => ∃ (t : Nat) (F : Value) (fl : List Nat), g + t = N ∧ v = .int .i64 (t : Int) ∧ Hid (RC W wx X base N bc mc bf mf cv cv F fl.length (intsN fl) ∧ FLs F fl ne (j * 514 + t) (fun x => (∃ i, i < j ∧ HitB E ne N st la (su i) x) ∨ ∃ t', t' < t ∧ t' ≠ st ∧ la t' = (x : Int))))
            case atStart => exact ⟨0, F, fl, by omega, rfl, H3.out, H.out.2.same (fun x _ => by simp) (by omega)⟩
            case round =>
              clear H3 H hfl
              obtain ⟨tt, F2, fl2, hgt, rfl, H4⟩ := hrel
              have hfl : fl2.length ≤ 1000000 := by have := H4.out.2.len; omega
              by_cases htt : (tt : Int) < (N : Int)
              · obtain ⟨lt, hlt⟩ : ∃ lt, la tt = lt := ⟨_, rfl⟩
                have l0 := H4.out.1.cell dlb (HI.out.l tt (by show tt < N; omega))
                have hlr := (HI.out.lr tt (by show tt < N; omega)).2
                rw [hlt] at l0 hlr
                have s1 := H4.out.1.cell dS HI.out.s1
                simp only at l0 s1 hlr
                have HLT : Hid (la tt = lt) := hlt
                clear hlt
                by_cases hts : tt = st
                · have hts' : ((tt : Int) == (st : Int)) = true := by rw [beq_iff_eq]; omega
                  have hts2 : ((tt : Int) != (st : Int)) = false := by rw [bne_eq_false_iff_eq]; omega
                  have HTS : Hid (tt = st) := hts
                  clear hts
                  go_wp2
                  go_roundg (N - (tt + 1))
                  case measure => omega
                  case rel =>
                    refine ⟨tt + 1, F2, fl2, by omega, by go_num, H4.out.1, H4.out.2.same (fun x _ => ?_) (by omega)⟩
                    constructor
                    · rintro (h | ⟨t', h1, h2, h3⟩)
                      · exact .inl h
                      · exact .inr ⟨t', by have := HTS.out; omega, h2, h3⟩
                    · rintro (h | ⟨t', h1, h2, h3⟩)
                      · exact .inl h
                      · exact .inr ⟨t', by omega, h2, h3⟩
                · have hts' : ((tt : Int) == (st : Int)) = false := by rw [beq_eq_false_iff_ne]; omega
                  have hts2 : ((tt : Int) != (st : Int)) = true := by rw [bne_iff_ne]; omega
                  have HTS : Hid (tt ≠ st) := hts
                  clear hts
                  by_cases hl0 : 0 ≤ lt
                  · obtain ⟨Ln, hLn⟩ : ∃ Ln : Nat, lt = (Ln : Int) := ⟨lt.toNat, by omega⟩
                    subst hLn
                    have x23 := H4.out.1.x23
                    go_wp2_with (at_builtin; refine wp_app28 _ rfl _ _ rfl base F2 fl2.length (intsN fl2) rfl (H4.out.1.alloc _).own ((Ln : Int)) _ _ rfl (heap_alloc_new _ _) hfl (H4.out.1.alloc _).hb ?_; intro g0 cap0 W70 hown0 hgr0 hat0 hlt0; obtain ⟨z10, z20⟩ := (H4.out.1.alloc _).at23 hgr0)
                    go_roundg (N - (tt + 1))
                    case measure => omega
                    case rel =>
                      refine ⟨tt + 1, .slice (some ⟨g0, 0, none⟩) (fl2.length + 1) cap0, fl2 ++ [Ln], by omega, by go_num, ?_, H4.out.2.push (k := Ln) (by omega) (fun x _ => ?_) (by omega)⟩
                      · exact (H4.out.1.alloc _).push hgr0 hown0 z10
                      · constructor
                        · rintro (h | ⟨t', h1, h2, h3⟩)
                          · exact .inr (.inl h)
                          · by_cases e : t' = tt
                            · subst e; rw [HLT.out] at h3; exact .inl (by omega)
                            · exact .inr (.inr ⟨t', by omega, h2, h3⟩)
                        · rintro (h | h | ⟨t', h1, h2, h3⟩)
                          · exact .inr ⟨tt, by omega, HTS.out, by rw [HLT.out, h]⟩
                          · exact .inl h
                          · exact .inr ⟨t', by omega, h2, h3⟩
                  · go_wp2
                    go_roundg (N - (tt + 1))
                    case measure => omega
                    case rel =>
                      refine ⟨tt + 1, F2, fl2, by omega, by go_num, H4.out.1, H4.out.2.same (fun x _ => ?_) (by omega)⟩
                      constructor
                      · rintro (h | ⟨t', h1, h2, h3⟩)
                        · exact .inl h
                        · by_cases e : t' = tt
                          · subst e; rw [HLT.out] at h3; omega
                          · exact .inr ⟨t', by omega, h2, h3⟩
                      · rintro (h | ⟨t', h1, h2, h3⟩)
                        · exact .inl h
                        · exact .inr ⟨t', by omega, h2, h3⟩
              · have HTN : Hid (tt = N) := by show _ = _; omega
                go_wp2
                go_roundg (nu - (j + 1))
                case measure => omega
                case rel =>
                  refine ⟨j + 1, F2, fl2, by omega, by go_num, H4.out.1, H4.out.2.same (fun x _ => ?_) (by omega)⟩
                  rw [HTN.out]
                  constructor
                  · rintro ⟨i, h1, h2⟩
                    by_cases e : i = j
                    · subst e; exact .inr ((HB6.out x).mp h2)
                    · exact .inl ⟨i, by omega, h2⟩
                  · rintro (⟨i, h1, h2⟩ | h)
                    · exact ⟨i, by omega, h2⟩
                    · exact ⟨j, by omega, (HB6.out x).mpr h⟩
          · as_aux_lemma =>
            obtain ⟨o, ho⟩ : ∃ o, sel / 2 = o := ⟨_, rfl⟩
            have ho3 : o < 3 := by omega
            obtain ⟨wv, hwv⟩ : ∃ wv, (sel % 2 == 1) = wv := ⟨_, rfl⟩
            have HD : Hid (dec (su j) = ⟨objK o, objI o, 0, wv⟩) := by show _ = _; unfold dec; rw [hsel, if_neg h6, ho, hwv]
            have HB6 : Hid (∀ x, HitB E ne N st la (su j) x ↔ HitO (fun k => E.ce o k % 3) ne wv x) := fun x => by unfold HitB; rw [hsel, if_neg h6, ho, hwv]
            obtain ⟨ok, hok⟩ : ∃ ok, objK o = ok := ⟨_, rfl⟩
            obtain ⟨oi, hoi⟩ : ∃ oi, objI o = oi := ⟨_, rfl⟩
            have HOK : Hid (objK o = ok ∧ objI o = oi) := ⟨hok, hoi⟩
            rw [HD.out, hok, hoi] at c0 c1 c2 c3
            simp only at c0 c1 c2 c3
            have ok7 : (ok == 7) = false := by
              rw [← hok, beq_eq_false_iff_ne]; unfold objK; split <;> decide
            clear hsel hs7 h6 HD ho hwv hok hoi
            go_upto_region 22 with fail
            obtain ⟨W6, hW6⟩ : ∃ W6, wr.alloc (.cells #[.int .u8 ok, .int .u32 oi, .int .u32 0, .bool wv] 72) = W6 := ⟨_, rfl⟩
            obtain ⟨UB, hUB⟩ : ∃ UB, wr.heap.size = UB := ⟨_, rfl⟩
            have HR7 : Hid (RC W W6 X base N bc mc bf mf cv cv F fl.length (intsN fl) ∧ UBx W6 F base UB (fun o => #[.int .u8 ok, .int .u32 oi, .int .u32 0, .bool wv][o]?)) := by
              rw [← hW6, ← hUB]
              exact ⟨H.out.1.alloc _, UBx.new wr (fun b hb => (H.out.1.far hb).2.1) H.out.1.hb _⟩
            rw [hW6, hUB]
            clear hW6 hUB c0 c1 c2 c3
            have x6 := HR7.out.1.xcell (by decide) (by decide) (by decide) HI.out.x6
            simp only at x6
            have u0 := HR7.out.2.row.cell (o := 0) rfl
            have u1 := HR7.out.2.row.cell (o := 1) rfl
            have u2 := HR7.out.2.row.cell (o := 2) rfl
            obtain ⟨ao, lcap, hli, hao⟩ := HI.out.lis o ho3
            have hlk : (Instr.lookup 58 (.map (some M)) (.agg #[.int .u8 ok, .int .u32 oi, .int .u32 0]) false).run Yba.prog W6.drew = .ok (.slice ao (obL E o ne).length lcap) W6.drew := by
              have := (HI.out.mp.rc (HR7.out.1.drewN 1) dM).look o ho3
              dsimp only [okey] at this
              rw [HOK.out.1, HOK.out.2, hli] at this
              exact this
            obtain ⟨len, hlen⟩ : ∃ len, (obL E o ne).length = len := ⟨_, rfl⟩
            rw [hlen] at hlk hao
            have hlen2 : len ≤ 512 := by have := obL_len E o ne; omega
            have HLEN : Hid ((obL E o ne).length = len) := hlen
            clear hli hlen
            go_still Yba.mixed
            clear hlk x6 u0 u1 u2
            go_wp2
            have HR8 : Hid (RC W W6.drew X base N bc mc bf mf cv cv F fl.length (intsN fl) ∧ UBx W6.drew F base UB (fun o => #[.int .u8 ok, .int .u32 oi, .int .u32 0, .bool wv][o]?)) := ⟨HR7.out.1.drewN 1, HR7.out.2.keep ⟨rfl, rfl, rfl, Nat.le_refl _, fun _ _ => rfl⟩⟩
            go_loopg [15] len (fun g v wx => ∃ (qq : Nat) (F : Value) (fl : List Nat), g = qq ∧ qq ≤ len ∧ v = .int .i64 ((qq : Int) - 1) ∧ Hid (RC W wx X base N bc mc bf mf cv cv F fl.length (intsN fl) ∧ UBx wx F base UB (fun o => #[.int .u8 ok, .int .u32 oi, .int .u32 0, .bool wv][o]?) ∧ FLs F fl ne (j * 514 + (len - qq)) (L4P E ne (fun x => ∃ i, i < j ∧ HitB E ne N st la (su i) x) o wv qq) ∧ L4N E ne o qq))
            case atStart =>
              refine ⟨len, F, fl, rfl, Nat.le_refl _, rfl, HR8.out.1, HR8.out.2, H.out.2.same (fun x _ => ?_) (by omega), fun jj x h1 h2 => ?_⟩
              · constructor
                · rintro (h | ⟨⟨jj, h1, h2⟩, _⟩)
                  · exact h
                  · have := (List.getElem?_eq_some_iff.mp h2).1; have := HLEN.out; omega
                · intro h; exact .inl h
              · have := (List.getElem?_eq_some_iff.mp h2).1; have := HLEN.out; omega
            case round => as_aux_lemma =>
              clear HR8 H hfl HR7
              obtain ⟨qq, F2, fl2, hgq, hq, rfl, H4⟩ := hrel
              have HGQ : Hid (gk = qq) := hgq
              have hfl : fl2.length ≤ 1000000 := by have := H4.out.2.2.1.len; omega
              clear hgq
              cases qq with
              | zero =>
                go_wp2
                go_roundg (nu - (j + 1))
                case measure => omega
                case rel => exact ⟨j + 1, F2, fl2, by omega, by go_num, H4.out.1, H4.out.2.2.1.same (fun x hx => (hitB_succ HB6.out x).trans (L4P.zero (E := E) (o := o) (wv := wv) (Pj := (fun x => ∃ i, i < j ∧ HitB E ne N st la (su i) x)) x hx)) (by omega)⟩
              | succ q' =>
                have ek : ((q' + 1 : Nat) : Int) - 1 = (q' : Int) := by omega
                rw [ek]
                clear ek
                obtain ⟨k, hk⟩ : ∃ k, (obL E o ne)[q']? = some k := ⟨_, List.getElem?_eq_getElem (by have := HLEN.out; omega)⟩
                have hkne : k < ne := (obL_at hk).1
                have HK : Hid ((obL E o ne)[q']? = some k) := hk
                obtain rfl := hao (by omega)
                have lc := H4.out.1.cell (HI.out.dgo o ho3) (HI.out.lic o ho3 q' k hk)
                have HEV : Hid _ := (HI.out.ev (by show 0 < ne; omega)).rc H4.out.1 HI.out.dX2.1 HI.out.dX2.2.1
                have HUS : Hid _ := (HI.out.us (by show 0 < ne; omega)).rc H4.out.1 HI.out.dX2.2.2.2
                have x2 := HEV.out.x2
                have HWC : Hid _ := writes_any wr ⟨X, ge, ce, gc, cc⟩ u ⟨N, ne, t, nth, ck, UU⟩ gu U HEV.out HUS.out k hkne ok oi 0
                have u0 := H4.out.2.1.row.cell (o := 0) rfl
                have u1 := H4.out.2.1.row.cell (o := 1) rfl
                have u2 := H4.out.2.1.row.cell (o := 2) rfl
                simp only at lc x2 HWC
                have HWR : Hid _ := HI.out.wr o ho3 k hkne
                simp only at HWR
                rw [HOK.out.1, HOK.out.2] at HWR
                clear hk
                go_upto_region 29 with (go_at_call 13; refine Calls.mono HWC.out ?_; rintro e W8 ⟨r, rfl, hr, hb8⟩; have H8 : Hid ((r = true ↔ E.ce o k % 3 = 2) ∧ Below wr.heap.size wr W8) := ⟨hr.trans HWR.out, hb8⟩; clear hr hb8)
                clear HWC HEV HUS HWR lc x2 u0 u1 u2
                have H9 : Hid (RC W W8 X base N bc mc bf mf cv cv F2 fl2.length (intsN fl2) ∧ UBx W8 F2 base UB (fun o => #[.int .u8 ok, .int .u32 oi, .int .u32 0, .bool wv][o]?)) := ⟨H4.out.1.keep H8.out.2, H4.out.2.1.keep H8.out.2⟩
                have u3 := H9.out.2.row.cell (o := 3) rfl
                have x23 := H9.out.1.x23
                have hwk : IntKind.i32.wrap (k : Int) = (k : Int) := by rw [IntKind.wrap_i32]; omega
                cases r
                · cases wv
                  · go_wp2
                    go_roundg q'
                    case measure => have := HGQ.out; omega
                    case rel => exact ⟨q', F2, fl2, rfl, by omega, by go_num, H9.out.1, H9.out.2, H4.out.2.2.1.same (fun x _ => L4P.skip HK.out (fun h => nomatch (H8.out.1.mpr h)) x) (by omega), H4.out.2.2.2.nxt HK.out (fun h => nomatch (H8.out.1.mpr h))⟩
                  · go_wp2_with (at_builtin; refine wp_app28 _ rfl _ _ rfl base F2 fl2.length (intsN fl2) rfl (H9.out.1.alloc _).own ((k : Int)) _ _ rfl (heap_alloc_new _ _) hfl (H9.out.1.alloc _).hb ?_; intro g0 cap0 W70 hown0 hgr0 hat0 hlt0; obtain ⟨z10, z20⟩ := (H9.out.1.alloc _).at23 hgr0)
                    go_roundg q'
                    case measure => have := HGQ.out; omega
                    case rel => exact ⟨q', .slice (some ⟨g0, 0, none⟩) (fl2.length + 1) cap0, fl2 ++ [k], rfl, by omega, by go_num, (H9.out.1.alloc _).push hgr0 hown0 z10, (H9.out.2.keep ((Below.refl _ _).alloc (Nat.le_refl _) _)).app hgr0 hat0 (by have := H9.out.1.bcl; have := H9.out.1.xl; omega) _, H4.out.2.2.1.push hkne (fun x _ => L4P.push HK.out H4.out.2.2.2 (.inr rfl) x) (by omega), H4.out.2.2.2.nxt HK.out (fun h => nomatch (H8.out.1.mpr h))⟩
                · as_aux_lemma =>
                  have hX2 : X < base := by have := H9.out.1.bcl; have := H9.out.1.xl; omega
                  have HFIN : Hid (∀ b', j * 514 + (len - (q' + 1)) + 1 ≤ b' → ∀ F', FLs F' (fl2 ++ [k]) ne b' (fun x => ∃ i, i < j + 1 ∧ HitB E ne N st la (su i) x)) := fun b' hb' F' => H4.out.2.2.1.push hkne (fun x hx => (hitB_succ HB6.out x).trans (L4P.brk (wv := wv) (Pj := (fun x => ∃ i, i < j ∧ HitB E ne N st la (su i) x)) HK.out H4.out.2.2.2 (H8.out.1.mp rfl) x hx)) hb'
                  cases wv
                  all_goals
                    go_upto_region 32 with (at_builtin; refine wp_app28 _ rfl _ _ rfl base F2 fl2.length (intsN fl2) rfl (H9.out.1.alloc _).own ((k : Int)) _ _ rfl (heap_alloc_new _ _) hfl (H9.out.1.alloc _).hb ?_; intro g0 cap0 W70 hown0 hgr0 hat0 hlt0; obtain ⟨z10, z20⟩ := (H9.out.1.alloc _).at23 hgr0)
                    have H10 : Hid (RC W (W70.setCell ⟨X, 23, none⟩ (.slice (some ⟨g0, 0, none⟩) (fl2.length + 1) cap0)) X base N bc mc bf mf cv cv (.slice (some ⟨g0, 0, none⟩) (fl2.length + 1) cap0) (fl2 ++ [k]).length (intsN (fl2 ++ [k])) ∧ UBx (W70.setCell ⟨X, 23, none⟩ (.slice (some ⟨g0, 0, none⟩) (fl2.length + 1) cap0)) (.slice (some ⟨g0, 0, none⟩) (fl2.length + 1) cap0) base UB _) := ⟨(H9.out.1.alloc _).push hgr0 hown0 z10, (H9.out.2.keep ((Below.refl _ _).alloc (Nat.le_refl _) _)).app hgr0 hat0 hX2 _⟩
                    obtain ⟨Wz, hWz⟩ : ∃ Wz, W70.setCell ⟨X, 23, none⟩ (.slice (some ⟨g0, 0, none⟩) (fl2.length + 1) cap0) = Wz := ⟨_, rfl⟩
                    rw [hWz] at H10 ⊢
                    clear hWz hgr0 hown0 z10 z20 hat0 hlt0 u3 x23 H9 H8
                    have u0 := H10.out.2.row.cell (o := 0) rfl
                    have u1 := H10.out.2.row.cell (o := 1) rfl
                    have u2 := H10.out.2.row.cell (o := 2) rfl
                    by_cases ho2 : o = 2
                    · obtain rfl : ok = 3 := by have := HOK.out.1; rw [ho2] at this; exact this.symm
                      have e0 := ((HI.out.ev (by show 0 < ne; omega)).rc H10.out.1 HI.out.dX2.1 HI.out.dX2.2.1).e0 k hkne
                      have htk := HI.out.ev (by show 0 < ne; omega) |>.tN k hkne
                      obtain ⟨tk, htk2⟩ : ∃ tk, t k = tk := ⟨_, rfl⟩
                      try simp only at e0
                      try simp only at htk
                      rw [htk2] at e0 htk
                      clear htk2
                      have hwt : IntKind.i64.wrap (tk : Int) = (tk : Int) := by rw [IntKind.wrap_i64]; omega
                      have s1 := H10.out.1.cell dS HI.out.s1
                      have s3 := H10.out.1.cell dS HI.out.s3
                      try simp only at s1
                      try simp only at s3
                      have HWF : Hid _ := waitsFor_any Wz.drew X S k 0 none 3 oi 0 s3
                      by_cases hts : tk = st
                      · have hts' : ((tk : Int) == (st : Int)) = true := by rw [beq_iff_eq]; omega
                        go_quiet (fail)
                        go_wp2
                        go_roundg (nu - (j + 1))
                        case measure => omega
                        case rel => exact ⟨j + 1, _, fl2 ++ [k], by omega, by go_num, H10.out.1.drewN _, HFIN.out _ (by omega) _⟩
                      · have hts' : ((tk : Int) == (st : Int)) = false := by rw [beq_eq_false_iff_ne]; omega
                        go_still_tail 22, Yba.mixed
                        go_wp2_with (go_at_call 14; refine Calls.mono HWF.out ?_; rintro e W9 ⟨rfl, hb9⟩)
                        go_roundg (nu - (j + 1))
                        case measure => omega
                        case rel => exact ⟨j + 1, _, fl2 ++ [k], by omega, by go_num, (H10.out.1.drewN 1).keep hb9, HFIN.out _ (by omega) _⟩
                    · obtain rfl : ok = 1 := by have := HOK.out.1; unfold objK at this; rw [if_neg ho2] at this; exact this.symm
                      go_quiet (fail)
                      go_wp2
                      go_roundg (nu - (j + 1))
                      case measure => omega
                      case rel => exact ⟨j + 1, _, fl2 ++ [k], by omega, by go_num, H10.out.1.drewN _, HFIN.out _ (by omega) _⟩
        · as_aux_lemma =>
          have hjn : j = nu := by omega
          subst hjn
          have HFD : Hid (RC W wr X base N bc mc bf mf cv cv F fl.length (intsN fl) ∧ FLs F fl ne (j * 514) (fun x => ∃ i, i < j ∧ HitB E ne N st la (su i) x)) := H.out
          have hfl : fl.length ≤ 1000000 := by have := H.out.2.len; omega
          clear H
          go_upto_region 34 with fail
          obtain ⟨ao2, cap2, x2'⟩ := HI.out.x2
          have x2 := HFD.out.1.xcell (by decide) (by decide) (by decide) x2'
          have s0 := HFD.out.1.cell dS HI.out.s0
          simp only at x2 s0
          go_quiet (fail)
          have HR9 : Hid (RC W (wr.drewN nq) X base N bc mc bf mf cv cv F fl.length (intsN fl)) := HFD.out.1.drewN nq
          obtain ⟨W9, hW9⟩ : ∃ W9 : World, wr.drewN nq = W9 := ⟨_, rfl⟩
          rw [hW9] at HR9 ⊢
          clear hW9 x2 x2' s0
          go_upto_if 236 with fail
          go_cut [] (fun wx => ∃ (F : Value) (fl : List Nat), Hid (RC W wx X base N bc mc bf mf cv cv F fl.length (intsN fl) ∧ FLs F fl ne 300000 (FoundP E ne N st t la j su)))
          case first => as_aux_lemma =>
            rcases Nat.eq_zero_or_pos ne with hn0 | hn0
            · have hn0' : ¬ (0 : Int) < (ne : Int) := by omega
              go_wp2
              go_meet
              case rel => exact ⟨F, fl, HR9.out, HFD.out.2.same (fun x hx => by omega) (by omega)⟩
            · have hn0' : (0 : Int) < (ne : Int) := by omega
              obtain ⟨Ln, hLn⟩ : ∃ Ln : Nat, ne = Ln + 1 := ⟨ne - 1, by omega⟩
              have e1 : (ne : Int) - 1 = (Ln : Int) := by omega
              have hLl : Ln < ne := by omega
              have HLn : Hid (ne = Ln + 1) := hLn
              have s0 := HR9.out.cell dS HI.out.s0
              have HEV : Hid _ := (HI.out.ev hn0).rc HR9.out HI.out.dX2.1 HI.out.dX2.2.1
              have HUS : Hid _ := (HI.out.us hn0).rc HR9.out HI.out.dX2.2.2.2
              have HUO : Hid _ := usesOf_any W9 ⟨X, ge, ce, gc, cc⟩ u ⟨N, ne, t, nth, ck, UU⟩ gu U HEV.out HUS.out Ln hLl
              have HEN : Hid _ := HI.out.en Ln hLl
              simp only at s0 HUO HEN
              clear hLn
              go_upto_region 37 with (go_at_call 15; refine Calls.mono HUO.out ?_; rintro e W8 ⟨ao, c, v, rfl, hao, mm, rfl⟩)
              clear HUO s0
              obtain ⟨Wb, hWb⟩ : ∃ Wb : World, W9.drewN mm = Wb := ⟨_, rfl⟩
              have HB : Hid (RC W Wb X base N bc mc bf mf cv cv F fl.length (intsN fl) ∧ EvR Wb ⟨X, ge, ce, gc, cc⟩ ⟨N, ne, t, nth, ck, UU⟩ ∧ UseR Wb ⟨X, ge, ce, gc, cc⟩ u ⟨N, ne, t, nth, ck, UU⟩ gu U) := by
                rw [← hWb]
                exact ⟨HR9.out.drewN mm, HEV.out.drewN mm, (HI.out.us hn0).rc (HR9.out.drewN mm) HI.out.dX2.2.2.2⟩
              rw [hWb]
              clear hWb HEV HUS
              have x2 := HB.out.2.1.x2
              have ee := HB.out.2.1.e0 Ln hLl
              have s1 := HB.out.1.cell dS HI.out.s1
              simp only at x2 ee s1
              obtain ⟨tL, htL⟩ : ∃ tL, t Ln = tL := ⟨_, rfl⟩
              have htL2 : tL < N := by rw [← htL]; exact HB.out.2.1.tN Ln hLl
              rw [htL] at ee
              have HTL : Hid (t Ln = tL) := htL
              clear htL
              have hwt : IntKind.i64.wrap (tL : Int) = (tL : Int) := by rw [IntKind.wrap_i64]; omega
              have hu1 := HB.out.2.2.tot (Ln + 1) (by show Ln + 1 ≤ ne; omega)
              have hu2 := HB.out.2.2.small
              simp only at hu1 hu2
              obtain ⟨nn, hnn⟩ : ∃ nn, UU (Ln + 1) - UU Ln = nn := ⟨_, rfl⟩
              rw [hnn] at hao ⊢
              have HCE : Hid _ := containsEnd_any Wb.drew ao gu (UU Ln * 4) nn c (fun jj => U (UU Ln + jj)) hao (by omega) (fun jj hjj => by
                have := HB.out.2.2.us (UU Ln + jj) (by show _ < UU ne; omega)
                rw [show 0 + (UU Ln + jj) * 4 = UU Ln * 4 + jj * 4 by omega] at this
                exact this)
              have HR : Hid (∀ r : Bool, (r = true ↔ ∃ jj, jj < nn ∧ (U (UU Ln + jj)).k = 7) → (r = true ↔ E.en Ln = true)) := by
                intro r hr
                rw [hr, ← HEN.out]
                constructor
                · rintro ⟨jj, h1, h2⟩; exact ⟨UU Ln + jj, by omega, by omega, h2⟩
                · rintro ⟨jj, h1, h2, h3⟩; exact ⟨jj - UU Ln, by omega, by rw [show UU Ln + (jj - UU Ln) = jj by omega]; exact h3⟩
              clear hao hnn hu1 hu2
              by_cases hts : tL = st
              · have hts2 : ((tL : Int) != (st : Int)) = false := by rw [bne_eq_false_iff_eq]; omega
                have HTS : Hid (tL = st) := hts
                clear hts
                go_quiet (fail)
                go_wp2
                go_meet
                case rel =>
                  refine ⟨F, fl, HB.out.1.drewN _, HFD.out.2.same (fun x hx => ?_) (by omega)⟩
                  constructor
                  · rintro (h | ⟨h1, h2, h3⟩)
                    · exact h
                    · obtain rfl : x = Ln := by have := HLn.out; omega
                      exact absurd (HTL.out.trans HTS.out) h3
                  · intro h; exact .inl h
              · have hts2 : ((tL : Int) != (st : Int)) = true := by rw [bne_iff_ne]; omega
                have HTS : Hid (tL ≠ st) := hts
                clear hts
                go_still_tail 16, Yba.mixed
                go_upto_if 265 with (go_at_call 16; refine Calls.mono HCE.out ?_; rintro e Wd ⟨r, rfl, hr, hbd⟩; have HRD : Hid ((r = true ↔ E.en Ln = true) ∧ RC W Wd X base N bc mc bf mf cv cv F fl.length (intsN fl)) := ⟨HR.out r hr, (HB.out.1.drewN 1).keep hbd⟩; clear hr hbd)
                clear x2 ee s1 HCE HB
                cases r
                · go_wp2
                  go_meet
                  case rel =>
                    refine ⟨F, fl, HRD.out.2, HFD.out.2.same (fun x hx => ?_) (by omega)⟩
                    constructor
                    · rintro (h | ⟨h1, h2, _⟩)
                      · exact h
                      · obtain rfl : x = Ln := by have := HLn.out; omega
                        exact nomatch (HRD.out.1.mpr h2)
                    · intro h; exact .inl h
                · have x23 := HRD.out.2.x23
                  have hwk : IntKind.i32.wrap (Ln : Int) = (Ln : Int) := by rw [IntKind.wrap_i32]; omega
                  go_wp2_with (at_builtin; refine wp_app28 _ rfl _ _ rfl base F fl.length (intsN fl) rfl (HRD.out.2.alloc _).own ((Ln : Int)) _ _ rfl (heap_alloc_new _ _) hfl (HRD.out.2.alloc _).hb ?_; intro g0 cap0 W70 hown0 hgr0 hat0 hlt0; obtain ⟨z10, z20⟩ := (HRD.out.2.alloc _).at23 hgr0)
                  go_meet
                  case rel =>
                    refine ⟨.slice (some ⟨g0, 0, none⟩) (fl.length + 1) cap0, fl ++ [Ln], (HRD.out.2.alloc _).push hgr0 hown0 z10, HFD.out.2.push hLl (fun x hx => ?_) (by omega)⟩
                    constructor
                    · rintro (h | ⟨h1, h2, _⟩)
                      · exact .inr h
                      · exact .inl (by have := HLn.out; omega)
                    · rintro (h | h)
                      · exact .inr ⟨by rw [h]; exact HLn.out.symm, by rw [h]; first | exact HRD.out.1.mp trivial | exact HRD.out.1.mp rfl, by rw [h, HTL.out]; exact HTS.out⟩
                      · exact .inl h
          case rest => 
            obtain ⟨F2, fl2, hcut⟩ := hcut
            have HS : Hid (RC W wc X base N bc mc bf mf cv cv F2 fl2.length (intsN fl2) ∧ FLs F2 fl2 ne 300000 (FoundP E ne N st t la j su)) := hcut.out
            clear hcut HR9 HFD hfl
            by_cases hnil : fl2 = []
            · as_aux_lemma =>
              obtain rfl := HS.out.2.nil hnil
              subst hnil
              have HS1 : Hid (RC W wc X base N bc mc bf mf cv cv (.slice none 0 0) 0 []) := HS.out.1
              have HNO : Hid (∀ x, x < ne → ¬ (FoundP E ne N st t la j su) x) := fun x hx h => by have := (HS.out.2.mem x hx).mpr h; simp at this
              have x23 := HS1.out.x23
              have f23 := HS1.out.fz 23
              clear HS
              go_wp2_with (first
                | (go_at_call 18; refine Calls.mono (sort_nil _) ?_; rintro e W8 ⟨rfl, hw8⟩; rw [hw8]; clear hw8 W8)
                | (go_at_call 19; refine Calls.mono (compact_nil _) ?_; rintro e W8 ⟨rfl, hw8⟩; rw [hw8]; clear hw8 W8))
              obtain ⟨We, hWe⟩ : ∃ We, wc.setCell ⟨X, 23, none⟩ (.slice none 0 0) = We := ⟨_, rfl⟩
              have HS2 : Hid (RC W We X base N bc mc bf mf cv cv (.slice none 0 0) 0 []) := by
                rw [← hWe]; exact HS1.out.row ⟨rfl, rfl, rfl, Nat.le_refl _, fun _ _ _ => rfl⟩ ⟨rfl, .inl ⟨rfl, rfl⟩⟩ HS1.out.x23
              rw [hWe]
              clear hWe x23 f23 HS1
              go_loopg [22] 0 (fun g v wx => v = .int .i64 (-1) ∧ wx = We)
              case atStart => exact ⟨rfl, rfl⟩
              case round =>
                obtain ⟨rfl, rfl⟩ := hrel
                have x21 := HS2.out.x21
                go_wp2
                go_ret
                refine (show RacesPost W X N ne ck (AllP st la rv (FoundP E ne N st t la j su)) _ _ from ⟨bf, mf, cv, rfl, fun tt ht => (HCV.out tt ht).same (fun k hk => ⟨fun h => h.elim id (fun h => absurd h (HNO.out k hk)), fun h => .inl h⟩), ?_⟩)
                have hf := HS2.out.rf.cells.1
                exact ⟨HS2.out.os, HS2.out.tape, HS2.out.output, HS2.out.size, HS2.out.blk, HS2.out.xc 1 (by decide) (by decide) (by decide), fun tt ht => by have := hf tt ht; rw [Nat.zero_add] at this; exact this⟩
            · as_aux_lemma =>
              obtain ⟨g, cap, cur, rfl, hgb, hgh, hgc, hgm, hgs, hgt⟩ : ∃ g cap cur, F2 = .slice (some ⟨g, 0, none⟩) fl2.length cap ∧ base ≤ g ∧ wc.heap[g]? = some (.cells cur 21 (0, 0)) ∧ fl2.length ≤ cap ∧ cap ≤ maxLen ∧ cur.size = cap * 1 ∧ cur.toList.take (fl2.length * 1) = intsN fl2 := by
                rcases HS.out.1.own.2 with ⟨_, h⟩ | ⟨g, cap, cur, h⟩
                · exact absurd (List.eq_nil_of_length_eq_zero h) hnil
                · exact ⟨g, cap, cur, h⟩
              have hn1 : 1 ≤ fl2.length := by rcases Nat.eq_zero_or_pos fl2.length with h | h; exact absurd (List.eq_nil_of_length_eq_zero h) hnil; exact h
              have hn2 := HS.out.2.len
              obtain ⟨n, hn⟩ : ∃ n, fl2.length = n := ⟨_, rfl⟩
              have HSA : Hid (SA wc wc g 0 cap (fl2.map (fun k : Nat => (k : Int))).toArray) := by
                refine ⟨⟨cur, hgh, by omega, by simp; omega, fun t ht => ?_⟩, Fr.refl _ _, (HS.out.1.far (b := g) rfl).2.1⟩
                have ht' : t < fl2.length := by simpa using ht
                have h1 : (cur.toList.take (fl2.length * 1))[t]? = some (.int .i32 ((fl2[t] : Nat) : Int)) := by rw [hgt]; simp [intsN, ht']
                rw [Nat.mul_one, List.getElem?_take_of_lt ht'] at h1
                rw [Nat.zero_add]
                simp only [Array.getElem?_toList] at h1
                rw [h1]
                simp [ht']
              have HSO : Hid (Calls Yba.prog 18 #[sl g 0 n cap] wc fun e W' => e = .returned (.tuple #[]) ∧ Sorted wc W' g 0 cap 0 n (fl2.map (fun k : Nat => (k : Int))).toArray) := by
                have := sort_any wc g 0 cap cap _ (by simp; omega) HSA.out
                rw [show ((fl2.map (fun k : Nat => (k : Int))).toArray).size = n by simp; exact hn] at this
                exact this
              have HRN : Hid (RC W wc X base N bc mc bf mf cv cv (sl g 0 n cap) n (intsN fl2)) := by rw [← hn]; exact HS.out.1
              rw [hn] at hn1 hgc hn2
              have HFL : Hid (fl2.length = n ∧ FLs (.slice (some ⟨g, 0, none⟩) fl2.length cap) fl2 ne 300000 (FoundP E ne N st t la j su)) := ⟨hn, HS.out.2⟩
              have x23 := HRN.out.x23
              clear HS hn hgt hgs hgh HSA hnil hgb
              go_upto_region 40 with (go_at_call 18; refine Calls.mono HSO.out ?_; rintro e W8 ⟨rfl, hso⟩)
              obtain ⟨d', hpm, hsr, hsa⟩ := hso
              obtain ⟨xs8, h8⟩ := HRN.out.row0 hsa.2.1 (by have := hsa.1; rw [show d'.size = n by have := hpm.1; simp at this; rw [this]; exact HFL.out.1] at this; exact this)
              have HR8 : Hid (RC W W8 X base N bc mc bf mf cv cv (sl g 0 n cap) n xs8) := h8
              have HRG8 : Hid (RowG W8 g 0 cap n (fun t => d'[t]!)) := by have := hsa.1; rw [show d'.size = n by have := hpm.1; simp at this; rw [this]; exact HFL.out.1] at this; exact this
              have HMAX : Hid (∀ G : Nat → Int, ∀ n', SameUp n' n G (fun t => d'[t]!) → (∀ x, x < ne → ((∃ jj, jj < n' ∧ G jj = (x : Int)) ↔ (FoundP E ne N st t la j su) x)) ∧ ∀ jj, jj < n' → ∃ k : Nat, G jj = (k : Int) ∧ k < ne) := fun G n' hsu => sorted_all hpm HFL.out.1 HFL.out.2 hsu
              clear h8 hsa hpm hsr HSO HRN x23
              have x23 := HR8.out.x23
              have HCO : Hid _ := compact_any W8 g cap n cap (fun t => d'[t]!) HRG8.out hn1 (by omega) hgc (by unfold maxLen at hgm; omega)
              go_upto_region 41 with (go_at_call 19; refine Calls.mono HCO.out ?_; rintro e Wc ⟨n', G, rfl, hn1', hn2', hsu, hrg, hfr⟩; have HRC : Hid (RowG Wc g 0 cap n' G ∧ Fr W8 Wc g ∧ SameUp n' n G (fun t => d'[t]!)) := ⟨hrg, hfr, hsu⟩; have z1 := (HR8.out.at23 (fr_grown hfr)).1; have z2 := (HR8.out.at23 (fr_grown hfr)).2; clear hrg hfr hsu)
              have HKK : Hid _ := HMAX.out G n' HRC.out.2.2
              obtain ⟨xs9, h9a, h9b⟩ := HR8.out.row1 HRC.out.2.1 HRC.out.1 hn2'
              obtain ⟨We, hWe⟩ : ∃ We, Wc.setCell ⟨X, 23, none⟩ (sl g 0 n' cap) = We := ⟨_, rfl⟩
              rw [hWe] at h9a h9b ⊢
              have HA : Hid (RC W We X base N bc mc bf mf cv cv (sl g 0 n' cap) n' xs9 ∧ RowG We g 0 cap n' G) := ⟨h9a, h9b⟩
              have hn5 : n' ≤ 300000 := by omega
              have y23 := HA.out.1.x23
              clear hWe h9a h9b HMAX HRC HR8 HCO HRG8 z1 z2 x23 HFL
              go_wp2
              clear y23
              have HL0 : Hid (RL W We X We.heap.size N bc mc bf mf g cap n' cap cv cv G (.slice none 0 0) (.slice none 0 0) 0 []) := RL.start HA.out.1 HA.out.2 HI.out.x22 HI.out.x27
              obtain ⟨b2, hb2⟩ : ∃ b2, We.heap.size = b2 := ⟨_, rfl⟩
              rw [hb2] at HL0
              clear hb2 HA
              go_loopg [22] n' (fun g' v wx => ∃ (jj : Nat) (cw fw : Nat → Int) (F I : Value) (ni : Nat) (xi : List Value), g' = jj ∧ jj ≤ n' ∧ v = .int .i64 ((jj : Int) - 1) ∧ Hid (RL W wx X b2 N bc mc bf mf g cap n' cap cw fw G F I ni xi ∧ ∀ tt, tt < N → MxC ne (fun k => (la st = (k : Int) ∨ rv = (k : Int)) ∨ ∃ i, jj ≤ i ∧ i < n' ∧ G i = (k : Int)) (fun k => ck (k * N + tt)) (fw tt)))
              case atStart => exact ⟨n', cv, cv, _, _, _, _, rfl, Nat.le_refl _, rfl, HL0.out, fun tt ht => (HCV.out tt ht).same (fun k _ => ⟨fun h => h.elim id (fun ⟨i, h1, h2, _⟩ => by omega), fun h => .inl h⟩)⟩
              case round => as_aux_lemma =>
                clear HL0
                obtain ⟨jj, cw, fw, F3, I3, ni, xi, hgq, hjj, rfl, H5⟩ := hrel
                have HGQ : Hid (gk = jj) := hgq
                clear hgq
                cases jj with
                | zero =>
                  have x21 := H5.out.1.x21
                  go_wp2
                  go_ret
                  refine (show RacesPost W X N ne ck (AllP st la rv (FoundP E ne N st t la j su)) _ _ from ⟨bf, mf, fw, rfl, fun tt ht => (H5.out.2 tt ht).same (fun k hk => ?_), ?_⟩)
                  · unfold AllP
                    rw [← HKK.out.1 k hk]
                    constructor
                    · rintro (h | ⟨i, h1, h2⟩)
                      · exact .inl h
                      · exact .inr ⟨i, by omega, h1, h2⟩
                    · rintro (h | ⟨i, _, h1, h2⟩)
                      · exact .inl h
                      · exact .inr ⟨i, h1, h2⟩
                  · have hf := H5.out.1.rf.cells.1
                    exact ⟨H5.out.1.os, H5.out.1.tape, H5.out.1.output, H5.out.1.size, H5.out.1.blk, H5.out.1.xc 1 (by decide) (by decide) (by decide) (by decide) (by decide), fun tt ht => by have := hf tt ht; rw [Nat.zero_add] at this; exact this⟩
                | succ j' =>
                  have ek : ((j' + 1 : Nat) : Int) - 1 = (j' : Int) := by omega
                  rw [ek]
                  clear ek
                  obtain ⟨k, hGk, hkne⟩ := HKK.out.2 j' (by omega)
                  have h0ne : 0 < ne := by omega
                  have gk0 := H5.out.1.rg.cells.1 j' (by omega)
                  rw [hGk, Nat.zero_add] at gk0
                  have HGK : Hid (G j' = (k : Int)) := hGk
                  clear hGk
                  have x23 := H5.out.1.x23
                  have x20 := H5.out.1.x20
                  have x21 := H5.out.1.x21
                  have s3 := H5.out.1.cell dS HI.out.s3
                  try simp only at s3
                  have hwk : IntKind.i64.wrap (k : Int) = (k : Int) := by rw [IntKind.wrap_i64]; omega
                  have hj'b : (j' : Int) < (n' : Int) := by omega
                  obtain ⟨p1, p2, p3, p4, p5, p6, p7, p8, p9, p10⟩ := H5.out.1.pl
                  have gel := cell_lt ((HI.out.ev h0ne).e0 k hkne)
                  have gcl := cell_lt ((HI.out.ev h0ne).cl 0 (by show 0 < ne * N; exact Nat.mul_pos h0ne (by omega)))
                  have gpl := cell_lt (HI.out.n0 k hkne)
                  have Sl := cell_lt HI.out.s0
                  try simp only at gel
                  try simp only at gcl
                  try simp only at gpl
                  try simp only at Sl
                  have HEV : Hid (EvR wr ⟨X, ge, ce, gc, cc⟩ ⟨N, ne, t, nth, ck, UU⟩) := EvR.rl (HI.out.ev h0ne) H5.out.1 HI.out.dX2.1 HI.out.dX2.2.1
                  have HFO : Hid _ := follows_any wr ⟨X, ge, ce, gc, cc⟩ ⟨N, ne, t, nth, ck, UU⟩ HEV.out k hkne bc 0 mc cw (fun t ht => H5.out.1.rc.cells.1 t ht)
                  try simp only at HFO
                  -- the join into x.full, wherever
                  have HJ2 : Hid (∀ (wx : World) (cw' : Nat → Int) (F' I' : Value) (ni' : Nat) (xi' : List Value), RL W wx X b2 N bc mc bf mf g cap n' cap cw' fw G F' I' ni' xi' → Calls Yba.prog 12 #[pt X, sl bf 0 N mf, .int .i64 (k : Int)] wx fun e W' => e = .returned (.tuple #[]) ∧ ∃ fw', RL W W' X b2 N bc mc bf mf g cap n' cap cw' fw' G F' I' ni' xi' ∧ ∀ tt, tt < N → MxC ne (fun k => (la st = (k : Int) ∨ rv = (k : Int)) ∨ ∃ i, j' ≤ i ∧ i < n' ∧ G i = (k : Int)) (fun k => ck (k * N + tt)) (fw' tt)) := fun wx cw' F' I' ni' xi' hL => by
                    refine (join_any wx ⟨X, ge, ce, gc, cc⟩ ⟨N, ne, t, nth, ck, UU⟩ (EvR.rl (HI.out.ev h0ne) hL HI.out.dX2.1 HI.out.dX2.2.1) k hkne bf mf mf fw hL.rf (by show X ≠ bf; omega) (by show ge ≠ bf; omega) (by show gc ≠ bf; omega)).mono ?_
                    rintro e W' ⟨rfl, hr1, hf1⟩
                    refine ⟨rfl, _, hL.fr hf1 (.inr rfl) (hL.rc.same (hf1.2.2.2.2 bc (by have := hL.hb; omega) (by omega))) hr1, fun tt ht => (H5.out.2 tt ht).add k hkne (fun x _ => ?_)⟩
                    constructor
                    · rintro (h | ⟨i, h1, h2, h3⟩)
                      · exact .inr (.inl h)
                      · by_cases e : i = j'
                        · subst e; rw [HGK.out] at h3; exact .inl (by omega)
                        · exact .inr (.inr ⟨i, by omega, h2, h3⟩)
                    · rintro (h | h | ⟨i, h1, h2, h3⟩)
                      · exact .inr ⟨j', by omega, by omega, by rw [HGK.out, h]⟩
                      · exact .inl h
                      · exact .inr ⟨i, by omega, h2, h3⟩
                  have HRV : Hid (∀ mm, Calls Yba.prog 22 #[pt X, .int .i64 (k : Int), pt S] (wr.drewN mm) fun e W' => RvGOut (wr.drewN mm) X b2 N e W') := fun mm => by
                    have hA := H5.out.1.drewN mm
                    exact rev_gen (wr.drewN mm) ⟨X, ge, ce, gc, cc⟩ ⟨N, ne, t, nth, ck, UU⟩ S k gp cp bf mf b2 st fw F3 I3 ni xi ⟨EvR.rl (HI.out.ev h0ne) hA HI.out.dX2.1 HI.out.dX2.2.1, hkne, hA.cell HI.out.dX.2.2.1 HI.out.s0, hA.cell HI.out.dX.2.2.1 HI.out.s1, hst, hA.x21, fun tt ht => by have := hA.rf.cells.1 tt ht; rw [Nat.zero_add] at this; exact this,
                      hA.xcell (by decide) (by decide) (by decide) (by decide) (by decide) (HI.out.x1 h0ne), (by obtain ⟨v, h1, h2⟩ := HI.out.x7; exact ⟨v, hA.xcell (by decide) (by decide) (by decide) (by decide) (by decide) h1, h2⟩), hA.cell HI.out.dX2.2.2.1 (HI.out.n0 k hkne), fun k' hk' => hA.cell HI.out.dX2.2.2.1 (HI.out.n5 k' hk'), hA.cell HI.out.dX2.2.2.1 (HI.out.n7 k hkne), hA.cell HI.out.dX2.2.2.1 (HI.out.n8 k hkne), hA.x22, hA.x27, hA.fz, hA.ff, hA.oi, hA.ii, hA.ap, hA.hb,
                      ⟨show X < b2 by omega, show ge < b2 by omega, show gc < b2 by omega, show gp < b2 by omega, p9, show S < b2 by omega⟩, ⟨HI.out.dX2.1, HI.out.dX2.2.1, HI.out.dX2.2.2.1, show bf ≠ X by omega, HI.out.dX.2.2.1⟩⟩
                  obtain ⟨dd, hdd⟩ : ∃ dd, decide (nth k ≤ cw (t k)) = dd := ⟨_, rfl⟩
                  rw [hdd] at HFO
                  clear hdd HEV
                  cases dd
                  · go_upto_region 47 with (first
                      | (go_at_call 20; refine Calls.mono HFO.out ?_; rintro e W6 ⟨rfl, mm, rfl⟩)
                      | (go_at_call 21; refine Calls.mono (reversible_any _ X S k 0 none s3) ?_; rintro e W6 ⟨rfl, hw6⟩; rw [hw6]; clear hw6 W6)
                      | (go_at_call 22; refine Calls.mono (HRV.out _) ?_; rintro e Wf ⟨rfl, F4, I4, ni4, xi4, EB4, g4, hrv⟩; have HE : Hid (RL W Wf X b2 N bc mc bf mf g cap n' cap cw fw G F4 I4 ni4 xi4) := (H5.out.1.drewN _).rev hrv; clear hrv))
                    clear HRV HFO gk0 x23 x20 x21 s3
                    have x20 := HE.out.x20
                    have HJ1 : Hid (Calls Yba.prog 12 #[pt X, sl bc 0 N mc, .int .i64 (k : Int)] Wf fun e W' => e = .returned (.tuple #[]) ∧ ∃ cw', RL W W' X b2 N bc mc bf mf g cap n' cap cw' fw G F4 I4 ni4 xi4) := by
                      refine (join_any Wf ⟨X, ge, ce, gc, cc⟩ ⟨N, ne, t, nth, ck, UU⟩ (EvR.rl (HI.out.ev h0ne) HE.out HI.out.dX2.1 HI.out.dX2.2.1) k hkne bc mc mc cw HE.out.rc (by show X ≠ bc; omega) (by show ge ≠ bc; omega) (by show gc ≠ bc; omega)).mono ?_
                      rintro e W' ⟨rfl, hr1, hf1⟩
                      exact ⟨rfl, _, HE.out.fr hf1 (.inl rfl) hr1 (HE.out.rf.same (hf1.2.2.2.2 bf (by have := HE.out.hb; omega) (by omega)))⟩
                    go_upto_region 48 with (go_at_call 12; refine Calls.mono HJ1.out ?_; rintro e Wg ⟨rfl, cw', hL1⟩; have HE2 : Hid (RL W Wg X b2 N bc mc bf mf g cap n' cap cw' fw G F4 I4 ni4 xi4) := hL1; clear hL1)
                    clear HJ1 x20
                    have x21 := HE2.out.x21
                    go_wp2_with (go_at_call 12; refine Calls.mono (HJ2.out _ _ _ _ _ _ HE2.out) ?_; rintro e Wh ⟨rfl, fw', hL2, hm2⟩)
                    go_roundg j'
                    case measure => have := HGQ.out; omega
                    case rel => exact ⟨j', cw', fw', F4, I4, ni4, xi4, rfl, by omega, by go_num, hL2, hm2⟩
                  · go_wp2_with (first
                      | (go_at_call 20; refine Calls.mono HFO.out ?_; rintro e W6 ⟨rfl, mm, rfl⟩)
                      | (go_at_call 12; refine Calls.mono (HJ2.out _ _ _ _ _ _ (H5.out.1.drewN _)) ?_; rintro e Wh ⟨rfl, fw', hL2, hm2⟩))
                    go_roundg j'
                    case measure => have := HGQ.out; omega
                    case rel => exact ⟨j', cw, fw', F3, I3, ni, xi, rfl, by omega, by go_num, hL2, hm2⟩
end Go.Proofs.Ybulkbxvu.Ck
