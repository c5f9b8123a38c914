/-
  races at the chain.
-/
import Derived.Test.YbulkbxvuP28
import Derived.StillTailTactics
namespace Go.Proofs.Ybulkbxvu
open Go.RowKit
set_option linter.unusedVariables false

/-- What races leaves. -/
structure RcsOut (W W' : World) (X gp ne : Nat) (run : Nat → Bool) (K : Int) (bf : Nat) : Prop where
  os : W'.os = W.os
  tape : W'.tape = W.tape
  output : W'.output = W.output
  size : W.heap.size ≤ W'.heap.size
  blk : ∀ k, k < W.heap.size → k ≠ X → k ≠ gp → W'.heap[k]? = W.heap[k]?
  x1 : W'.cell? ⟨X, 1, none⟩ = W.cell? ⟨X, 1, none⟩
  f0 : W'.cell? ⟨bf, 0, none⟩ = some (.int .i32 (K + 1))
  f1 : W'.cell? ⟨bf, 1, none⟩ = some (.int .i32 0)
  no : ∀ k, k < ne → ¬ ((k : Int) = K ∧ run k = true) → W'.cell? ⟨gp, k * 9 + 8, none⟩ = some (.pointer none)
  yes : ∀ k, k < ne → (k : Int) = K → run k = true → ∃ q b c, W'.cell? ⟨gp, k * 9 + 8, none⟩ = some (pt q) ∧ W'.cell? ⟨q, 0, none⟩ = some (.slice (some ⟨b, 0, none⟩) 1 c) ∧ W'.cell? ⟨b, 0, none⟩ = some (.int .i64 1)
/-- The greatest of those found. -/
def MaxF (P : Nat → Prop) (ne : Nat) (K : Int) : Prop := (K = -1 ∧ ∀ x, x < ne → ¬ P x) ∨ ∃ k : Nat, K = (k : Int) ∧ k < ne ∧ P k ∧ ∀ x, x < ne → P x → x ≤ k
def RacesPost (W : World) (X gp ne : Nat) (run : Nat → Bool) (P : Nat → Prop) (e : Ending) (W' : World) : Prop := ∃ bf cf K, e = .returned (sl bf 0 2 cf) ∧ MaxF P ne K ∧ RcsOut W W' X gp ne run K bf
set_option maxHeartbeats 100000000 in
set_option maxRecDepth 100000 in
theorem races_any (W : World) (p : Pl) (u : Pu) (D : Dat) (U : Nat → Use4) (q : Pq) (R : Nat → Nat) (run : Nat → Bool) (li : Nat → Value) (E : EvD) (nu : Nat) (su : Nat → Nat) (h : RcIn W p u D U q R run li E nu su) :
    Calls Yba.prog 8 #[pt p.X, pt q.RB, pt q.S] W fun e W' => RacesPost W p.X q.gp D.ne run (FoundP E D.ne 2 1 (fun _ => 0) (lastR D.ne) nu su) e W' := by
  obtain ⟨X, ge, ce, gc, cc⟩ := p
  obtain ⟨N, ne, t, nth, ck, UU⟩ := D
  obtain ⟨M, RB, S, lb, lc, rb, rcp, gs, cs, gol, gp, cp, gr, cr, gu⟩ := q
  have hN := h.N2
  simp only at hN
  subst hN
  have HI : Hid (RcIn W ⟨X, ge, ce, gc, cc⟩ u ⟨2, ne, t, nth, ck, UU⟩ U ⟨M, RB, S, lb, lc, rb, rcp, gs, cs, gol, gp, cp, gr, cr, gu⟩ R run li E nu su) := h
  have hne := h.hne
  have hnu := h.hnu
  have hXl : X < W.heap.size := cell_lt h.x6
  have x9 := h.x9
  have x20 := h.x20
  have f20 := h.fz 20
  simp only at hne x9 x20 f20
  show Calls Yba.prog 8 #[pt X, pt RB, pt S] W fun e W' => RacesPost W X gp ne run (FoundP E ne 2 1 (fun _ => 0) (lastR ne) nu su) e W'
  clear h
  go_enter Yba.func8, Yba.ntmps8
  go_upto_region 3 with (go_at_call 11; refine Calls.mono (resize_nil W 2 (by decide) (by decide)) ?_; rintro e W1 ⟨mc, rfl, hc1, hR1, hb1, hl1⟩; have y20 := (hb1.cell hXl).trans x20; have g20 := (hb1.frozen hXl).trans f20)
  obtain ⟨V, hV⟩ : ∃ V, W1.setCell ⟨X, 20, none⟩ (sl W.heap.size 0 2 mc) = V := ⟨_, rfl⟩
  have HV : Hid (RowG W1 W.heap.size 0 mc 2 (fun _ => 0) ∧ Below W.heap.size W W1 ∧ W.heap.size < W1.heap.size ∧ W1.setCell ⟨X, 20, none⟩ (sl W.heap.size 0 2 mc) = V ∧ X < V.heap.size ∧ V.cell? ⟨X, 21, none⟩ = some (.slice none 0 0) ∧ V.frozen? ⟨X, 21, none⟩ = false) := by
    refine ⟨hR1, hb1, hl1, hV, ?_, ?_, ?_⟩
    · rw [← hV]; simp; omega
    · rw [← hV, World.cell?_setCell_other _ _ _ _ (by simp)]; exact (hb1.cell hXl).trans HI.out.x21
    · rw [← hV, World.frozen?_setCell]; exact (hb1.frozen hXl).trans (HI.out.fz 21)
  rw [hV]
  clear hV hR1 hb1 hl1 y20 g20 x20 f20 x9
  have x21 := HV.out.2.2.2.2.2.1
  have f21 := HV.out.2.2.2.2.2.2
  have hXV := HV.out.2.2.2.2.1
  go_upto_region 4 with (go_at_call 11; refine Calls.mono (resize_nil V 2 (by decide) (by decide)) ?_; rintro e W2 ⟨mf, rfl, hc2, hR2, hb2, hl2⟩; have y21 := (hb2.cell hXV).trans x21; have g21 := (hb2.frozen hXV).trans f21)
  have HR0 : Hid (RC W (W2.setCell ⟨X, 21, none⟩ (sl V.heap.size 0 2 mf)) X W2.heap.size 2 W.heap.size mc V.heap.size mf (fun _ => 0) (fun _ => 0) (.slice none 0 0) 0 []) :=
    RC.start hXl HI.out.x20 HI.out.x21 HI.out.x23 HI.out.fz HV.out.1 HV.out.2.1 HV.out.2.2.1 HV.out.2.2.2.1 hR2 hb2 hl2
  obtain ⟨W3, hW3⟩ : ∃ W3, W2.setCell ⟨X, 21, none⟩ (sl V.heap.size 0 2 mf) = W3 := ⟨_, rfl⟩
  obtain ⟨bc, hbc⟩ : ∃ bc, W.heap.size = bc := ⟨_, rfl⟩
  obtain ⟨bf, hbf⟩ : ∃ bf, V.heap.size = bf := ⟨_, rfl⟩
  obtain ⟨base, hba⟩ : ∃ base, W2.heap.size = base := ⟨_, rfl⟩
  rw [hW3, hbc, hbf, hba] at HR0
  rw [hW3]
  try rw [hbf]
  try rw [hbc]
  have HR : Hid (RC W W3 X base 2 bc mc bf mf (fun _ => 0) (fun _ => 0) (.slice none 0 0) 0 []) := HR0.out
  clear HR0 hW3 hbc hbf hba hR2 hb2 hl2 y21 g21 HV x21 f21 hXV
  obtain ⟨dM, dRB, dS, dlb, drb, dgs⟩ := HI.out.dX
  simp only at dM dRB dS dlb drb dgs
  have r14 := HR.out.cell dRB HI.out.r14
  have r15 := HR.out.cell dRB HI.out.r15
  have s1 := HR.out.cell dS HI.out.s1
  have l1 := HR.out.cell dlb HI.out.l1
  have q1 := HR.out.cell drb HI.out.rr1
  simp only at r14 r15 s1 l1 q1
  go_quiet (fail)
  have HR4 : Hid (RC W (W3.drewN nq) X base 2 bc mc bf mf (fun _ => 0) (fun _ => 0) (.slice none 0 0) 0 []) := HR.out.drewN nq
  obtain ⟨W4, hW4⟩ : ∃ W4 : World, W3.drewN nq = W4 := ⟨_, rfl⟩
  rw [hW4] at HR4 ⊢
  clear hW4 HR r14 r15 s1 l1 q1
  go_wp2
  go_loopg [69] 2 (fun g v wx => ∃ i : Nat, g + i = 2 ∧ v = .int .i64 (i : Int) ∧ wx = W4)
  case atStart => exact ⟨0, rfl, rfl, rfl⟩
  case round =>
    obtain ⟨i, hgi, rfl, rfl⟩ := hrel
    match i, hgi with
    | 0, _ =>
      have hix : (Instr.index 88 (.agg #[.int .i32 (-1), .int .i32 (-1)]) (.int .i64 0)).run Yba.prog wr = .ok (.int .i32 (-1)) wr := by kernel_rfl
      go_wp2
      go_roundg 1
      case measure => omega
      case rel => exact ⟨1, rfl, by go_num, rfl⟩
    | 1, _ =>
      have hix : (Instr.index 88 (.agg #[.int .i32 (-1), .int .i32 (-1)]) (.int .i64 1)).run Yba.prog wr = .ok (.int .i32 (-1)) wr := by kernel_rfl
      go_wp2
      go_roundg 0
      case measure => omega
      case rel => exact ⟨2, rfl, by go_num, rfl⟩
    | 2, _ =>
      go_upto_region 10 with fail
      have x20 := HR4.out.x20
      have x21 := HR4.out.x21
      go_still_tail 8, Yba.mixed
      refine wp_copyG _ rfl _ _ rfl bf mf bc 2 mf mc (fun _ => 0) (fun _ => 0) rfl rfl (HR4.out.drewN 1).rf (fun t ht => by have := HR4.out.rc.cells.1 t ht; rw [Nat.zero_add] at this; exact this) ?_
      intro W5 hr5 hf5
      have HR5 : Hid (RC W W5 X base 2 bc mc bf mf (fun _ => 0) (fun _ => 0) (.slice none 0 0) 0 []) := (HR4.out.drewN 1).rowF hf5 hr5
      clear hr5 hf5 x20 x21 HR4
      have x23 := HR5.out.x23
      have f23 := HR5.out.fz 23
      have s2 := HR5.out.cell dS HI.out.s2
      simp only at s2
      have hSX : S ≠ X := dS
      have hXS : X ≠ S := Ne.symm dS
      go_wp2
      have HR6 : Hid (RC W (W5.setCell ⟨X, 23, none⟩ (.slice none 0 0)) X base 2 bc mc bf mf (fun _ => 0) (fun _ => 0) (.slice none 0 0) ([] : List Nat).length (intsN [])) := HR5.out.row ⟨rfl, rfl, rfl, Nat.le_refl _, fun _ _ _ => rfl⟩ ⟨rfl, .inl ⟨rfl, rfl⟩⟩ HR5.out.x23
      clear HR5 x23 f23 s2
      go_loopg [105] nu (fun g v wx => ∃ (j : Nat) (F : Value) (fl : List Nat), g + j = nu ∧ v = .int .i64 (j : Int) ∧ Hid (RC W wx X base 2 bc mc bf mf (fun _ => 0) (fun _ => 0) F fl.length (intsN fl) ∧ FLs F fl ne (j * 514) (fun x => ∃ i, i < j ∧ HitB E ne 2 1 (lastR ne) (su i) x)))
      case atStart => exact ⟨0, _, _, by omega, rfl, HR6.out, ⟨fun x _ => by simp, fun x hx => by simp at hx, by simp, fun _ => rfl⟩⟩
      case round =>
        clear HR6
        obtain ⟨j, F, fl, hgj, rfl, H⟩ := hrel
        by_cases hj : (j : Int) < (nu : Int)
        · have hfl : fl.length ≤ 1000000 := by have := H.out.2.len; omega
          obtain ⟨c0, c1, c2, c3⟩ := (HI.out.su'.rc H.out.1 dgs) j (by omega)
          simp only [Nat.zero_add] at c0 c1 c2 c3
          obtain ⟨sel, hsel⟩ : ∃ sel, su j % 7 = sel := ⟨_, rfl⟩
          have hs7 : sel < 7 := by omega
          by_cases h6 : sel = 6
          · as_aux_lemma =>
            have HD : Hid (dec (su j) = ⟨7, 0, 0, true⟩) := by show _ = _; unfold dec; rw [if_pos (by omega)]
            have HB6 : Hid (∀ x, HitB E ne 2 1 (lastR ne) (su j) x ↔ ∃ t, t < 2 ∧ t ≠ 1 ∧ lastR ne t = (x : Int)) := fun x => by unfold HitB; rw [if_pos (by omega)]
            rw [HD.out] at c0 c1 c2 c3
            simp only at c0 c1 c2 c3
            have r14 := H.out.1.cell dRB HI.out.r14
            simp only at r14
            have rl := cell_lt r14
            clear hsel hs7 h6 HD
            go_wp2
            have H3 : Hid (RC W (wr.alloc (.cells #[.int .u8 7, .int .u32 0, .int .u32 0, .bool true] 72)) X base 2 bc mc bf mf (fun _ => 0) (fun _ => 0) F fl.length (intsN fl)) := H.out.1.alloc _
            clear c0 c1 c2 c3 r14 rl
            go_loopg [118] 2 (fun g v wx => ∃ (t : Nat) (F : Value) (fl : List Nat), g + t = 2 ∧ v = .int .i64 (t : Int) ∧ Hid (RC W wx X base 2 bc mc bf mf (fun _ => 0) (fun _ => 0) F fl.length (intsN fl) ∧ FLs F fl ne (j * 514 + t) (fun x => (∃ i, i < j ∧ HitB E ne 2 1 (lastR ne) (su i) x) ∨ ∃ t', t' < t ∧ t' ≠ 1 ∧ lastR ne t' = (x : Int))))
            case atStart => exact ⟨0, F, fl, rfl, rfl, H3.out, H.out.2.same (fun x _ => by simp) (by omega)⟩
            case round =>
              clear H3 H hfl
              obtain ⟨tt, F2, fl2, hgt, rfl, H4⟩ := hrel
              have hfl : fl2.length ≤ 1000000 := by have := H4.out.2.len; omega
              have l0 := H4.out.1.cell dlb HI.out.l0
              have l1 := H4.out.1.cell dlb HI.out.l1
              have s1 := H4.out.1.cell dS HI.out.s1
              simp only at l0 l1 s1
              match tt, hgt with
              | 0, _ =>
                rcases Nat.eq_zero_or_pos ne with hn0 | hn0
                · have l0' : wr.cell? ⟨lb, 0, none⟩ = some (.int .i32 (-1)) := by rw [l0, hn0]; rfl
                  clear l0
                  go_wp2
                  go_roundg 1
                  case measure => omega
                  case rel =>
                    refine ⟨1, F2, fl2, rfl, by go_num, H4.out.1, H4.out.2.same (fun x _ => ?_) (by omega)⟩
                    constructor
                    · rintro (h | ⟨t', h1, h2, h3⟩)
                      · exact .inl h
                      · obtain rfl : t' = 0 := by omega
                        simp only [lastR, if_true] at h3; omega
                    · rintro (h | ⟨t', h1, _⟩)
                      · exact .inl h
                      · omega
                · obtain ⟨Ln, hLn⟩ : ∃ Ln : Nat, ne = Ln + 1 := ⟨ne - 1, by omega⟩
                  have l0' : wr.cell? ⟨lb, 0, none⟩ = some (.int .i32 (Ln : Int)) := by rw [l0, hLn]; congr 2; omega
                  have x23 := H4.out.1.x23
                  have HLn : Hid (ne = Ln + 1) := hLn
                  clear l0 hLn
                  go_wp2_with (at_builtin; refine wp_app28 _ rfl _ _ rfl base F2 fl2.length (intsN fl2) rfl (H4.out.1.alloc _).own ((Ln : Int)) _ _ rfl (heap_alloc_new _ _) hfl (H4.out.1.alloc _).hb ?_; intro g0 cap0 W70 hown0 hgr0 hat0 hlt0; obtain ⟨z10, z20⟩ := (H4.out.1.alloc _).at23 hgr0)
                  go_roundg 1
                  case measure => omega
                  case rel =>
                    refine ⟨1, .slice (some ⟨g0, 0, none⟩) (fl2.length + 1) cap0, fl2 ++ [Ln], rfl, by go_num, ?_, H4.out.2.push (k := Ln) (by have := HLn.out; omega) (fun x _ => ?_) (by omega)⟩
                    · exact (H4.out.1.alloc _).push hgr0 hown0 z10
                    · constructor
                      · rintro (h | ⟨t', h1, h2, h3⟩)
                        · exact .inr (.inl h)
                        · obtain rfl : t' = 0 := by omega
                          have := HLn.out
                          simp only [lastR, if_true] at h3; exact .inl (by omega)
                      · rintro (h | h | ⟨t', h1, _⟩)
                        · exact .inr ⟨0, by omega, by omega, by have := HLn.out; simp only [lastR, if_true]; omega⟩
                        · exact .inl h
                        · omega
              | 1, _ =>
                go_wp2
                go_roundg 0
                case measure => omega
                case rel =>
                  refine ⟨2, F2, fl2, rfl, by go_num, H4.out.1, H4.out.2.same (fun x _ => ?_) (by omega)⟩
                  constructor
                  · rintro (h | ⟨t', h1, h2, h3⟩)
                    · exact .inl h
                    · exact .inr ⟨t', by omega, h2, h3⟩
                  · rintro (h | ⟨t', h1, h2, h3⟩)
                    · exact .inl h
                    · exact .inr ⟨t', by omega, h2, h3⟩
              | 2, _ =>
                go_wp2
                go_roundg (nu - (j + 1))
                case measure => omega
                case rel =>
                  refine ⟨j + 1, F2, fl2, by omega, by go_num, H4.out.1, H4.out.2.same (fun x _ => ?_) (by omega)⟩
                  constructor
                  · rintro ⟨i, h1, h2⟩
                    by_cases e : i = j
                    · subst e; exact .inr ((HB6.out x).mp h2)
                    · exact .inl ⟨i, by omega, h2⟩
                  · rintro (⟨i, h1, h2⟩ | h)
                    · exact ⟨i, by omega, h2⟩
                    · exact ⟨j, by omega, (HB6.out x).mpr h⟩
          · as_aux_lemma =>
            obtain ⟨o, ho⟩ : ∃ o, sel / 2 = o := ⟨_, rfl⟩
            have ho3 : o < 3 := by omega
            obtain ⟨wv, hwv⟩ : ∃ wv, (sel % 2 == 1) = wv := ⟨_, rfl⟩
            have HD : Hid (dec (su j) = ⟨objK o, objI o, 0, wv⟩) := by show _ = _; unfold dec; rw [hsel, if_neg h6, ho, hwv]
            have HB6 : Hid (∀ x, HitB E ne 2 1 (lastR ne) (su j) x ↔ HitO (fun k => E.ce o k % 3) ne wv x) := fun x => by unfold HitB; rw [hsel, if_neg h6, ho, hwv]
            obtain ⟨ok, hok⟩ : ∃ ok, objK o = ok := ⟨_, rfl⟩
            obtain ⟨oi, hoi⟩ : ∃ oi, objI o = oi := ⟨_, rfl⟩
            have HOK : Hid (objK o = ok ∧ objI o = oi) := ⟨hok, hoi⟩
            rw [HD.out, hok, hoi] at c0 c1 c2 c3
            simp only at c0 c1 c2 c3
            have ok7 : (ok == 7) = false := by
              rw [← hok, beq_eq_false_iff_ne]; unfold objK; split <;> decide
            clear hsel hs7 h6 HD ho hwv hok hoi
            go_upto_region 22 with fail
            obtain ⟨W6, hW6⟩ : ∃ W6, wr.alloc (.cells #[.int .u8 ok, .int .u32 oi, .int .u32 0, .bool wv] 72) = W6 := ⟨_, rfl⟩
            obtain ⟨UB, hUB⟩ : ∃ UB, wr.heap.size = UB := ⟨_, rfl⟩
            have HR7 : Hid (RC W W6 X base 2 bc mc bf mf (fun _ => 0) (fun _ => 0) F fl.length (intsN fl) ∧ UBx W6 F base UB (fun o => #[.int .u8 ok, .int .u32 oi, .int .u32 0, .bool wv][o]?)) := by
              rw [← hW6, ← hUB]
              exact ⟨H.out.1.alloc _, UBx.new wr (fun b hb => (H.out.1.far hb).2.1) H.out.1.hb _⟩
            rw [hW6, hUB]
            clear hW6 hUB c0 c1 c2 c3
            have x6 := HR7.out.1.xcell (by decide) (by decide) (by decide) HI.out.x6
            simp only at x6
            have u0 := HR7.out.2.row.cell (o := 0) rfl
            have u1 := HR7.out.2.row.cell (o := 1) rfl
            have u2 := HR7.out.2.row.cell (o := 2) rfl
            obtain ⟨ao, lcap, hli, hao⟩ := HI.out.lis o ho3
            have hlk : (Instr.lookup 58 (.map (some M)) (.agg #[.int .u8 ok, .int .u32 oi, .int .u32 0]) false).run Yba.prog W6.drew = .ok (.slice ao (obL E o ne).length lcap) W6.drew := by
              have := (HI.out.mp.rc (HR7.out.1.drewN 1) dM).look o ho3
              dsimp only [okey] at this
              rw [HOK.out.1, HOK.out.2, hli] at this
              exact this
            obtain ⟨len, hlen⟩ : ∃ len, (obL E o ne).length = len := ⟨_, rfl⟩
            rw [hlen] at hlk hao
            have hlen2 : len ≤ 512 := by have := obL_len E o ne; omega
            have HLEN : Hid ((obL E o ne).length = len) := hlen
            clear hli hlen
            go_still Yba.mixed
            clear hlk x6 u0 u1 u2
            go_wp2
            have HR8 : Hid (RC W W6.drew X base 2 bc mc bf mf (fun _ => 0) (fun _ => 0) F fl.length (intsN fl) ∧ UBx W6.drew F base UB (fun o => #[.int .u8 ok, .int .u32 oi, .int .u32 0, .bool wv][o]?)) := ⟨HR7.out.1.drewN 1, HR7.out.2.keep ⟨rfl, rfl, rfl, Nat.le_refl _, fun _ _ => rfl⟩⟩
            go_loopg [15] len (fun g v wx => ∃ (qq : Nat) (F : Value) (fl : List Nat), g = qq ∧ qq ≤ len ∧ v = .int .i64 ((qq : Int) - 1) ∧ Hid (RC W wx X base 2 bc mc bf mf (fun _ => 0) (fun _ => 0) F fl.length (intsN fl) ∧ UBx wx F base UB (fun o => #[.int .u8 ok, .int .u32 oi, .int .u32 0, .bool wv][o]?) ∧ FLs F fl ne (j * 514 + (len - qq)) (L4P E ne (fun x => ∃ i, i < j ∧ HitB E ne 2 1 (lastR ne) (su i) x) o wv qq) ∧ L4N E ne o qq))
            case atStart =>
              refine ⟨len, F, fl, rfl, Nat.le_refl _, rfl, HR8.out.1, HR8.out.2, H.out.2.same (fun x _ => ?_) (by omega), fun jj x h1 h2 => ?_⟩
              · constructor
                · rintro (h | ⟨⟨jj, h1, h2⟩, _⟩)
                  · exact h
                  · have := (List.getElem?_eq_some_iff.mp h2).1; have := HLEN.out; omega
                · intro h; exact .inl h
              · have := (List.getElem?_eq_some_iff.mp h2).1; have := HLEN.out; omega
            case round => as_aux_lemma =>
              clear HR8 H hfl HR7
              obtain ⟨qq, F2, fl2, hgq, hq, rfl, H4⟩ := hrel
              have HGQ : Hid (gk = qq) := hgq
              have hfl : fl2.length ≤ 1000000 := by have := H4.out.2.2.1.len; omega
              clear hgq
              cases qq with
              | zero =>
                go_wp2
                go_roundg (nu - (j + 1))
                case measure => omega
                case rel => exact ⟨j + 1, F2, fl2, by omega, by go_num, H4.out.1, H4.out.2.2.1.same (fun x hx => (hitB_succ HB6.out x).trans (L4P.zero (E := E) (o := o) (wv := wv) (Pj := (fun x => ∃ i, i < j ∧ HitB E ne 2 1 (lastR ne) (su i) x)) x hx)) (by omega)⟩
              | succ q' =>
                have ek : ((q' + 1 : Nat) : Int) - 1 = (q' : Int) := by omega
                rw [ek]
                clear ek
                obtain ⟨k, hk⟩ : ∃ k, (obL E o ne)[q']? = some k := ⟨_, List.getElem?_eq_getElem (by have := HLEN.out; omega)⟩
                have hkne : k < ne := (obL_at hk).1
                have HK : Hid ((obL E o ne)[q']? = some k) := hk
                obtain rfl := hao (by omega)
                have lc := H4.out.1.cell (HI.out.dgo o ho3) (HI.out.lic o ho3 q' k hk)
                have HEV : Hid _ := (HI.out.ev (by show 0 < ne; omega)).rc H4.out.1 HI.out.dX2.1 HI.out.dX2.2.1
                have HUS : Hid _ := (HI.out.us (by show 0 < ne; omega)).rc H4.out.1 HI.out.dX2.2.2.2.2.1
                have x2 := HEV.out.x2
                have HWC : Hid _ := writes_any wr ⟨X, ge, ce, gc, cc⟩ u ⟨2, ne, t, nth, ck, UU⟩ gu U HEV.out HUS.out k hkne ok oi 0
                have u0 := H4.out.2.1.row.cell (o := 0) rfl
                have u1 := H4.out.2.1.row.cell (o := 1) rfl
                have u2 := H4.out.2.1.row.cell (o := 2) rfl
                simp only at lc x2 HWC
                have HWR : Hid _ := HI.out.wr o ho3 k hkne
                simp only at HWR
                rw [HOK.out.1, HOK.out.2] at HWR
                clear hk
                go_upto_region 29 with (go_at_call 13; refine Calls.mono HWC.out ?_; rintro e W8 ⟨r, rfl, hr, hb8⟩; have H8 : Hid ((r = true ↔ E.ce o k % 3 = 2) ∧ Below wr.heap.size wr W8) := ⟨hr.trans HWR.out, hb8⟩; clear hr hb8)
                clear HWC HEV HUS HWR lc x2 u0 u1 u2
                have H9 : Hid (RC W W8 X base 2 bc mc bf mf (fun _ => 0) (fun _ => 0) F2 fl2.length (intsN fl2) ∧ UBx W8 F2 base UB (fun o => #[.int .u8 ok, .int .u32 oi, .int .u32 0, .bool wv][o]?)) := ⟨H4.out.1.keep H8.out.2, H4.out.2.1.keep H8.out.2⟩
                have u3 := H9.out.2.row.cell (o := 3) rfl
                have x23 := H9.out.1.x23
                have hwk : IntKind.i32.wrap (k : Int) = (k : Int) := by rw [IntKind.wrap_i32]; omega
                cases r
                · cases wv
                  · go_wp2
                    go_roundg q'
                    case measure => have := HGQ.out; omega
                    case rel => exact ⟨q', F2, fl2, rfl, by omega, by go_num, H9.out.1, H9.out.2, H4.out.2.2.1.same (fun x _ => L4P.skip HK.out (fun h => nomatch (H8.out.1.mpr h)) x) (by omega), H4.out.2.2.2.nxt HK.out (fun h => nomatch (H8.out.1.mpr h))⟩
                  · go_wp2_with (at_builtin; refine wp_app28 _ rfl _ _ rfl base F2 fl2.length (intsN fl2) rfl (H9.out.1.alloc _).own ((k : Int)) _ _ rfl (heap_alloc_new _ _) hfl (H9.out.1.alloc _).hb ?_; intro g0 cap0 W70 hown0 hgr0 hat0 hlt0; obtain ⟨z10, z20⟩ := (H9.out.1.alloc _).at23 hgr0)
                    go_roundg q'
                    case measure => have := HGQ.out; omega
                    case rel => exact ⟨q', .slice (some ⟨g0, 0, none⟩) (fl2.length + 1) cap0, fl2 ++ [k], rfl, by omega, by go_num, (H9.out.1.alloc _).push hgr0 hown0 z10, (H9.out.2.keep ((Below.refl _ _).alloc (Nat.le_refl _) _)).app hgr0 hat0 (by have := H9.out.1.bcl; have := H9.out.1.xl; omega) _, H4.out.2.2.1.push hkne (fun x _ => L4P.push HK.out H4.out.2.2.2 (.inr rfl) x) (by omega), H4.out.2.2.2.nxt HK.out (fun h => nomatch (H8.out.1.mpr h))⟩
                · as_aux_lemma =>
                  have hX2 : X < base := by have := H9.out.1.bcl; have := H9.out.1.xl; omega
                  have HFIN : Hid (∀ b', j * 514 + (len - (q' + 1)) + 1 ≤ b' → ∀ F', FLs F' (fl2 ++ [k]) ne b' (fun x => ∃ i, i < j + 1 ∧ HitB E ne 2 1 (lastR ne) (su i) x)) := fun b' hb' F' => H4.out.2.2.1.push hkne (fun x hx => (hitB_succ HB6.out x).trans (L4P.brk (wv := wv) (Pj := (fun x => ∃ i, i < j ∧ HitB E ne 2 1 (lastR ne) (su i) x)) HK.out H4.out.2.2.2 (H8.out.1.mp rfl) x hx)) hb'
                  cases wv
                  all_goals
                    go_upto_region 32 with (at_builtin; refine wp_app28 _ rfl _ _ rfl base F2 fl2.length (intsN fl2) rfl (H9.out.1.alloc _).own ((k : Int)) _ _ rfl (heap_alloc_new _ _) hfl (H9.out.1.alloc _).hb ?_; intro g0 cap0 W70 hown0 hgr0 hat0 hlt0; obtain ⟨z10, z20⟩ := (H9.out.1.alloc _).at23 hgr0)
                    have H10 : Hid (RC W (W70.setCell ⟨X, 23, none⟩ (.slice (some ⟨g0, 0, none⟩) (fl2.length + 1) cap0)) X base 2 bc mc bf mf (fun _ => 0) (fun _ => 0) (.slice (some ⟨g0, 0, none⟩) (fl2.length + 1) cap0) (fl2 ++ [k]).length (intsN (fl2 ++ [k])) ∧ UBx (W70.setCell ⟨X, 23, none⟩ (.slice (some ⟨g0, 0, none⟩) (fl2.length + 1) cap0)) (.slice (some ⟨g0, 0, none⟩) (fl2.length + 1) cap0) base UB _) := ⟨(H9.out.1.alloc _).push hgr0 hown0 z10, (H9.out.2.keep ((Below.refl _ _).alloc (Nat.le_refl _) _)).app hgr0 hat0 hX2 _⟩
                    obtain ⟨Wz, hWz⟩ : ∃ Wz, W70.setCell ⟨X, 23, none⟩ (.slice (some ⟨g0, 0, none⟩) (fl2.length + 1) cap0) = Wz := ⟨_, rfl⟩
                    rw [hWz] at H10 ⊢
                    clear hWz hgr0 hown0 z10 z20 hat0 hlt0 u3 x23 H9 H8
                    have u0 := H10.out.2.row.cell (o := 0) rfl
                    have u1 := H10.out.2.row.cell (o := 1) rfl
                    have u2 := H10.out.2.row.cell (o := 2) rfl
                    by_cases ho2 : o = 2
                    · obtain rfl : ok = 3 := by have := HOK.out.1; rw [ho2] at this; exact this.symm
                      have e0 := ((HI.out.ev (by show 0 < ne; omega)).rc H10.out.1 HI.out.dX2.1 HI.out.dX2.2.1).e0 k hkne
                      rw [HI.out.t0 k hkne] at e0
                      have s1 := H10.out.1.cell dS HI.out.s1
                      have s3 := H10.out.1.cell dS HI.out.s3
                      simp only at e0 s1 s3
                      have HWF : Hid _ := waitsFor_any Wz.drew X S k 0 none 3 oi 0 s3
                      go_still_tail 22, Yba.mixed
                      go_wp2_with (go_at_call 14; refine Calls.mono HWF.out ?_; rintro e W9 ⟨rfl, hb9⟩)
                      go_roundg (nu - (j + 1))
                      case measure => omega
                      case rel => exact ⟨j + 1, _, fl2 ++ [k], by omega, by go_num, (H10.out.1.drewN 1).keep hb9, HFIN.out _ (by omega) _⟩
                    · obtain rfl : ok = 1 := by have := HOK.out.1; unfold objK at this; rw [if_neg ho2] at this; exact this.symm
                      go_quiet (fail)
                      go_wp2
                      go_roundg (nu - (j + 1))
                      case measure => omega
                      case rel => exact ⟨j + 1, _, fl2 ++ [k], by omega, by go_num, H10.out.1.drewN _, HFIN.out _ (by omega) _⟩
        · as_aux_lemma =>
          have hjn : j = nu := by omega
          subst hjn
          have HFD : Hid (RC W wr X base 2 bc mc bf mf (fun _ => 0) (fun _ => 0) F fl.length (intsN fl) ∧ FLs F fl ne (j * 514) (fun x => ∃ i, i < j ∧ HitB E ne 2 1 (lastR ne) (su i) x)) := H.out
          have hfl : fl.length ≤ 1000000 := by have := H.out.2.len; omega
          clear H
          go_upto_region 34 with fail
          obtain ⟨ao2, cap2, x2'⟩ := HI.out.x2
          have x2 := HFD.out.1.xcell (by decide) (by decide) (by decide) x2'
          have s0 := HFD.out.1.cell dS HI.out.s0
          simp only at x2 s0
          go_quiet (fail)
          have HR9 : Hid (RC W (wr.drewN nq) X base 2 bc mc bf mf (fun _ => 0) (fun _ => 0) F fl.length (intsN fl)) := HFD.out.1.drewN nq
          obtain ⟨W9, hW9⟩ : ∃ W9 : World, wr.drewN nq = W9 := ⟨_, rfl⟩
          rw [hW9] at HR9 ⊢
          clear hW9 x2 x2' s0
          go_upto_if 236 with fail
          go_cut [] (fun wx => ∃ (F : Value) (fl : List Nat), Hid (RC W wx X base 2 bc mc bf mf (fun _ => 0) (fun _ => 0) F fl.length (intsN fl) ∧ FLs F fl ne 300000 (FoundP E ne 2 1 (fun _ => 0) (lastR ne) j su)))
          case first => as_aux_lemma =>
            rcases Nat.eq_zero_or_pos ne with hn0 | hn0
            · have hn0' : ¬ (0 : Int) < (ne : Int) := by omega
              go_wp2
              go_meet
              case rel => exact ⟨F, fl, HR9.out, HFD.out.2.same (fun x hx => by omega) (by omega)⟩
            · have hn0' : (0 : Int) < (ne : Int) := by omega
              obtain ⟨Ln, hLn⟩ : ∃ Ln : Nat, ne = Ln + 1 := ⟨ne - 1, by omega⟩
              have e1 : (ne : Int) - 1 = (Ln : Int) := by omega
              have hLl : Ln < ne := by omega
              have HLn : Hid (ne = Ln + 1) := hLn
              have s0 := HR9.out.cell dS HI.out.s0
              have HEV : Hid _ := (HI.out.ev hn0).rc HR9.out HI.out.dX2.1 HI.out.dX2.2.1
              have HUS : Hid _ := (HI.out.us hn0).rc HR9.out HI.out.dX2.2.2.2.2.1
              have HUO : Hid _ := usesOf_any W9 ⟨X, ge, ce, gc, cc⟩ u ⟨2, ne, t, nth, ck, UU⟩ gu U HEV.out HUS.out Ln hLl
              have HEN : Hid _ := HI.out.en Ln hLl
              simp only at s0 HUO HEN
              clear hLn
              go_upto_region 37 with (go_at_call 15; refine Calls.mono HUO.out ?_; rintro e W8 ⟨ao, c, v, rfl, hao, mm, rfl⟩)
              clear HUO s0
              obtain ⟨Wb, hWb⟩ : ∃ Wb : World, W9.drewN mm = Wb := ⟨_, rfl⟩
              have HB : Hid (RC W Wb X base 2 bc mc bf mf (fun _ => 0) (fun _ => 0) F fl.length (intsN fl) ∧ EvR Wb ⟨X, ge, ce, gc, cc⟩ ⟨2, ne, t, nth, ck, UU⟩ ∧ UseR Wb ⟨X, ge, ce, gc, cc⟩ u ⟨2, ne, t, nth, ck, UU⟩ gu U) := by
                rw [← hWb]
                exact ⟨HR9.out.drewN mm, HEV.out.drewN mm, (HI.out.us hn0).rc (HR9.out.drewN mm) HI.out.dX2.2.2.2.2.1⟩
              rw [hWb]
              clear hWb HEV HUS
              have x2 := HB.out.2.1.x2
              have ee := HB.out.2.1.e0 Ln hLl
              rw [HI.out.t0 Ln hLl] at ee
              have s1 := HB.out.1.cell dS HI.out.s1
              simp only at x2 ee s1
              have hu1 := HB.out.2.2.tot (Ln + 1) (by show Ln + 1 ≤ ne; omega)
              have hu2 := HB.out.2.2.small
              simp only at hu1 hu2
              obtain ⟨nn, hnn⟩ : ∃ nn, UU (Ln + 1) - UU Ln = nn := ⟨_, rfl⟩
              rw [hnn] at hao ⊢
              have HCE : Hid _ := containsEnd_any Wb.drew ao gu (UU Ln * 4) nn c (fun jj => U (UU Ln + jj)) hao (by omega) (fun jj hjj => by
                have := HB.out.2.2.us (UU Ln + jj) (by show _ < UU ne; omega)
                rw [show 0 + (UU Ln + jj) * 4 = UU Ln * 4 + jj * 4 by omega] at this
                exact this)
              have HR : Hid (∀ r : Bool, (r = true ↔ ∃ jj, jj < nn ∧ (U (UU Ln + jj)).k = 7) → (r = true ↔ E.en Ln = true)) := by
                intro r hr
                rw [hr, ← HEN.out]
                constructor
                · rintro ⟨jj, h1, h2⟩; exact ⟨UU Ln + jj, by omega, by omega, h2⟩
                · rintro ⟨jj, h1, h2, h3⟩; exact ⟨jj - UU Ln, by omega, by rw [show UU Ln + (jj - UU Ln) = jj by omega]; exact h3⟩
              clear hao hnn hu1 hu2
              go_still_tail 16, Yba.mixed
              go_upto_if 265 with (go_at_call 16; refine Calls.mono HCE.out ?_; rintro e Wd ⟨r, rfl, hr, hbd⟩; have HRD : Hid ((r = true ↔ E.en Ln = true) ∧ RC W Wd X base 2 bc mc bf mf (fun _ => 0) (fun _ => 0) F fl.length (intsN fl)) := ⟨HR.out r hr, (HB.out.1.drewN 1).keep hbd⟩; clear hr hbd)
              clear x2 ee s1 HCE HB
              cases r
              · go_wp2
                go_meet
                case rel =>
                  refine ⟨F, fl, HRD.out.2, HFD.out.2.same (fun x hx => ?_) (by omega)⟩
                  constructor
                  · rintro (h | ⟨h1, h2, _⟩)
                    · exact h
                    · obtain rfl : x = Ln := by have := HLn.out; omega
                      exact nomatch (HRD.out.1.mpr h2)
                  · intro h; exact .inl h
              · have x23 := HRD.out.2.x23
                have hwk : IntKind.i32.wrap (Ln : Int) = (Ln : Int) := by rw [IntKind.wrap_i32]; omega
                go_wp2_with (at_builtin; refine wp_app28 _ rfl _ _ rfl base F fl.length (intsN fl) rfl (HRD.out.2.alloc _).own ((Ln : Int)) _ _ rfl (heap_alloc_new _ _) hfl (HRD.out.2.alloc _).hb ?_; intro g0 cap0 W70 hown0 hgr0 hat0 hlt0; obtain ⟨z10, z20⟩ := (HRD.out.2.alloc _).at23 hgr0)
                go_meet
                case rel =>
                  refine ⟨.slice (some ⟨g0, 0, none⟩) (fl.length + 1) cap0, fl ++ [Ln], (HRD.out.2.alloc _).push hgr0 hown0 z10, HFD.out.2.push hLl (fun x hx => ?_) (by omega)⟩
                  constructor
                  · rintro (h | ⟨h1, h2, _⟩)
                    · exact .inr h
                    · exact .inl (by have := HLn.out; omega)
                  · rintro (h | h)
                    · exact .inr ⟨by rw [h]; exact HLn.out.symm, by rw [h]; first | exact HRD.out.1.mp trivial | exact HRD.out.1.mp rfl, by show (0 : Nat) ≠ 1; decide⟩
                    · exact .inl h
          case rest => 
            obtain ⟨F2, fl2, hcut⟩ := hcut
            have HS : Hid (RC W wc X base 2 bc mc bf mf (fun _ => 0) (fun _ => 0) F2 fl2.length (intsN fl2) ∧ FLs F2 fl2 ne 300000 (FoundP E ne 2 1 (fun _ => 0) (lastR ne) j su)) := hcut.out
            clear hcut HR9 HFD hfl
            by_cases hnil : fl2 = []
            · as_aux_lemma =>
              obtain rfl := HS.out.2.nil hnil
              subst hnil
              have HS1 : Hid (RC W wc X base 2 bc mc bf mf (fun _ => 0) (fun _ => 0) (.slice none 0 0) 0 []) := HS.out.1
              have HNO : Hid (∀ x, x < ne → ¬ (FoundP E ne 2 1 (fun _ => 0) (lastR ne) j su) x) := fun x hx h => by have := (HS.out.2.mem x hx).mpr h; simp at this
              have x23 := HS1.out.x23
              have f23 := HS1.out.fz 23
              clear HS
              go_wp2_with (first
                | (go_at_call 18; refine Calls.mono (sort_nil _) ?_; rintro e W8 ⟨rfl, hw8⟩; rw [hw8]; clear hw8 W8)
                | (go_at_call 19; refine Calls.mono (compact_nil _) ?_; rintro e W8 ⟨rfl, hw8⟩; rw [hw8]; clear hw8 W8))
              obtain ⟨We, hWe⟩ : ∃ We, wc.setCell ⟨X, 23, none⟩ (.slice none 0 0) = We := ⟨_, rfl⟩
              have HS2 : Hid (RC W We X base 2 bc mc bf mf (fun _ => 0) (fun _ => 0) (.slice none 0 0) 0 []) := by
                rw [← hWe]; exact HS1.out.row ⟨rfl, rfl, rfl, Nat.le_refl _, fun _ _ _ => rfl⟩ ⟨rfl, .inl ⟨rfl, rfl⟩⟩ HS1.out.x23
              rw [hWe]
              clear hWe x23 f23 HS1
              go_loopg [22] 0 (fun g v wx => v = .int .i64 (-1) ∧ wx = We)
              case atStart => exact ⟨rfl, rfl⟩
              case round =>
                obtain ⟨rfl, rfl⟩ := hrel
                have x21 := HS2.out.x21
                go_wp2
                go_ret
                refine (show RacesPost W X gp ne run (FoundP E ne 2 1 (fun _ => 0) (lastR ne) j su) _ _ from ⟨bf, mf, -1, rfl, .inl ⟨rfl, HNO.out⟩, ?_⟩)
                have hf := HS2.out.rf.cells.1
                exact ⟨HS2.out.os, HS2.out.tape, HS2.out.output, HS2.out.size, fun k h1 h2 _ => HS2.out.blk k h1 h2, HS2.out.xc 1 (by decide) (by decide) (by decide), hf 0 (by decide), hf 1 (by decide), fun k hk _ => HS2.out.cell HI.out.dX2.2.2.1 (HI.out.n8 k hk), fun k hk h _ => by omega⟩
            · as_aux_lemma =>
              obtain ⟨g, cap, cur, rfl, hgb, hgh, hgc, hgm, hgs, hgt⟩ : ∃ g cap cur, F2 = .slice (some ⟨g, 0, none⟩) fl2.length cap ∧ base ≤ g ∧ wc.heap[g]? = some (.cells cur 21 (0, 0)) ∧ fl2.length ≤ cap ∧ cap ≤ maxLen ∧ cur.size = cap * 1 ∧ cur.toList.take (fl2.length * 1) = intsN fl2 := by
                rcases HS.out.1.own.2 with ⟨_, h⟩ | ⟨g, cap, cur, h⟩
                · exact absurd (List.eq_nil_of_length_eq_zero h) hnil
                · exact ⟨g, cap, cur, h⟩
              have hn1 : 1 ≤ fl2.length := by rcases Nat.eq_zero_or_pos fl2.length with h | h; exact absurd (List.eq_nil_of_length_eq_zero h) hnil; exact h
              have hn2 := HS.out.2.len
              obtain ⟨n, hn⟩ : ∃ n, fl2.length = n := ⟨_, rfl⟩
              have HSA : Hid (SA wc wc g 0 cap (fl2.map (fun k : Nat => (k : Int))).toArray) := by
                refine ⟨⟨cur, hgh, by omega, by simp; omega, fun t ht => ?_⟩, Fr.refl _ _, (HS.out.1.far (b := g) rfl).2.1⟩
                have ht' : t < fl2.length := by simpa using ht
                have h1 : (cur.toList.take (fl2.length * 1))[t]? = some (.int .i32 ((fl2[t] : Nat) : Int)) := by rw [hgt]; simp [intsN, ht']
                rw [Nat.mul_one, List.getElem?_take_of_lt ht'] at h1
                rw [Nat.zero_add]
                simp only [Array.getElem?_toList] at h1
                rw [h1]
                simp [ht']
              have HSO : Hid (Calls Yba.prog 18 #[sl g 0 n cap] wc fun e W' => e = .returned (.tuple #[]) ∧ Sorted wc W' g 0 cap 0 n (fl2.map (fun k : Nat => (k : Int))).toArray) := by
                have := sort_any wc g 0 cap cap _ (by simp; omega) HSA.out
                rw [show ((fl2.map (fun k : Nat => (k : Int))).toArray).size = n by simp; exact hn] at this
                exact this
              have HRN : Hid (RC W wc X base 2 bc mc bf mf (fun _ => 0) (fun _ => 0) (sl g 0 n cap) n (intsN fl2)) := by rw [← hn]; exact HS.out.1
              rw [hn] at hn1 hgc hn2
              have HFL : Hid (fl2.length = n ∧ FLs (.slice (some ⟨g, 0, none⟩) fl2.length cap) fl2 ne 300000 (FoundP E ne 2 1 (fun _ => 0) (lastR ne) j su)) := ⟨hn, HS.out.2⟩
              have x23 := HRN.out.x23
              clear HS hn hgt hgs hgh HSA hnil hgb
              go_upto_region 40 with (go_at_call 18; refine Calls.mono HSO.out ?_; rintro e W8 ⟨rfl, hso⟩)
              obtain ⟨d', hpm, hsr, hsa⟩ := hso
              obtain ⟨xs8, h8⟩ := HRN.out.row0 hsa.2.1 (by have := hsa.1; rw [show d'.size = n by have := hpm.1; simp at this; rw [this]; exact HFL.out.1] at this; exact this)
              have HR8 : Hid (RC W W8 X base 2 bc mc bf mf (fun _ => 0) (fun _ => 0) (sl g 0 n cap) n xs8) := h8
              have HRG8 : Hid (RowG W8 g 0 cap n (fun t => d'[t]!)) := by have := hsa.1; rw [show d'.size = n by have := hpm.1; simp at this; rw [this]; exact HFL.out.1] at this; exact this
              have HMAX : Hid (∀ G : Nat → Int, ∀ n', 1 ≤ n' → SameUp n' n G (fun t => d'[t]!) → ∃ K : Nat, G (n' - 1) = (K : Int) ∧ K < ne ∧ (FoundP E ne 2 1 (fun _ => 0) (lastR ne) j su) K ∧ (∀ x, x < ne → (FoundP E ne 2 1 (fun _ => 0) (lastR ne) j su) x → x ≤ K) ∧ ∀ jj, jj < n' → ∃ k : Nat, G jj = (k : Int) ∧ k ≤ K) := fun G n' h1 hsu => sorted_max hpm hsr HFL.out.1 HFL.out.2 hn1 h1 hsu
              clear h8 hsa hpm hsr HSO HRN x23
              have x23 := HR8.out.x23
              have HCO : Hid _ := compact_any W8 g cap n cap (fun t => d'[t]!) HRG8.out hn1 (by omega) hgc (by unfold maxLen at hgm; omega)
              go_upto_region 41 with (go_at_call 19; refine Calls.mono HCO.out ?_; rintro e Wc ⟨n', G, rfl, hn1', hn2', hsu, hrg, hfr⟩; have HRC : Hid (RowG Wc g 0 cap n' G ∧ Fr W8 Wc g ∧ SameUp n' n G (fun t => d'[t]!)) := ⟨hrg, hfr, hsu⟩; have z1 := (HR8.out.at23 (fr_grown hfr)).1; have z2 := (HR8.out.at23 (fr_grown hfr)).2; clear hrg hfr hsu)
              obtain ⟨K, hK1, hK2, hK3, hK4, hK5⟩ := HMAX.out G n' hn1' HRC.out.2.2
              obtain ⟨xs9, h9a, h9b⟩ := HR8.out.row1 HRC.out.2.1 HRC.out.1 hn2'
              obtain ⟨We, hWe⟩ : ∃ We, Wc.setCell ⟨X, 23, none⟩ (sl g 0 n' cap) = We := ⟨_, rfl⟩
              rw [hWe] at h9a h9b ⊢
              have HA : Hid (RC W We X base 2 bc mc bf mf (fun _ => 0) (fun _ => 0) (sl g 0 n' cap) n' xs9 ∧ RowG We g 0 cap n' G) := ⟨h9a, h9b⟩
              have HKK : Hid (G (n' - 1) = (K : Int) ∧ (FoundP E ne 2 1 (fun _ => 0) (lastR ne) j su) K ∧ (∀ x, x < ne → (FoundP E ne 2 1 (fun _ => 0) (lastR ne) j su) x → x ≤ K) ∧ ∀ jj, jj < n' → ∃ k : Nat, G jj = (k : Int) ∧ k ≤ K) := ⟨hK1, hK3, hK4, hK5⟩
              have hn5 : n' ≤ 300000 := by omega
              have y23 := HA.out.1.x23
              clear hWe h9a h9b HMAX HRC HR8 HCO HRG8 hK1 hK3 hK4 hK5 z1 z2 x23 HFL
              go_wp2
              clear y23
              go_loopg [22] n' (fun g' v wx => ∃ jj : Nat, g' = jj ∧ jj ≤ n' ∧ v = .int .i64 ((jj : Int) - 1) ∧ Hid ((jj = n' ∧ wx = We) ∨ (jj < n' ∧ RE W wx X gp K bc mc bf mf g cap n' cap (fun t => max 0 (ck (K * 2 + t))) (fun t => max 0 (ck (K * 2 + t))) G (run K))))
              case atStart => exact ⟨n', rfl, Nat.le_refl _, rfl, .inl ⟨rfl, rfl⟩⟩
              case round =>
                obtain ⟨jj, hgq, hjj, rfl, H5⟩ := hrel
                have HGQ : Hid (gk = jj) := hgq
                clear hgq
                have h0ne : 0 < ne := by omega
                rcases H5.out with ⟨hjn, hw⟩ | ⟨hlt, hRE⟩
                · as_aux_lemma =>
                  clear H5
                  subst hw
                  obtain ⟨j', hj'⟩ : ∃ j', jj = j' + 1 := ⟨jj - 1, by omega⟩
                  have ek : (jj : Int) - 1 = (j' : Int) := by omega
                  rw [ek]
                  have hGK : G j' = (K : Int) := by have := HKK.out.1; rw [show n' - 1 = j' by omega] at this; exact this
                  have hjb : j' < n' := by omega
                  have HJJ : Hid (gk = j' + 1) := by show _ = _; have := HGQ.out; omega
                  clear ek hjn hj' hjj HGQ
                  have gk0 := HA.out.2.cells.1 j' (by omega)
                  rw [hGK, Nat.zero_add] at gk0
                  have x23 := HA.out.1.x23
                  have x20 := HA.out.1.x20
                  have s3 := HA.out.1.cell dS HI.out.s3
                  try simp only at s3
                  have HEV : Hid _ := (HI.out.ev h0ne).rc HA.out.1 HI.out.dX2.1 HI.out.dX2.2.1
                  have HFO : Hid _ := follows_any wr ⟨X, ge, ce, gc, cc⟩ ⟨2, ne, t, nth, ck, UU⟩ HEV.out K hK2 bc 0 mc (fun _ => 0) (fun t ht => HA.out.1.rc.cells.1 t ht)
                  have hd : decide (nth K ≤ 0) = false := by
                    rw [decide_eq_false_iff_not]; have := HI.out.nth K hK2; (try simp only at this); rw [this]; omega
                  try simp only at HFO
                  rw [hd] at HFO
                  have HRV : Hid (∀ mm, Calls Yba.prog 22 #[pt X, .int .i64 (K : Int), pt S] (wr.drewN mm) fun e W' => e = .returned (.tuple #[]) ∧ RvOut (wr.drewN mm) W' X gp K (run K)) := fun mm => by
                    have hA := HA.out.1.drewN mm
                    exact rev_any (wr.drewN mm) ⟨X, ge, ce, gc, cc⟩ ⟨2, ne, t, nth, ck, UU⟩ S K gp cp gr cr bf mf R run ⟨(HI.out.ev h0ne).rc hA HI.out.dX2.1 HI.out.dX2.2.1, rfl, HI.out.t0, HI.out.nth, HI.out.ck0, (HI.out.pa h0ne).rc hA HI.out.dX2.2.2.1 HI.out.dX2.2.2.2.1, hK2, hA.cell HI.out.dX.2.2.1 HI.out.s0, hA.cell HI.out.dX.2.2.1 HI.out.s1, hA.x21,
                      hA.xcell (by decide) (by decide) (by decide) HI.out.x22, hA.xcell (by decide) (by decide) (by decide) HI.out.x27, hA.fz, hA.cell HI.out.dX2.2.2.1 (HI.out.n0 K hK2), hA.cell HI.out.dX2.2.2.1 (HI.out.n7 K hK2), hA.cell HI.out.dX2.2.2.1 (HI.out.n8 K hK2), (World.frozen?_of_block (hA.blk gp (cell_lt (HI.out.n8 K hK2)) HI.out.dX2.2.2.1)).trans (HI.out.f8 K hK2), HI.out.dX2.1, HI.out.dX2.2.1, HI.out.dX.2.2.1, HI.out.dX2.2.2.1, HI.out.dX2.2.2.2.1, HI.out.dX2.2.2.2.2.2⟩
                  go_upto_region 47 with (first
                    | (go_at_call 20; refine Calls.mono HFO.out ?_; rintro e W6 ⟨rfl, mm, rfl⟩)
                    | (go_at_call 21; refine Calls.mono (reversible_any _ X S K 0 none s3) ?_; rintro e W6 ⟨rfl, hw6⟩; rw [hw6]; clear hw6 W6)
                    | (go_at_call 22; refine Calls.mono (HRV.out _) ?_; rintro e Wf ⟨rfl, hrv⟩; have HE : Hid (RE W Wf X gp K bc mc bf mf g cap n' cap (fun _ => 0) (fun _ => 0) G (run K)) := RE.start (HA.out.1.drewN _) HA.out.2 hrv (cell_lt (HI.out.n8 K hK2)) HI.out.dX2.2.2.1; clear hrv))
                  clear HRV HFO HEV gk0 x23 x20 s3
                  have x20 := HE.out.x20
                  obtain ⟨p1, p2, p3, p4, p5, p6, p7, p8⟩ := HE.out.pl
                  have HEV1 : Hid (EvR Wf ⟨X, ge, ce, gc, cc⟩ ⟨2, ne, t, nth, ck, UU⟩) := (HI.out.ev h0ne).re HE.out HI.out.dX2.1 HI.out.dX2.2.1 HI.out.dX3.1 HI.out.dX3.2
                  have gel := cell_lt ((HI.out.ev h0ne).e0 K hK2)
                  have gcl := cell_lt ((HI.out.ev h0ne).cl (K * 2) (by show K * 2 < ne * 2; omega))
                  try simp only at gel gcl
                  have HJ1 : Hid _ := join_any Wf ⟨X, ge, ce, gc, cc⟩ ⟨2, ne, t, nth, ck, UU⟩ HEV1.out K hK2 bc mc mc (fun _ => 0) HE.out.rc (by show X ≠ bc; omega) (by show ge ≠ bc; omega) (by show gc ≠ bc; omega)
                  try simp only at HJ1
                  go_upto_region 48 with (go_at_call 12; refine Calls.mono HJ1.out ?_; rintro e Wg ⟨rfl, hr1, hf1⟩; have HE2 : Hid (RE W Wg X gp K bc mc bf mf g cap n' cap (fun t => max 0 (ck (K * 2 + t))) (fun _ => 0) G (run K)) := HE.out.fr hf1 (.inl rfl) hr1 (HE.out.rf.same (hf1.2.2.2.2 bf (by obtain ⟨C, c1, _⟩ := HE.out.rf; exact (Array.getElem?_eq_some_iff.1 c1).1) (by omega))); clear hr1 hf1)
                  clear HJ1 x20 HEV1
                  have x21 := HE2.out.x21
                  have HEV2 : Hid (EvR Wg ⟨X, ge, ce, gc, cc⟩ ⟨2, ne, t, nth, ck, UU⟩) := (HI.out.ev h0ne).re HE2.out HI.out.dX2.1 HI.out.dX2.2.1 HI.out.dX3.1 HI.out.dX3.2
                  have HJ2 : Hid _ := join_any Wg ⟨X, ge, ce, gc, cc⟩ ⟨2, ne, t, nth, ck, UU⟩ HEV2.out K hK2 bf mf mf (fun _ => 0) HE2.out.rf (by show X ≠ bf; omega) (by show ge ≠ bf; omega) (by show gc ≠ bf; omega)
                  try simp only at HJ2
                  go_wp2_with (go_at_call 12; refine Calls.mono HJ2.out ?_; rintro e Wh ⟨rfl, hr1, hf1⟩; have HE3 : Hid (RE W Wh X gp K bc mc bf mf g cap n' cap (fun t => max 0 (ck (K * 2 + t))) (fun t => max 0 (ck (K * 2 + t))) G (run K)) := HE2.out.fr hf1 (.inr rfl) (HE2.out.rc.same (hf1.2.2.2.2 bc (by obtain ⟨C, c1, _⟩ := HE2.out.rc; exact (Array.getElem?_eq_some_iff.1 c1).1) (by omega))) hr1; clear hr1 hf1)
                  go_roundg j'
                  case measure => have := HJJ.out; omega
                  case rel => exact ⟨j', rfl, by omega, by go_num, .inr ⟨by omega, HE3.out⟩⟩
                · as_aux_lemma =>
                  have HE : Hid (RE W wr X gp K bc mc bf mf g cap n' cap (fun t => max 0 (ck (K * 2 + t))) (fun t => max 0 (ck (K * 2 + t))) G (run K)) := hRE
                  clear H5 hRE
                  have hcK0 := HI.out.ck0 K hK2
                  have hcK1 := HI.out.ck1 K hK2
                  try simp only at hcK0 hcK1
                  cases jj with
                  | zero =>
                    have x21 := HE.out.x21
                    go_wp2
                    go_ret
                    refine (show RacesPost W X gp ne run (FoundP E ne 2 1 (fun _ => 0) (lastR ne) j su) _ _ from ⟨bf, mf, (K : Int), rfl, .inr ⟨K, rfl, hK2, HKK.out.2.1, HKK.out.2.2.1⟩, ?_⟩)
                    have hf := HE.out.rf.cells.1
                    have f0 := hf 0 (by decide)
                    have f1 := hf 1 (by decide)
                    simp only [Nat.add_zero] at f0
                    rw [hcK0, show max (0 : Int) ((K : Int) + 1) = (K : Int) + 1 by omega] at f0
                    rw [hcK1, show max (0 : Int) 0 = 0 by decide] at f1
                    refine ⟨HE.out.os, HE.out.tape, HE.out.output, HE.out.size, HE.out.blk, HE.out.xc 1 (by decide) (by decide) (by decide) (by decide) (by decide), f0, f1, fun k hk hno => ?_, fun k hk hkK hrun => ?_⟩
                    · by_cases e : k = K
                      · subst e
                        refine HE.out.more0 ?_
                        cases hr : run k
                        · rfl
                        · exact absurd ⟨rfl, hr⟩ hno
                      · exact (HE.out.gc _ (by omega)).trans (HI.out.n8 k hk)
                    · obtain rfl : k = K := by omega
                      obtain ⟨q, b, c, m1, m2, m3, _⟩ := HE.out.more1 hrun
                      exact ⟨q, b, c, m1, m2, m3⟩
                  | succ j' =>
                    have ek : ((j' + 1 : Nat) : Int) - 1 = (j' : Int) := by omega
                    rw [ek]
                    clear ek
                    obtain ⟨k, hGk, hkK⟩ := HKK.out.2.2.2 j' (by omega)
                    have hkne : k < ne := by omega
                    have gk0 := HE.out.rg.cells.1 j' (by omega)
                    rw [hGk, Nat.zero_add] at gk0
                    have x23 := HE.out.x23
                    have x20 := HE.out.x20
                    have x21 := HE.out.x21
                    have HEV : Hid (EvR wr ⟨X, ge, ce, gc, cc⟩ ⟨2, ne, t, nth, ck, UU⟩) := (HI.out.ev h0ne).re HE.out HI.out.dX2.1 HI.out.dX2.2.1 HI.out.dX3.1 HI.out.dX3.2
                    have HFO : Hid _ := follows_any wr ⟨X, ge, ce, gc, cc⟩ ⟨2, ne, t, nth, ck, UU⟩ HEV.out k hkne bc 0 mc _ (fun t ht => HE.out.rc.cells.1 t ht)
                    have hd : decide (nth k ≤ max 0 (ck (K * 2 + t k))) = true := by
                      rw [decide_eq_true_iff]
                      have h1 := HI.out.nth k hkne
                      have h2 := HI.out.t0 k hkne
                      try simp only at h1 h2
                      rw [h1, h2, Nat.add_zero, hcK0]; omega
                    try simp only at HFO
                    rw [hd] at HFO
                    have hck0 := HI.out.ck0 k hkne
                    have hck1 := HI.out.ck1 k hkne
                    try simp only at hck0 hck1
                    obtain ⟨p1, p2, p3, p4, p5, p6, p7, p8⟩ := HE.out.pl
                    have gel := cell_lt ((HI.out.ev h0ne).e0 K hK2)
                    have gcl := cell_lt ((HI.out.ev h0ne).cl (K * 2) (by show K * 2 < ne * 2; omega))
                    try simp only at gel gcl
                    have HJ2 : Hid (∀ mm, Calls Yba.prog 12 #[pt X, sl bf 0 2 mf, .int .i64 (k : Int)] (wr.drewN mm) fun e W' => e = .returned (.tuple #[]) ∧ RE W W' X gp K bc mc bf mf g cap n' cap (fun t => max 0 (ck (K * 2 + t))) (fun t => max 0 (ck (K * 2 + t))) G (run K)) := fun mm => by
                      have hE := HE.out.drewN mm
                      refine (join_any (wr.drewN mm) ⟨X, ge, ce, gc, cc⟩ ⟨2, ne, t, nth, ck, UU⟩ (HEV.out.drewN mm) k hkne bf mf mf _ hE.rf (by show X ≠ bf; omega) (by show ge ≠ bf; omega) (by show gc ≠ bf; omega)).mono ?_
                      rintro e W' ⟨h1, h2, h3⟩
                      refine ⟨h1, hE.fr h3 (.inr rfl) (hE.rc.same (h3.2.2.2.2 bc (by obtain ⟨C, c1, _⟩ := hE.rc; exact (Array.getElem?_eq_some_iff.1 c1).1) (by omega))) (h2.congr fun t ht => ?_)⟩
                      match t, ht with
                      | 0, _ => simp only [Nat.add_zero]; rw [hcK0, hck0]; omega
                      | 1, _ => simp only; rw [hcK1, hck1]; decide
                    clear hcK0 hcK1 hck0 hck1
                    go_wp2_with (first
                      | (go_at_call 20; refine Calls.mono HFO.out ?_; rintro e W6 ⟨rfl, mm, rfl⟩)
                      | (go_at_call 12; refine Calls.mono (HJ2.out _) ?_; rintro e Wh ⟨rfl, hE3⟩))
                    go_roundg j'
                    case measure => have := HGQ.out; omega
                    case rel => exact ⟨j', rfl, by omega, by go_num, .inr ⟨by omega, hE3⟩⟩

end Go.Proofs.Ybulkbxvu
