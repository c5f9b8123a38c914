/-
  reverse, at the law's chain: the walk.
-/
import Derived.Test.YbulkbxvuR7
namespace Go.Proofs.Ybulkbxvu
open Go.RowKit
set_option linter.unusedVariables false

theorem i3x : ∃ i, Yba.prog.info? 3 = some i ∧ i.zero = some (.int .i64 0) ∧ i.size = 1 ∧ i.bytes = 8 := by
  have h : (Yba.prog.info? 3).map (fun i => (i.zero, i.size, i.bytes)) = some (some (.int .i64 0), 1, 8) := by kernel_rfl
  obtain ⟨j, h1, h2⟩ := Option.map_eq_some_iff.mp h
  injection h2 with h2 h3
  injection h3 with h3 h4
  exact ⟨j, h1, h2, h3, h4⟩

theorem cell_alloc2 (w : World) (A B : Obj) (n k : Nat) (v : Value) (hn : w.heap.size + 1 = n) (h : ∀ w' : World, w'.heap[n]? = some B → w'.cell? ⟨n, k, none⟩ = some v) : ((w.alloc A).alloc B).cell? ⟨n, k, none⟩ = some v := by
  subst hn
  refine h _ ?_
  have := heap_alloc_new (w.alloc A) B
  rw [show (w.alloc A).heap.size = w.heap.size + 1 from by show (w.heap.push A).size = _; rw [Array.size_push]] at this
  exact this

theorem PaR.rs {W0 W : World} {X gp cp gr cr ne : Nat} {F I : Value} {R : Nat → Nat} {run : Nat → Bool} (p : PaR W0 X gp cp gr cr ne R run) (h : RS W0 W X F I) (h1 : gp ≠ X) (h2 : gr ≠ X) : PaR W X gp cp gr cr ne R run :=
  ⟨h.xcell (by decide) (by decide) p.x1, h.xcell (by decide) (by decide) p.x7, fun k hk => h.cell h1 (p.n5 k hk), p.step, fun k hk => h.cell h2 (p.r0 k hk), fun k hk hr => h.cell h2 (p.r1 k hk hr), p.tot, p.cap, p.small⟩

theorem runC_any (wr : World) (X gp cp gr cr ne : Nat) (R : Nat → Nat) (run : Nat → Bool) (HPA : PaR wr X gp cp gr cr ne R run) (K : Nat) (hK : K < ne) (m : Nat) :
    Calls Yba.prog 35 #[.slice (some ⟨gr, R K, none⟩) (R (K + 1) - R K) (cr - R K), .int .i32 1] (wr.drewN m) fun e W' => e = .returned (.bool (run K)) ∧ W' = wr.drewN m := by
  have hst := HPA.step K hK
  have hsm1 := HPA.small.1
  have htt := HPA.tot (K + 1) hK
  have hlt : ((R (K + 1) - R K : Nat) : Int) < 1000000 := by omega
  refine (contains32_any (wr.drewN m) (some ⟨gr, R K, none⟩) gr (R K) (R (K + 1) - R K) (cr - R K) (fun t => if t = 0 then 0 else 1) (fun _ => rfl) hlt ?_ 1).mono ?_
  · intro t ht
    show wr.cell? _ = _
    match t, ht with
    | 0, _ => exact HPA.r0 K hK
    | 1, ht => exact HPA.r1 K hK (by rw [hst] at ht; cases hr : run K <;> simp [hr] at ht ⊢)
    | t + 2, ht => exfalso; rw [hst] at ht; split at ht <;> omega
  · rintro e W' ⟨r, rfl, hr, rfl⟩
    refine ⟨?_, rfl⟩
    congr 2
    rw [Bool.eq_iff_iff, hr]
    constructor
    · rintro ⟨j, hj, hj2⟩
      rw [hst] at hj
      by_cases e0 : j = 0
      · simp [e0] at hj2
      · cases hrr : run K
        · rw [hrr] at hj; simp at hj; omega
        · rfl
    · intro hrr
      exact ⟨1, by rw [hst, hrr]; simp, rfl⟩

/-- What reverse leaves. -/
structure RvOut (W W' : World) (X gp K : Nat) (run : Bool) : Prop where
  os : W'.os = W.os
  tape : W'.tape = W.tape
  output : W'.output = W.output
  size : W.heap.size ≤ W'.heap.size
  blk : ∀ k, k < W.heap.size → k ≠ X → k ≠ gp → W'.heap[k]? = W.heap[k]?
  xc : ∀ o, o ≠ 22 → o ≠ 27 → W'.cell? ⟨X, o, none⟩ = W.cell? ⟨X, o, none⟩
  gc : ∀ o, o ≠ K * 9 + 8 → W'.cell? ⟨gp, o, none⟩ = W.cell? ⟨gp, o, none⟩
  more0 : run = false → W'.cell? ⟨gp, K * 9 + 8, none⟩ = some (.pointer none)
  more1 : run = true → ∃ q b c, W'.cell? ⟨gp, K * 9 + 8, none⟩ = some (pt q) ∧ W'.cell? ⟨q, 0, none⟩ = some (.slice (some ⟨b, 0, none⟩) 1 c) ∧ W'.cell? ⟨b, 0, none⟩ = some (.int .i64 1)
theorem RvOut.no {W W' : World} {X gp K : Nat} {F I : Value} (h : RS W W' X F I) (hg : gp ≠ X) (n8 : W.cell? ⟨gp, K * 9 + 8, none⟩ = some (.pointer none)) : RvOut W W' X gp K false :=
  ⟨h.os, h.tape, h.output, h.size, fun k h1 h2 _ => h.blk k h1 h2, h.xc, fun o _ => World.cell?_of_block (h.blk gp (cell_lt n8) hg), fun _ => h.cell hg n8, fun h => nomatch h⟩

/-- After branch() made its box. -/
structure BrO (w w' : World) (gp K : Nat) : Prop where
  os : w'.os = w.os
  tape : w'.tape = w.tape
  output : w'.output = w.output
  size : w'.heap.size = w.heap.size + 1
  blk : ∀ k, k < w.heap.size → k ≠ gp → w'.heap[k]? = w.heap[k]?
  gc : ∀ o, o ≠ K * 9 + 8 → w'.cell? ⟨gp, o, none⟩ = w.cell? ⟨gp, o, none⟩
  g8 : w'.cell? ⟨gp, K * 9 + 8, none⟩ = some (pt w.heap.size)
  q0 : w'.cell? ⟨w.heap.size, 0, none⟩ = some (.slice none 0 0)
  f0 : w'.frozen? ⟨w.heap.size, 0, none⟩ = false
theorem branch_chain (w : World) (gp K m : Nat) (h8 : w.cell? ⟨gp, K * 9 + 8, none⟩ = some (.pointer none)) (f8 : w.frozen? ⟨gp, K * 9 + 8, none⟩ = false) :
    Calls Yba.prog 37 #[.pointer (some ⟨gp, K * 9, none⟩)] (w.drewN m) fun e W' => e = .returned (pt w.heap.size) ∧ BrO w W' gp K := by
  have hl := cell_lt h8
  refine (branchNew_any (w.drewN m) gp (K * 9) h8 f8).mono ?_
  rintro e W' ⟨rfl, rfl⟩
  refine ⟨rfl, ?_⟩
  show BrO w (((w.drewN m).setCell ⟨gp, K * 9 + 8, none⟩ (pt w.heap.size)).alloc (.cells #[.slice none 0 0, .slice none 0 0] 81)) gp K
  have hn := heap_alloc_new ((w.drewN m).setCell ⟨gp, K * 9 + 8, none⟩ (pt w.heap.size)) (.cells #[.slice none 0 0, .slice none 0 0] 81)
  have hsz : ((w.drewN m).setCell ⟨gp, K * 9 + 8, none⟩ (pt w.heap.size)).heap.size = w.heap.size := by simp [World.setCell]
  have hb : Below w.heap.size ((w.drewN m).setCell ⟨gp, K * 9 + 8, none⟩ (pt w.heap.size)) (((w.drewN m).setCell ⟨gp, K * 9 + 8, none⟩ (pt w.heap.size)).alloc (.cells #[.slice none 0 0, .slice none 0 0] 81)) := (Below.refl _ _).alloc (Nat.le_of_eq hsz.symm) _
  rw [hsz] at hn
  refine ⟨rfl, rfl, rfl, ?_, fun k hk hne => ?_, fun o ho => ?_, ?_, ?_, ?_⟩
  · show (Array.push _ _).size = _; rw [Array.size_push, hsz]
  · refine (hb.block k hk).trans ?_
    rw [heap_setCell_other _ _ k _ (by simpa using hne)]; rfl
  · refine (hb.cell hl).trans ?_
    rw [World.cell?_setCell_other _ _ _ _ (by simp)]; rfl
  · exact (hb.cell hl).trans (World.cell?_setCell_same _ _ _ (show (w.drewN m).cell? _ = _ from h8))
  · show World.cell? _ _ = _
    simp only [World.cell?, hn]; rfl
  · show World.frozen? _ _ = _
    simp only [World.frozen?, hn]; rfl
theorem RvOut.yes {W w w' W' : World} {X gp K c : Nat} {F I : Value} (h : RS W w X F I) (hg : gp ≠ X) (n8 : W.cell? ⟨gp, K * 9 + 8, none⟩ = some (.pointer none)) (hb : BrO w w' gp K)
    (o1 : W'.os = w'.os) (o2 : W'.tape = w'.tape) (o3 : W'.output = w'.output) (hs : w'.heap.size ≤ W'.heap.size) (hk : ∀ k, k < w'.heap.size → k ≠ w.heap.size → W'.heap[k]? = w'.heap[k]?)
    (b : Nat) (hq : W'.cell? ⟨w.heap.size, 0, none⟩ = some (.slice (some ⟨b, 0, none⟩) 1 c)) (h1 : W'.cell? ⟨b, 0, none⟩ = some (.int .i64 1)) : RvOut W W' X gp K true := by
  have hl := cell_lt n8
  have hX := cell_lt h.x22
  have e1 := h.size
  have e2 := hb.size
  have hgp : W'.heap[gp]? = w'.heap[gp]? := hk gp (by omega) (by omega)
  have hXb : W'.heap[X]? = w.heap[X]? := (hk X (by omega) (by omega)).trans (hb.blk X (by omega) (Ne.symm hg))
  refine ⟨o1.trans (hb.os.trans h.os), o2.trans (hb.tape.trans h.tape), o3.trans (hb.output.trans h.output), by omega, fun k h1 h2 h3 => ?_, fun o h1 h2 => ?_, fun o ho => ?_, (fun h => nomatch h), fun _ => ⟨_, b, c, ?_, hq, h1⟩⟩
  · exact (hk k (by omega) (by omega)).trans ((hb.blk k (by omega) h3).trans (h.blk k h1 h2))
  · exact (World.cell?_of_block hXb).trans (h.xc o h1 h2)
  · exact (World.cell?_of_block hgp).trans ((hb.gc o ho).trans (World.cell?_of_block (h.blk gp hl hg)))
  · exact (World.cell?_of_block hgp).trans hb.g8

set_option maxHeartbeats 80000000 in
set_option maxRecDepth 100000 in
theorem rev_any (W : World) (p : Pl) (D : Dat) (S K gp cp gr cr bf cf : Nat) (R : Nat → Nat) (run : Nat → Bool) (h : RvIn W p D S K gp cp gr cr bf cf R run) :
    Calls Yba.prog 22 #[pt p.X, .int .i64 (K : Int), pt S] W fun e W' => e = .returned (.tuple #[]) ∧ RvOut W W' p.X gp K (run K) := by
  obtain ⟨X, ge, ce, gc, cc⟩ := p
  obtain ⟨N, ne, t, nth, ck, U⟩ := D
  have hN := h.N2
  simp only at hN
  subst hN
  have HI : Hid (RvIn W ⟨X, ge, ce, gc, cc⟩ ⟨2, ne, t, nth, ck, U⟩ S K gp cp gr cr bf cf R run) := h
  have x2 := h.ev.x2
  have e0 := h.ev.e0 K h.hK
  have e1 := h.ev.e1 K h.hK
  have e2 := h.ev.e2 K h.hK
  have e3 := h.ev.e3 K h.hK
  rw [h.t0 K h.hK] at e0
  rw [h.nth K h.hK] at e1
  have hK := h.hK
  have hne := h.ev.small.1
  have hXl : X < W.heap.size := cell_lt h.ev.x2
  simp only at x2 e0 e1 e2 e3 hK hne
  show Calls Yba.prog 22 #[pt X, .int .i64 (K : Int), pt S] W fun e W' => e = .returned (.tuple #[]) ∧ RvOut W W' X gp K (run K)
  clear h
  obtain ⟨u, hu⟩ : ∃ u, ((K * 2 : Nat) : Int) = u := ⟨_, rfl⟩
  rw [hu] at e2
  clear hu
  go_enter Yba.func22, Yba.ntmps22
  go_upto_region 1 with fail
  have HV1 : Hid (RV W (W.alloc (.cells #[.int .i32 0, .int .i32 ((K : Int) + 1), .int .i32 u, .int .i32 (U K : Int)] 84)) X (.slice none 0 0) (.slice none 0 0) K) :=
    have hn := heap_alloc_new W (.cells #[.int .i32 0, .int .i32 ((K : Int) + 1), .int .i32 u, .int .i32 (U K : Int)] 84)
    ⟨(RS.start HI.out.x22 HI.out.x27).below ((Below.refl _ _).alloc (Nat.le_refl _) _), by show _ < (W.heap.push _).size; rw [Array.size_push]; omega, by simp only [World.cell?, hn]; rfl, by simp only [World.cell?, hn]; rfl⟩
  obtain ⟨W1, hW1⟩ : ∃ W1, W.alloc (.cells #[.int .i32 0, .int .i32 ((K : Int) + 1), .int .i32 u, .int .i32 (U K : Int)] 84) = W1 := ⟨_, rfl⟩
  rw [hW1] at HV1 ⊢
  clear hW1 e0 e1 e2 e3 x2
  go_cut [] (fun wx => ∃ b1 c1, Hid (RV W wx X (sl b1 0 2 c1) (.slice none 0 0) K ∧ W.heap.size ≤ b1 ∧ wx.cell? ⟨b1, 0, none⟩ = some (.int .i32 0) ∧ wx.cell? ⟨b1, 1, none⟩ = some (.int .i32 0)))
  case first => as_aux_lemma =>
    have y22 := HV1.out.1.x22
    have y21 := HV1.out.1.xcell (o := 21) (by decide) (by decide) HI.out.x21
    have HRZ : Hid (Calls Yba.prog 11 #[.slice none 0 0, .int .i64 2] W1.drew fun e W' => ∃ b1 c1, e = .returned (sl b1 0 2 c1) ∧ RV W W' X (.slice none 0 0) (.slice none 0 0) K ∧ W.heap.size ≤ b1 ∧ W'.cell? ⟨b1, 0, none⟩ = some (.int .i32 0) ∧ W'.cell? ⟨b1, 1, none⟩ = some (.int .i32 0) ∧ W'.cell? ⟨X, 22, none⟩ = some (.slice none 0 0) ∧ W'.frozen? ⟨X, 22, none⟩ = false ∧ W'.cell? ⟨X, 21, none⟩ = some (sl bf 0 2 cf)) := by
      refine (resize_nil W1.drew 2 (by decide) (by decide)).mono ?_
      rintro e W' ⟨cap, rfl, hc, hR, hb, hlt⟩
      have hv := RV.below (wx := W1.drew) (HV1.out.drewN 1) hb
      exact ⟨_, cap, rfl, hv, Nat.le_of_lt HV1.out.2.1, hR.cells.1 0 (by decide), hR.cells.1 1 (by decide), hv.1.x22, (hv.1.fz 22).trans (HI.out.fz 22), hv.1.xcell (by decide) (by decide) HI.out.x21⟩
    clear HV1
    go_region_with (go_at_call 11; refine Calls.mono HRZ.out ?_; rintro e W2 ⟨b1, c1, rfl, hv, hb1, z0, z1, y1, y2, y3⟩)
    all_goals
      go_wp2_with fail
      go_meet
      case rel =>
        refine ⟨b1, c1, hv.set22 hXl _, hb1, ?_, ?_⟩
        · rw [World.cell?_setCell_other _ _ _ _ (by simp)]; exact z0
        · rw [World.cell?_setCell_other _ _ _ _ (by simp)]; exact z1
  case rest =>
    obtain ⟨b1, c1, hcut⟩ := hcut
    have HV2 : Hid (RV W wc X (sl b1 0 2 c1) (.slice none 0 0) K ∧ W.heap.size ≤ b1 ∧ wc.cell? ⟨b1, 0, none⟩ = some (.int .i32 0) ∧ wc.cell? ⟨b1, 1, none⟩ = some (.int .i32 0)) := hcut.out
    clear hcut HV1
    have y27 := HV2.out.1.1.x27
    have yf27 := (HV2.out.1.1.fz 27).trans (HI.out.fz 27)
    go_wp2
    have HV3 : Hid (RV W (wc.setCell ⟨X, 27, none⟩ (.slice none 0 0)) X (sl b1 0 2 c1) (.slice none 0 0) K ∧ (wc.setCell ⟨X, 27, none⟩ (.slice none 0 0)).cell? ⟨b1, 0, none⟩ = some (.int .i32 0) ∧ (wc.setCell ⟨X, 27, none⟩ (.slice none 0 0)).cell? ⟨b1, 1, none⟩ = some (.int .i32 0)) :=
      ⟨HV2.out.1.set27 hXl _, by rw [World.cell?_setCell_other _ _ _ _ (by simp)]; exact HV2.out.2.2.1, by rw [World.cell?_setCell_other _ _ _ _ (by simp)]; exact HV2.out.2.2.2⟩
    clear y27 yf27 HV2
    go_loopg [7] ne (fun g v wx => ∃ j : Nat, g + j = ne + K + 1 ∧ K < j ∧ j ≤ ne ∧ v = .int .i64 (j : Int) ∧ Hid (RV W wx X (sl b1 0 2 c1) (.slice none 0 0) K ∧ wx.cell? ⟨b1, 0, none⟩ = some (.int .i32 0) ∧ wx.cell? ⟨b1, 1, none⟩ = some (.int .i32 0)))
    case atStart => exact ⟨K + 1, by omega, by omega, by omega, by go_num, HV3.out⟩
    case round =>
      clear HV3
      obtain ⟨j, hg, hKj, hjn, rfl, H⟩ := hrel
      have ys0 := H.out.1.1.cell HI.out.d3 HI.out.s0
      simp only at ys0
      by_cases hj : (j : Int) < (ne : Int)
      · have HEV := HI.out.ev.rs H.out.1.1 HI.out.d1 HI.out.d2
        have HC : Hid _ := clockOf_any wr ⟨X, ge, ce, gc, cc⟩ ⟨2, ne, t, nth, ck, U⟩ HEV j (by show j < ne; omega)
        have hcl := HEV.cl (j * 2) (by show j * 2 < ne * 2; omega)
        have hck := HI.out.ck j (by show j < ne; omega)
        simp only at hcl hck HC
        rw [hck] at hcl
        obtain ⟨-, b0, b1'⟩ := H.out.1.2
        have HA : Hid (∀ q, Calls Yba.prog 30 #[sl gc (j * 2) 2 (cc - j * 2), .int .i64 0] (wr.drewN q) fun e W' => e = .returned (.int .i32 ((j : Int) + 1)) ∧ W' = wr.drewN q) := fun q => at_any (wr.drewN q) gc (j * 2) 2 (cc - j * 2) 0 _ (by decide) (by decide) hcl
        clear HEV hck hcl
        go_upto_region 7 with (go_at_call 24; refine Calls.mono HC.out ?_; rintro e W2 ⟨rfl, q, rfl⟩)
        have hkj2 : (K : Int) + 1 ≤ (j : Int) + 1 := by omega
        obtain ⟨wq, hwq⟩ : ∃ wq : World, wr.drewN q = wq := ⟨_, rfl⟩
        have HQ : Hid (RV W wq X (sl b1 0 2 c1) (.slice none 0 0) K ∧ wq.cell? ⟨b1, 0, none⟩ = some (.int .i32 0) ∧ wq.cell? ⟨b1, 1, none⟩ = some (.int .i32 0)) := by rw [← hwq]; exact ⟨H.out.1.drewN q, H.out.2⟩
        have HA2 : Hid (∀ m, Calls Yba.prog 30 #[sl gc (j * 2) 2 (cc - j * 2), .int .i64 0] (wq.drewN m) fun e W' => e = .returned (.int .i32 ((j : Int) + 1)) ∧ W' = wq.drewN m) := fun m => by rw [← hwq, World.drewN_drewN]; exact HA.out (q + m)
        rw [hwq]
        clear hwq HC HA H b0 b1' ys0
        obtain ⟨-, b0, b1'⟩ := HQ.out.1.2
        go_quiet ((go_at_call 30; exact Calls.quiet_of_same (HA2.out _)))
        go_wp2
        go_roundg (ne + K + 1 - (j + 1))
        case measure => omega
        case rel => exact ⟨j + 1, by omega, by omega, by omega, by go_num, HQ.out.1.drewN nq, HQ.out.2⟩
      · have yx22 := H.out.1.1.x22
        have yx21 := H.out.1.1.xcell (o := 21) (by decide) (by decide) HI.out.x21
        have z0 := H.out.2.1
        have z1 := H.out.2.2
        have HBG : Hid _ := begins0_any wr X b1 c1 (sl bf 0 2 cf) yx22 z0 z1
        go_upto_if 120 with (go_at_call 32; refine Calls.mono HBG.out ?_; rintro e W2 ⟨rfl, rfl⟩)
        clear HBG
        go_cut [] (fun wx => ∃ gi ci, Hid (RV W wx X (sl b1 0 2 c1) (.slice (some ⟨gi, 0, none⟩) 1 ci) K ∧ W.heap.size < gi ∧ wx.cell? ⟨gi, 0, none⟩ = some (.int .i64 1)))
        case first => as_aux_lemma =>
          have y27 := H.out.1.1.x27
          have yf27 := (H.out.1.1.fz 27).trans (HI.out.fz 27)
          have ys1 := H.out.1.1.cell HI.out.d3 HI.out.s1
          have hXw := cell_lt y27
          have hSw := cell_lt ys1
          have hnc : Builtin.nextslicecap 1 0 * Yba.t3.bytes = 8 := by kernel_rfl
          clear yx22 yx21 z0 z1
          go_wp2
          go_region
          all_goals
            go_wp2
            go_meet
            case rel =>
              exact ⟨_, _, (((H.out.1.set27 hXl _).below ((((Below.refl _ _).alloc (Nat.le_refl _) _).alloc (by simp [World.alloc, World.setCell]) _))).drewN 2), by have := H.out.1.1.size; have := H.out.1.2.1; omega, by
                show World.cell? (World.alloc (World.alloc _ _) _) _ = _
                refine cell_alloc2 _ _ _ _ _ _ (by simp [World.setCell]) fun w' hw' => ?_
                simp [World.cell?, hw', Array.getElem?_append]⟩
        case rest =>
          obtain ⟨gi, ci, hcut⟩ := hcut
          have HV4 : Hid _ := hcut.out
          clear hcut H yx22 yx21 z0 z1
          have z27 := HV4.out.1.1.x27
          have zx1 := HV4.out.1.1.xcell (o := 1) (by decide) (by decide) HI.out.pa.x1
          simp only at zx1
          have hsm := HI.out.pa.small.2
          simp only at hsm
          go_wp2
          clear z27 zx1
          go_loopg [145] 1 (fun g v wx => ∃ i : Nat, g + i = 1 ∧ v = .int .i64 (i : Int) ∧ Hid (RV W wx X (sl b1 0 2 c1) (.slice (some ⟨gi, 0, none⟩) 1 ci) K ∧ W.heap.size < gi ∧ wx.cell? ⟨gi, 0, none⟩ = some (.int .i64 1)))
          case atStart => exact ⟨0, rfl, rfl, HV4.out⟩
          case round =>
            clear HV4
            obtain ⟨i, hg, rfl, HV5⟩ := hrel
            match i, hg with
            | 0, hg =>
              have zg := HV5.out.2.2
              have zn0 := HV5.out.1.1.cell HI.out.d4 HI.out.n0
              have zn7 := HV5.out.1.1.cell HI.out.d4 HI.out.n7
              have zn8 := HV5.out.1.1.cell HI.out.d4 HI.out.n8
              have HTK : Hid _ := taken_any wr gp (K * 9) 1 0 zn0 zn8 false (by rfl) (by decide) (by decide)
              have HAS : Hid _ := asleep_any wr gp (K * 9) 0 1 none zn7
              clear zn0 zn7 zn8
              go_wp2_with first
                | (go_at_call 33; refine Calls.mono HTK.out ?_; rintro e W2 ⟨rfl, rfl⟩)
                | (go_at_call 34; refine Calls.mono HAS.out ?_; rintro e W2 ⟨rfl, rfl⟩)
              go_roundg 0
              case measure => omega
              case rel =>
                have hal : Below W2.heap.size W2 (W2.alloc (.cells #[.int .i64 1] 3)) := (Below.refl _ _).alloc (Nat.le_refl _) _
                exact ⟨1, rfl, rfl, HV5.out.1.below hal, HV5.out.2.1, (hal.cell (cell_lt zg)).trans zg⟩
            | 1, hg =>
              have z27 := HV5.out.1.1.x27
              go_wp2
              clear z27
              go_loopg [163] 1 (fun g v wx => ∃ i : Nat, g + i = 1 ∧ v = .int .i64 (i : Int) ∧ Hid ((i = 1 → run K = false) ∧ RV W wx X (sl b1 0 2 c1) (.slice (some ⟨gi, 0, none⟩) 1 ci) K ∧ W.heap.size < gi ∧ wx.cell? ⟨gi, 0, none⟩ = some (.int .i64 1)))
              case atStart => exact ⟨0, rfl, rfl, (fun h => nomatch h), HV5.out⟩
              case round =>
                clear HV5
                obtain ⟨i, hg, rfl, HV6⟩ := hrel
                match i, hg with
                | 0, hg =>
                  have zg := HV6.out.2.2.2
                  have HPA := HI.out.pa.rs HV6.out.2.1.1 HI.out.d4 HI.out.d5
                  have HRA : Hid _ := runnableAt_any wr X gp cp gr cr ne R run HPA K hK
                  have HCN : Hid _ := runC_any wr X gp cp gr cr ne R run HPA K hK
                  clear HPA
                  have zn8 := HV6.out.2.1.1.cell HI.out.d4 HI.out.n8
                  have zf8 : wr.frozen? ⟨gp, K * 9 + 8, none⟩ = false := by rw [World.frozen?_of_block (HV6.out.2.1.1.blk gp (cell_lt HI.out.n8) HI.out.d4)]; exact HI.out.f8
                  have HB1 : Hid _ := fun m => branch_chain wr gp K m zn8 zf8
                  clear zn8 zf8
                  have hnc : Builtin.nextslicecap 1 0 * Yba.t3.bytes = 8 := by kernel_rfl
                  obtain ⟨r, hr⟩ : ∃ r, run K = r := ⟨_, rfl⟩
                  cases r
                  · have HR : Hid (run K = false) := hr
                    rw [hr] at HCN
                    clear hr
                    go_wp2_with first
                      | (go_at_call 36; refine Calls.mono HRA.out ?_; rintro e W2 ⟨rfl, q, rfl⟩)
                      | (go_at_call 35; refine Calls.mono (HCN.out _) ?_; rintro e W2 ⟨rfl, rfl⟩)
                    go_roundg 0
                    case measure => omega
                    case rel => exact ⟨1, rfl, rfl, fun _ => HR.out, HV6.out.2.1.drewN q, HV6.out.2.2.1, zg⟩
                  · have HR : Hid (run K = true) := hr
                    rw [hr] at HCN
                    clear hr
                    go_wp2_with first
                      | (go_at_call 36; refine Calls.mono HRA.out ?_; rintro e W2 ⟨rfl, q, rfl⟩)
                      | (go_at_call 35; refine Calls.mono (HCN.out _) ?_; rintro e W2 ⟨rfl, rfl⟩)
                      | (go_at_call 37; first
                          | (refine Calls.mono (HB1.out _) ?_; rintro e W3 ⟨rfl, hb⟩; have HB : Hid (BrO wr W3 gp K) := hb; clear hb; have q0 := HB.out.q0; have f0 := HB.out.f0; have hql := cell_lt q0; have HB2 : Hid _ := branchOld_any W3 gp (K * 9) _ HB.out.g8)
                          | (refine Calls.mono HB2.out ?_; rintro e W4 ⟨rfl, hW4⟩; subst hW4))
                    refine bodyPost_ret (v := .tuple #[]) (by simp [results, Yba.results22, go_sem]) rfl ?_
                    refine ⟨rfl, ?_⟩
                    rw [HR.out]
                    have hb4 : ∀ v A B, Below W4.heap.size (W4.setCell ⟨wr.heap.size, 0, none⟩ v) (((W4.setCell ⟨wr.heap.size, 0, none⟩ v).alloc A).alloc B) := fun v A B => ((Below.refl _ _).alloc (by simp [World.setCell]) _).alloc (by simp [World.setCell]) _
                    refine RvOut.yes (c := (Question.appendCap 1 0 3).cut (W4.tape W4.drawn (Question.appendCap 1 0 3))) HV6.out.2.1.1 HI.out.d4 HI.out.n8 HB.out rfl rfl rfl ?_ ?_ (W4.heap.size + 1) ?_ ?_
                    · exact Nat.le_trans (Nat.le_of_eq (by simp [World.setCell])) (hb4 (.slice (some ⟨W4.heap.size + 1, 0, none⟩) 1 ((Question.appendCap 1 0 3).cut (W4.tape W4.drawn (Question.appendCap 1 0 3)))) _ _).size
                    · intro k hk hne
                      exact ((hb4 _ _ _).block k hk).trans (heap_setCell_other _ _ k _ (by simpa using hne))
                    · exact ((hb4 _ _ _).cell hql).trans (World.cell?_setCell_same _ _ _ q0)
                    · refine cell_alloc2 _ _ _ _ _ _ (by simp [World.setCell]) fun w' hw' => ?_
                      simp [World.cell?, hw', Array.getElem?_append]
                | 1, hg =>
                  have HR : Hid (run K = false) := HV6.out.1 rfl
                  go_wp2
                  go_end0
                  refine ⟨rfl, ?_⟩
                  rw [HR.out]
                  exact RvOut.no HV6.out.2.1.1 HI.out.d4 HI.out.n8
                | i + 2, hg => omega
            | i + 2, hg => omega
end Go.Proofs.Ybulkbxvu
