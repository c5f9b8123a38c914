/-
  LawS3712BClock: the walk.
-/
import Derived.Test.YbulkbxvuV0
namespace Go.Proofs.Ybulkbxvu.Ck
open Go.RowKit
set_option linter.unusedVariables false

/-- The row of resuming events, as far as t. -/
structure ResI (W1 W : World) (R N : Nat) (f : Nat → Int) : Prop where
  bel : Below W1.heap.size W1 W
  row : RowP W R 21 (gN N f)
  at' : W1.heap.size = R
theorem ResI.set {W1 W : World} {R N : Nat} {f f' : Nat → Int} (h : ResI W1 W R N f) (t : Nat) (ht : t < N) (v : Int) (hf : ∀ x, f' x = if x = t then v else f x) : ResI W1 (W.setCell ⟨R, t, none⟩ (.int .i32 v)) R N f' := by
  refine ⟨h.bel.setCell (by show W1.heap.size ≤ R; rw [h.at']; exact Nat.le_refl _) _, ?_, h.at'⟩
  have := h.row.set (o := t) (gN_at ht) (.int .i32 v)
  rw [gN_set N f f' t ht v hf] at this
  exact this

set_option maxHeartbeats 100000000 in
set_option maxRecDepth 100000 in
theorem law_walk (W : World) (ea sa : Option Addr) (eb eo ne ec : Nat) (E : EvD) (sb so nu sc : Nat) (su : Nat → Nat) (a s : Nat) (r0 r1 r2 : Int) (ha : a < 256) (hs : s < 256) (hr0 : -32768 ≤ r0 ∧ r0 ≤ 32767) (hr1 : -32768 ≤ r1 ∧ r1 ≤ 32767) (hr2 : -32768 ≤ r2 ∧ r2 ≤ 32767)
    (hE : EvA W eb eo ne E) (hB : ByA W sb so nu su) (hea : 0 < ne → ea = some ⟨eb, eo, none⟩) (hsa : 0 < nu → sa = some ⟨sb, so, none⟩) (hne : ne ≤ 512) (hnu : nu ≤ 512) :
    Calls Yba.prog 3 #[.int .u8 (a : Int), .slice ea ne ec, .int .u8 (s : Int), .slice sa nu sc, .agg #[.int .i16 r0, .int .i16 r1, .int .i16 r2]] W fun e W' => e = .returned (.bool true) ∧ Below W.heap.size W W' := by
  have HE : Hid (EvA W eb eo ne E) := hE
  have HBy : Hid (ByA W sb so nu su) := hB
  have hne' : (ne : Int) ≤ 512 := by omega
  have hnu' : (nu : Int) ≤ 512 := by omega
  clear hE hB
  obtain ⟨m3, hm3⟩ : ∃ m3, a % 3 = m3 := ⟨_, rfl⟩
  have e3 : (a : Int).tmod 3 = (m3 : Int) := by rw [Int.tmod_eq_emod_of_nonneg (by omega)]; omega
  have hm3' : m3 < 3 := by omega
  obtain ⟨N, hN⟩ : ∃ N, 1 + m3 = N := ⟨_, rfl⟩
  have hN1 : 1 ≤ N := by omega
  have hN3 : N ≤ 3 := by omega
  have eN : IntKind.i64.wrap (1 + (m3 : Int)) = (N : Int) := by rw [IntKind.wrap_i64]; omega
  obtain ⟨st, hst⟩ : ∃ st, s % N = st := ⟨_, rfl⟩
  have est : (s : Int).tmod (N : Int) = (st : Int) := by rw [Int.tmod_eq_emod_of_nonneg (by omega), ← hst, Int.natCast_emod]
  have hstN : st < N := by rw [← hst]; exact Nat.mod_lt _ hN1
  have eN0 : ((N : Int) == 0) = false := by rw [beq_eq_false_iff_ne]; omega
  clear hm3 hN hst
  obtain ⟨Wb, hWb⟩ : ∃ Wb, W.alloc (.cells #[.int .i16 r0, .int .i16 r1, .int .i16 r2] 25) = Wb := ⟨_, rfl⟩
  obtain ⟨Q, hQ⟩ : ∃ Q, W.heap.size = Q := ⟨_, rfl⟩
  have HWb : Hid (Below W.heap.size W Wb ∧ ∀ t, t < 3 → Wb.cell? ⟨Q, t, none⟩ = some (.int .i16 (f3 r0 r1 r2 t))) := by
    have hn := heap_alloc_new W (.cells #[.int .i16 r0, .int .i16 r1, .int .i16 r2] 25)
    rw [hWb, hQ] at hn
    refine ⟨by rw [← hWb]; exact (Below.refl _ _).alloc (Nat.le_refl _) _, fun t ht => ?_⟩
    match t, ht with
    | 0, _ | 1, _ | 2, _ => simp only [World.cell?, hn]; rfl
  have HF3 : Hid (∀ t, -32768 ≤ f3 r0 r1 r2 t ∧ f3 r0 r1 r2 t ≤ 32767) := fun t => by
    match t with
    | 0 => exact hr0
    | 1 => exact hr1
    | t + 2 => exact hr2
  have HBD : Hid _ := build_any Wb ea eb eo ne ec E N hN1 hN3 (HE.out.below HWb.out.1) hea hne
  have HEA : Hid (0 < ne → ea = some ⟨eb, eo, none⟩) := hea
  have HSA : Hid (0 < nu → sa = some ⟨sb, so, none⟩) := hsa
  clear hea hsa
  go_enter Yba.func3, Yba.ntmps3
  go_upto_region 3 with fail
  try rw [hWb]
  try rw [hQ]
  clear hWb
  have HQ : Hid (W.heap.size = Q) := hQ
  clear hQ hr0 hr1 hr2
  go_upto_region 6 with (go_at_call 5; refine Calls.mono HBD.out ?_; rintro e W1 ⟨p, vv, rfl, hbs⟩; obtain ⟨base, X, M, T, L, C⟩ := p; have H1 : Hid (BS Wb W1 ⟨base, X, M, T, L, C⟩ E N (Sk E N ne) ne ne ne ne vv vv (fun o => vv (6 + o))) := hbs; clear hbs)
  clear HBD e3 eN
  go_wp2_with (at_make; refine wp_make 28 21 (.int .i32 0) 4 Yba.underlying28 info21 rfl _ rfl _ _ rfl _ N rfl rfl rfl (by omega) (by omega) ?_; intro W2 hC2 hb2)
  obtain ⟨R, hR⟩ : ∃ R, W1.heap.size = R := ⟨_, rfl⟩
  have HR0 : Hid (ResI W1 W2 R N (fun _ => 0)) := by
    obtain ⟨cur, b1, b2, b3⟩ := hC2
    rw [hR] at b1
    refine ⟨hb2, ⟨cur, b1, fun o v h => ?_⟩, hR⟩
    unfold gN at h
    split at h
    · rename_i hlt; injection h with h; rw [← h]; exact b3 o hlt
    · cases h
  rw [hR]
  clear hC2 hb2 hR
  go_loopg [17] N (fun g v wx => ∃ t : Nat, g + t = N ∧ v = .int .i64 (t : Int) ∧ Hid (ResI W1 wx R N (fun x => if x < t then resF ne (f3 r0 r1 r2 x) else 0)))
  case atStart => exact ⟨0, by omega, rfl, by show ResI W1 W2 R N (fun x => if x < 0 then _ else 0); simpa using HR0.out⟩
  case round =>
    clear HR0
    obtain ⟨t, hgt, rfl, H2⟩ := hrel
    by_cases ht : (t : Int) < (N : Int)
    · as_aux_lemma =>
      have rc := H2.out.row.cell (o := t) (gN_at (by omega))
      have rf := H2.out.row.fz t
      rw [if_neg (by omega)] at rc
      have hb : Below Wb.heap.size Wb wr := H1.out.fr.trans (H2.out.bel.mono H1.out.fr.size)
      have q0 := HWb.out.2 t (by omega)
      have qc := (hb.cell (cell_lt q0)).trans q0
      have hQR : Q ≠ R := by have := cell_lt q0; have := H1.out.fr.size; have := H2.out.at'; omega
      obtain ⟨rt, hrt⟩ : ∃ rt, f3 r0 r1 r2 t = rt := ⟨_, rfl⟩
      have hrr := HF3.out t
      rw [hrt] at qc hrr
      have HRT : Hid (f3 r0 r1 r2 t = rt) := hrt
      have ht3 : (t : Int) < 3 := by omega
      clear hb q0 hrt
      rcases Nat.eq_zero_or_pos ne with hn0 | hn0
      · have hn0' : ¬ (0 : Int) < (ne : Int) := by omega
        have HN0 : Hid (ne = 0) := hn0
        clear hn0
        go_wp2
        go_roundg (N - (t + 1))
        case measure => omega
        case rel =>
          refine ⟨t + 1, by omega, by go_num, H2.out.set t (by omega) (-1) (fun x => ?_)⟩
          by_cases e : x = t
          · subst e; rw [if_pos (by omega), if_pos rfl]; unfold resF; rw [HN0.out]; simp
          · rw [if_neg e]
            by_cases e2 : x < t
            · rw [if_pos e2, if_pos (by omega)]
            · rw [if_neg e2, if_neg (by omega)]
      · have hn0' : (0 : Int) < (ne : Int) := by omega
        have w1 : IntKind.i64.wrap rt = rt := by rw [IntKind.wrap_i64]; omega
        have w2 : IntKind.i64.wrap ((ne : Int) + 1) = (ne : Int) + 1 := by rw [IntKind.wrap_i64]; omega
        have w3 : (((ne : Int) + 1) == 0) = false := by rw [beq_eq_false_iff_ne]; omega
        have hcs := tmod_cases ne rt
        have hrg := resF_rng ne rt
        obtain ⟨q, hq⟩ : ∃ q, rt.tmod ((ne : Int) + 1) = q := ⟨_, rfl⟩
        rw [hq] at hcs
        obtain ⟨v, hv⟩ : ∃ v, resF ne rt = v := ⟨_, rfl⟩
        rw [hv] at hcs hrg
        have HV : Hid (resF ne (f3 r0 r1 r2 t) = v) := by show _ = _; rw [HRT.out]; exact hv
        clear hv
        have rel : ResI W1 ((wr.setCell ⟨R, t, none⟩ (.int .i32 (-1))).setCell ⟨R, t, none⟩ (.int .i32 v)) R N (fun x => if x < t + 1 then resF ne (f3 r0 r1 r2 x) else 0) := by
          refine (H2.out.set (f' := fun x => if x = t then -1 else if x < t then resF ne (f3 r0 r1 r2 x) else 0) t (by omega) (-1) (fun x => rfl)).set t (by omega) v (fun x => ?_)
          by_cases e : x = t
          · subst e; rw [if_pos (by omega), if_pos rfl, HV.out]
          · rw [if_neg e, if_neg e]
            by_cases e2 : x < t
            · rw [if_pos e2, if_pos (by omega)]
            · rw [if_neg e2, if_neg (by omega)]
        have HREL : Hid _ := rel
        clear rel
        rcases hcs with ⟨hq0, hq1⟩ | ⟨hq0, hq1⟩
        · have w4 : IntKind.i64.wrap (q + ((ne : Int) + 1)) = q + ((ne : Int) + 1) := by rw [IntKind.wrap_i64]; omega
          have w5 : IntKind.i64.wrap (q + ((ne : Int) + 1) - 1) = v := by rw [IntKind.wrap_i64]; omega
          have w6 : IntKind.i32.wrap v = v := by rw [IntKind.wrap_i32]; omega
          go_wp2
          go_roundg (N - (t + 1))
          case measure => omega
          case rel => exact ⟨t + 1, by omega, by go_num, HREL.out⟩
        · have w5 : IntKind.i64.wrap (q - 1) = v := by rw [IntKind.wrap_i64]; omega
          have w6 : IntKind.i32.wrap v = v := by rw [IntKind.wrap_i32]; omega
          have hq0' : ¬ q < 0 := by omega
          go_wp2
          go_roundg (N - (t + 1))
          case measure => omega
          case rel => exact ⟨t + 1, by omega, by go_num, HREL.out⟩
    · as_aux_lemma =>
      have HRS : Hid (ResI W1 wr R N (fun x => resF ne (f3 r0 r1 r2 x))) := by
        have := H2.out
        refine ⟨this.bel, this.row.mono (fun o v h => ?_), this.at'⟩
        unfold gN at h ⊢
        split at h
        · rename_i hlt
          rw [if_pos hlt]
          show some (Value.int .i32 (if o < t then resF ne (f3 r0 r1 r2 o) else 0)) = _
          rw [if_pos (by omega)]; exact h
        · cases h
      clear H2 hgt
      obtain ⟨rv, hrv⟩ : ∃ rv, resF ne (f3 r0 r1 r2 st) = rv := ⟨_, rfl⟩
      have hrvr : -1 ≤ rv ∧ rv < (ne : Int) := by rw [← hrv]; exact resF_rng _ _
      have HRV : Hid (resF ne (f3 r0 r1 r2 st) = rv) := hrv
      clear hrv
      have hBS : BS Wb wr ⟨base, X, M, T, L, C⟩ E N (Sk E N ne) ne ne ne ne vv vv (fun o => vv (6 + o)) := BI.keep H1.out HRS.out.bel
      have HCL : Hid _ := clone_any wr L N N (fun t => la E N t ne) hN1 hN3 (fun t ht => hBS.pL.cell (gN_at ht))
      have HCR : Hid (∀ W3, Below wr.heap.size wr W3 → _) := fun W3 hb3 => clone_any W3 R N N (fun x => resF ne (f3 r0 r1 r2 x)) hN1 hN3 (fun t ht => by have := HRS.out.row.cell (gN_at (f := fun x => resF ne (f3 r0 r1 r2 x)) ht); exact (hb3.cell (cell_lt this)).trans this)
      have HBS : Hid (BS Wb wr ⟨base, X, M, T, L, C⟩ E N (Sk E N ne) ne ne ne ne vv vv (fun o => vv (6 + o)) ∧ R < wr.heap.size ∧ X < R) := ⟨hBS, HRS.out.row.lt, by have := H1.out.hi.1; have := H1.out.hb; have := HRS.out.at'; simp only at *; omega⟩
      clear hBS
      go_upto_region 18 with (first
        | (go_at_call_of 6 (sl L 0 N N); refine Calls.mono HCL.out ?_; rintro e W3 ⟨lb, lc, rfl, hlb, hl0, hb3⟩; have H3 : Hid (wr.heap.size ≤ lb ∧ (∀ t, t < N → W3.cell? ⟨lb, t, none⟩ = some (.int .i32 (la E N t ne))) ∧ Below wr.heap.size wr W3) := ⟨hlb, hl0, hb3⟩; clear hlb hl0 hb3)
        | (go_at_call_of 6 (Value.slice (some ⟨R, 0, none⟩) N N); refine Calls.mono (HCR.out W3 H3.out.2.2) ?_; rintro e W4 ⟨rb, rc, rfl, hrb, hrr0, hb4⟩; have H4 : Hid (W3.heap.size ≤ rb ∧ (∀ t, t < N → W4.cell? ⟨rb, t, none⟩ = some (.int .i32 (resF ne (f3 r0 r1 r2 t)))) ∧ Below W3.heap.size W3 W4) := ⟨hrb, hrr0, hb4⟩; clear hrb hrr0 hb4))
      clear HCL HCR
      obtain ⟨W5, hW5⟩ : ∃ W5, W4.alloc (.cells #[.pointer none, .bool false, .int .i64 0, .int .i64 0, .int .i64 0, .bool false, .int .i64 0, .slice none 0 0, .slice none 0 0, .int .i64 0, .bool false, .slice none 0 0, .slice none 0 0, .slice none 0 0, sl lb 0 N lc, sl rb 0 N rc, .slice none 0 0] 38) = W5 := ⟨_, rfl⟩
      obtain ⟨RB, hRB⟩ : ∃ RB, W4.heap.size = RB := ⟨_, rfl⟩
      have H5 : Hid (Below wr.heap.size wr W5 ∧ W5.cell? ⟨RB, 14, none⟩ = some (sl lb 0 N lc) ∧ W5.cell? ⟨RB, 15, none⟩ = some (sl rb 0 N rc) ∧ (∀ t, t < N → W5.cell? ⟨lb, t, none⟩ = some (.int .i32 (la E N t ne))) ∧ W5.cell? ⟨rb, st, none⟩ = some (.int .i32 rv) ∧ wr.heap.size ≤ RB ∧ wr.heap.size ≤ lb ∧ wr.heap.size ≤ rb) := by
        have hn := heap_alloc_new W4 (.cells #[.pointer none, .bool false, .int .i64 0, .int .i64 0, .int .i64 0, .bool false, .int .i64 0, .slice none 0 0, .slice none 0 0, .int .i64 0, .bool false, .slice none 0 0, .slice none 0 0, .slice none 0 0, sl lb 0 N lc, sl rb 0 N rc, .slice none 0 0] 38)
        rw [hW5, hRB] at hn
        have b5 : Below W4.heap.size W4 W5 := by rw [← hW5]; exact (Below.refl _ _).alloc (Nat.le_refl _) _
        have b4 := H4.out.2.2
        have b3 := H3.out.2.2
        have s3 := b3.size
        have s4 := b4.size
        have b35 : Below W3.heap.size W3 W5 := b4.trans (b5.mono s4)
        refine ⟨b3.trans (b35.mono s3), by simp only [World.cell?, hn]; rfl, by simp only [World.cell?, hn]; rfl, fun t ht => (b35.cell (cell_lt (H3.out.2.1 t ht))).trans (H3.out.2.1 t ht), ?_, by omega, H3.out.1, by have := H4.out.1; omega⟩
        have := H4.out.2.1 st hstN
        rw [HRV.out] at this
        exact (b5.cell (cell_lt this)).trans this
      rw [hW5, hRB]
      clear hW5 hRB H3 H4
      have HDC : Hid _ := decode_any W5 sa sb so nu sc su (HBy.out.below (HWb.out.1.trans ((H1.out.fr.trans ((HRS.out.bel.trans (H5.out.1.mono HRS.out.bel.size)).mono H1.out.fr.size)).mono HWb.out.1.size))) HSA.out hnu
      go_upto_region 19 with (go_at_call 7; refine Calls.mono HDC.out ?_; rintro e W6 ⟨gs, cs, rfl, hus, hgs, hb6⟩; have H6 : Hid (UsR W6 gs 0 nu (fun j => dec (su j)) ∧ W5.heap.size ≤ gs ∧ Below W5.heap.size W5 W6) := ⟨hus, hgs, hb6⟩; clear hus hgs hb6)
      clear HDC
      obtain ⟨W7, hW7⟩ : ∃ W7, W6.alloc (.cells #[.int .i64 (ne : Int), .int .i64 (st : Int), .slice (some ⟨gs, 0, none⟩) nu cs, .slice none 0 0] 42) = W7 := ⟨_, rfl⟩
      obtain ⟨S, hS⟩ : ∃ S, W6.heap.size = S := ⟨_, rfl⟩
      have H7 : Hid (BS Wb W7 ⟨base, X, M, T, L, C⟩ E N (Sk E N ne) ne ne ne ne vv vv (fun o => vv (6 + o)) ∧ RsIn W7 X ne N RB S lb lc rb rc gs cs nu su st (fun t => la E N t ne) rv ∧ R ≠ X ∧ W7.cell? ⟨R, st, none⟩ = some (.int .i32 rv)) := by
        have b7 : Below W6.heap.size W6 W7 := by rw [← hW7]; exact (Below.refl _ _).alloc (Nat.le_refl _) _
        have hn := heap_alloc_new W6 (.cells #[.int .i64 (ne : Int), .int .i64 (st : Int), .slice (some ⟨gs, 0, none⟩) nu cs, .slice none 0 0] 42)
        rw [hW7, hS] at hn
        have s5 := H5.out.1.size
        have s6 := H6.out.2.2.size
        have b57 : Below W5.heap.size W5 W7 := H6.out.2.2.trans (b7.mono s6)
        have br7 : Below wr.heap.size wr W7 := H5.out.1.trans (b57.mono s5)
        have c5 : ∀ {b o : Nat} {v : Value}, W5.cell? ⟨b, o, none⟩ = some v → W7.cell? ⟨b, o, none⟩ = some v := fun hc => (b57.cell (cell_lt hc)).trans hc
        obtain ⟨a1, a2, a3, a4, a5, a6, a7, a8⟩ := H5.out
        obtain ⟨g1, g2, g3⟩ := HBS.out
        have hg := H6.out.2.1
        refine ⟨BI.keep g1 br7, ⟨by simp only [World.cell?, hn]; rfl, by simp only [World.cell?, hn]; rfl, by simp only [World.cell?, hn]; rfl, by simp only [World.cell?, hn]; rfl, H6.out.1.below b7, c5 a2, c5 a3, fun t ht => c5 (a4 t ht), c5 a5, hrvr, ⟨by omega, by omega, by omega, by omega, by omega⟩⟩, by omega, ?_⟩
        have := HRS.out.row.cell (gN_at (f := fun x => resF ne (f3 r0 r1 r2 x)) hstN)
        rw [HRV.out] at this
        exact (br7.cell (cell_lt this)).trans this
      rw [hW7, hS]
      clear hW7 hS H5 H6 HBS
      obtain ⟨pl, u, q, hRc, eX, eRB, eS⟩ := BS.rcIn H7.out.1 hN1 hN3 hne hnu hstN H7.out.2.1
      have HGP : Hid (q.gp ≠ X ∧ (∀ k, k < ne → W7.cell? ⟨q.gp, k * 9 + 8, none⟩ = some (.pointer none)) ∧ (0 < ne → W7.cell? ⟨X, 1, none⟩ = some (.slice (some ⟨q.gp, 0, none⟩) ne q.cp))) := by
        have h1 := hRc.dX2.2.2.1
        have h2 := hRc.x1
        rw [eX] at h1 h2
        exact ⟨h1, hRc.n8, h2⟩
      have HRC : Hid _ := races_any W7 pl u (DD E N ne) (usAt E ne) q _ E nu su st _ rv hRc
      rw [eX, eRB, eS] at HRC
      obtain ⟨gp, hgq⟩ : ∃ gp, q.gp = gp := ⟨_, rfl⟩
      obtain ⟨cp, hcq⟩ : ∃ cp, q.cp = cp := ⟨_, rfl⟩
      rw [hgq, hcq] at HGP
      clear hRc eX eRB eS hgq hcq
      have HRC2 : Hid (Calls Yba.prog 8 #[pt X, pt RB, pt S] W7 fun e W' => RacesPost W7 X N ne (ckV E N) (AllP st (fun t => la E N t ne) rv (FoundP E ne N st (tt E N) (fun t => la E N t ne) nu su)) e W') := HRC.out
      clear HRC
      go_upto_region 20 with (go_at_call 8; refine Calls.mono HRC2.out ?_; rintro e W8 ⟨bf, cf, fv, rfl, hmx, hro⟩; have H8 : Hid (AfR W W8 X T L R gp cp bf N ne st E fv rv ∧ ∀ t, t < N → MxC ne (AllP st (fun t => la E N t ne) rv (FoundP E ne N st (tt E N) (fun t => la E N t ne) nu su)) (fun k => ckV E N (k * N + t)) (fv t)) := ⟨AfR.of H7.out.1 HWb.out.1 hro H7.out.2.2.1 H7.out.2.2.2 HGP.out.1 HGP.out.2.1 HGP.out.2.2, hmx⟩; clear hmx hro)
      clear HRC2 H7 HGP H1 HRS
      have HFN : Hid _ := found_any W8 ea sa eb eo ne ec E T ne L N N st (tt E N) (fun t => la E N t ne) sb so nu sc su ⟨HE.out.below H8.out.1.bel, HBy.out.below H8.out.1.bel, H8.out.1.tr, H8.out.1.l, fun t _ => la_lt E N t ne, fun k hk => Nat.lt_of_lt_of_le (tt_lt E hN1 k) hN3⟩ HEA.out HSA.out hne hnu hN3 hstN
      go_upto_region 21 with (go_at_call 9; refine Calls.mono HFN.out ?_; rintro e W9 ⟨rfl, hmr, hb9⟩; have H9 : Hid (Below W8.heap.size W8 W9 ∧ MRP W9 W8.heap.size ne (FoundP E ne N st (tt E N) (fun t => la E N t ne) nu su)) := ⟨hb9, hmr⟩; clear hmr hb9)
      clear HFN
      obtain ⟨mb, hmb⟩ : ∃ mb, W8.heap.size = mb := ⟨_, rfl⟩
      have HMB : Hid (W8.heap.size = mb) := hmb
      rw [hmb] at H9 ⊢
      clear hmb
      obtain ⟨ls, hls⟩ : ∃ ls, la E N st ne = ls := ⟨_, rfl⟩
      have hlr : ls < (ne : Int) := by rw [← hls]; exact (la_lt E N st ne).2
      have HLS : Hid (la E N st ne = ls) := hls
      have hst' : (st : Int) < (N : Int) := by omega
      clear hls
      have HC9 : Hid (∀ wx, Below W8.heap.size W8 wx → wx.cell? ⟨L, st, none⟩ = some (.int .i32 ls) ∧ wx.cell? ⟨R, st, none⟩ = some (.int .i32 rv)) := fun wx hb => by
        have h1 := H8.out.1.l st hstN
        rw [HLS.out] at h1
        exact ⟨(hb.cell (cell_lt h1)).trans h1, (hb.cell (cell_lt H8.out.1.r)).trans H8.out.1.r⟩
      have lc9 := (HC9.out W9 (by rw [HMB.out]; exact H9.out.1)).1
      go_upto_if 110 with fail
      go_cut [] (fun wx => Hid (Below mb W8 wx ∧ MRP wx mb ne (fun x => ls = (x : Int) ∨ FoundP E ne N st (tt E N) (fun t => la E N t ne) nu su x)))
      case first => as_aux_lemma =>
        by_cases h0 : 0 ≤ ls
        · obtain ⟨kl, hkl⟩ : ∃ kl : Nat, ls = (kl : Int) := ⟨ls.toNat, by omega⟩
          subst hkl
          have hkn : (kl : Int) < (ne : Int) := hlr
          obtain ⟨mv, m1, m2, m3⟩ := H9.out.2.cells (x := kl) (by omega)
          clear m2
          go_wp2
          go_meet
          case rel => exact ⟨H9.out.1.setCell (Nat.le_refl _) _, H9.out.2.set (i := kl) (by omega) (fun x _ => by constructor <;> (rintro (h | h); exact .inl (by omega); exact .inr h))⟩
        · go_wp2
          go_meet
          case rel => exact ⟨H9.out.1, H9.out.2.congr (fun x _ => by constructor; (rintro (h | h); omega; exact h); exact .inr)⟩
      case rest =>
        have H10 : Hid (Below mb W8 wc ∧ MRP wc mb ne (fun x => ls = (x : Int) ∨ FoundP E ne N st (tt E N) (fun t => la E N t ne) nu su x)) := hcut.out
        clear hcut H9 lc9
        have rc9 := (HC9.out wc (by rw [HMB.out]; exact H10.out.1)).2
        go_upto_if 121 with fail
        go_cut [] (fun wx => Hid (Below mb W8 wx ∧ MRP wx mb ne (AllP st (fun t => la E N t ne) rv (FoundP E ne N st (tt E N) (fun t => la E N t ne) nu su))))
        case first => as_aux_lemma =>
          by_cases h0 : 0 ≤ rv
          · obtain ⟨kl, hkl⟩ : ∃ kl : Nat, rv = (kl : Int) := ⟨rv.toNat, by omega⟩
            subst hkl
            have hkn : (kl : Int) < (ne : Int) := hrvr.2
            obtain ⟨mv, m1, m2, m3⟩ := H10.out.2.cells (x := kl) (by omega)
            clear m2
            go_wp2
            go_meet
            case rel =>
              refine ⟨H10.out.1.setCell (Nat.le_refl _) _, H10.out.2.set (i := kl) (by omega) (fun x _ => ?_)⟩
              unfold AllP
              dsimp only
              rw [HLS.out]
              constructor
              · rintro ((h | h) | h)
                · exact .inr (.inl h)
                · exact .inl (by omega)
                · exact .inr (.inr h)
              · rintro (h | h | h)
                · exact .inl (.inr (by omega))
                · exact .inl (.inl h)
                · exact .inr h
          · go_wp2
            go_meet
            case rel =>
              refine ⟨H10.out.1, H10.out.2.congr (fun x _ => ?_)⟩
              unfold AllP
              dsimp only
              rw [HLS.out]
              constructor
              · rintro ((h | h) | h)
                · exact .inl h
                · omega
                · exact .inr h
              · rintro (h | h)
                · exact .inl (.inl h)
                · exact .inr h
        case rest =>
          have H11 : Hid (Below mb W8 wc ∧ MRP wc mb ne (AllP st (fun t => la E N t ne) rv (FoundP E ne N st (tt E N) (fun t => la E N t ne) nu su))) := hcut.out
          clear hcut H10 rc9 HC9
          have HAF : Hid (AfR W wc X T L R gp cp bf N ne st E fv rv) := H8.out.1.below (by rw [HMB.out]; exact H11.out.1)
          have HMX : Hid (∀ t, t < N → MxC ne (AllP st (fun t => la E N t ne) rv (FoundP E ne N st (tt E N) (fun t => la E N t ne) nu su)) (fun k => E.ck t k) (fv t)) := fun t ht => by
            have := H8.out.2 t ht
            rw [show (fun k => ckV E N (k * N + t)) = (fun k => E.ck t k) by funext k; exact ckV_at E k t ht] at this
            exact this
          clear H8 HMB
          obtain ⟨PP, hPP⟩ : ∃ PP, AllP st (fun t => la E N t ne) rv (FoundP E ne N st (tt E N) (fun t => la E N t ne) nu su) = PP := ⟨_, rfl⟩
          rw [hPP] at H11 HMX
          clear hPP
          have hNN : ((N : Int) != (N : Int)) = false := by simp
          go_wp2
          go_loopg [24] N (fun g v wx => ∃ t : Nat, g + t = N ∧ v = .int .i64 (t : Int) ∧ wx = wc)
          case atStart => exact ⟨0, by omega, rfl, rfl⟩
          case round =>
            obtain ⟨t2, hgt2, rfl, hw⟩ := hrel
            subst hw
            by_cases ht2 : (t2 : Int) < (N : Int)
            · as_aux_lemma =>
              go_wp2
              go_loopg [25, 26] ne (fun g v25 v26 wx => ∃ (k : Nat) (v : Int), g + k = ne ∧ v26 = .int .i64 (k : Int) ∧ v25 = .int .i32 v ∧ wx = wr ∧ Hid (MxC k PP (fun k => E.ck t2 k) v))
              case atStart => exact ⟨0, 0, by omega, rfl, rfl, rfl, MxC.zero _ _⟩
              case round =>
                obtain ⟨k, v, hgk, rfl, rfl, hw2, HM⟩ := hrel
                subst hw2
                by_cases hk : (k : Int) < (ne : Int)
                · obtain ⟨mv, m1, m2, -⟩ := H11.out.2.cells (x := k) (by omega)
                  have HMV : Hid (mv = true ↔ PP k) := m2
                  clear m2
                  cases mv
                  · go_wp2
                    go_roundg (ne - (k + 1))
                    case measure => omega
                    case rel => exact ⟨k + 1, v, by omega, by go_num, rfl, rfl, HM.out.no (fun h => nomatch (HMV.out.mpr h))⟩
                  · obtain rfl := HEA.out (by omega)
                    have e6 := ((HE.out.below HAF.out.bel) k (by omega)).c6 t2 (by omega)
                    obtain ⟨cv, hcv⟩ : ∃ cv, E.ck t2 k = cv := ⟨_, rfl⟩
                    rw [hcv] at e6
                    have HCV : Hid (E.ck t2 k = cv) := hcv
                    clear hcv
                    have ht3 : (t2 : Int) < 3 := by omega
                    by_cases hgt : v < cv
                    · go_wp2
                      go_roundg (ne - (k + 1))
                      case measure => omega
                      case rel => exact ⟨k + 1, cv, by omega, by go_num, rfl, rfl, by have := HM.out.yes (by first | exact HMV.out.mp rfl | exact HMV.out.mp trivial) (by show v < E.ck t2 k; rw [HCV.out]; exact hgt); rw [HCV.out] at this; exact this⟩
                    · go_wp2
                      go_roundg (ne - (k + 1))
                      case measure => omega
                      case rel => exact ⟨k + 1, v, by omega, by go_num, rfl, rfl, HM.out.no (fun _ => by show E.ck t2 k ≤ v; rw [HCV.out]; omega)⟩
                · have hkn : k = ne := by omega
                  have hv : v = fv t2 := by have := HM.out; rw [hkn] at this; exact this.uniq (HMX.out t2 (by omega))
                  have ff := HAF.out.f t2 (by omega)
                  rw [hv]
                  have hvv : (fv t2 != fv t2) = false := by simp
                  clear hkn hv HM
                  go_wp2
                  go_roundg (N - (t2 + 1))
                  case measure => omega
                  case rel => exact ⟨t2 + 1, by omega, by go_num, rfl⟩
            · go_wp2
              go_loopg [27] ne (fun g v wx => ∃ k : Nat, g + k = ne ∧ v = .int .i64 (k : Int) ∧ wx = wr)
              case atStart => exact ⟨0, by omega, rfl, rfl⟩
              case round =>
                obtain ⟨j, hgj, rfl, hw2⟩ := hrel
                subst hw2
                by_cases hj : (j : Int) < (ne : Int)
                · have x1 := HAF.out.x1 (by omega)
                  have n8 := HAF.out.no j (by omega)
                  have hpe : (binOp .neq 51 (.pointer none) (.pointer none)).run Yba.prog wr = .ok (.bool false) wr := by kernel_rfl
                  go_wp2
                  go_roundg (ne - (j + 1))
                  case measure => omega
                  case rel => exact ⟨j + 1, by omega, by go_num, rfl⟩
                · go_wp2
                  go_ret
                  exact ⟨rfl, HAF.out.bel⟩
end Go.Proofs.Ybulkbxvu.Ck
