/-
  The walk of sigalg.LawS3702CBuilt where no length is over its bound.
-/
import Derived.Test.YbulkbxqkMid
import Derived.Deep.RegionWith
import Derived.Deep.DeepCutAuto
import Derived.Deep.Light
namespace Go.Proofs.Ybulkbxqk
open Go.RowKit
set_option maxHeartbeats 8000000 in
set_option maxRecDepth 100000 in
theorem built (md a0 a1 : Nat) (ra pa ta sa ea : Option Addr) (rn rc pn pc tn tc sn sc en ec : Nat) (hp : Bool) (pt : Nat) (w : World)
    (h1 : (rn : Int) ≤ 64) (h2 : (pn : Int) ≤ 1024) (h3 : (tn : Int) ≤ 1024) (h4 : (sn : Int) ≤ 1024) (h5 : (en : Int) ≤ 1024)
    (hmd : (md : Int) ≤ 255) (M z r40 rbig A1 V : Nat) (hM : (md : Int) % 5 = (M : Int)) (hz : (a0 : Int) % 3 = (z : Int)) (hz2 : (z : Int) ≤ 2) (hr : (a1 : Int) % 40 = (r40 : Int)) (hrb : (a1 : Int) % 2147483568 = (rbig : Int))
    (HA1 : Hid (A1 = if z < 2 then r40 else rbig)) (hV : (40 * (z : Int) + (A1 : Int)) % 4294967296 = (V : Int)) (hA64 : wrap64 (A1 : Int) = (A1 : Int)) (HZ : Hid (M < 5 ∧ z ≤ 2 ∧ V = 40 * z + A1 ∧ (z < 2 → A1 < 40))) (HV : Hid (V < 2147483648)) (rl : List Nat) (HRL : Hid (Src32 w ra rn rl ∧ ∀ x ∈ rl, x < 4294967296)) (PT : Int) (ptj : Nat) (hptj : (IntKind.i64.wrap (pt : Int)).tmod 4 = (ptj : Int)) (hptj4 : (ptj : Int) < 4) (HPT : Hid (pt % 4 = ptj ∧ [(5 : Int), 2, 48, 4][ptj]? = some PT)) (pl tl sl el : List Int) (HS : Hid (Src1 w pa pn pc (B pl) ∧ Src1 w ta tn tc (B tl) ∧ Src1 w sa sn sc (B sl) ∧ Src1 w ea en ec (B el))) :
    Calls Yba.prog 5 #[.agg #[.int .u8 md, .int .u8 a0, .int .u32 a1, .slice ra rn rc, .bool hp, .int .u8 pt, .slice pa pn pc, .slice ta tn tc, .slice sa sn sc, .slice ea en ec]] w fun e w' => e = .returned (.bool true) ∧ Below w.heap.size w w' := by
  have HLL : Hid (pl.length ≤ 1024 ∧ tl.length ≤ 1024 ∧ sl.length ≤ 1024 ∧ el.length ≤ 1024) := by
    have a1 := HS.out.1.1; have a2 := HS.out.2.1.1; have a3 := HS.out.2.2.1.1; have a4 := HS.out.2.2.2.1
    rw [B_length] at a1 a2 a3 a4
    clear hV hA64 hr hrb hz hM hptj
    exact ⟨by omega, by omega, by omega, by omega⟩
  have HOLn : Hid (∀ k, k ≤ rn → (flat (V :: arcs rl k)).length ≤ 330) := fun k hk => ol_le V rl rn k HV.out h1 hk HRL.out.1.1
  have HC9 : Hid (∀ w, Calls Yba.prog 9 #[.int .u32 V] w fun e w' => Made w (b128 V) e w') := fun w => base128_any V (Nat.lt_of_lt_of_le HV.out (by decide)) w
  go_enter Yba.func5, Yba.ntmps5
  go_upto_if 61 with fail
  go_cut [3, 5] (fun m a wx => m = .int .i64 (M : Int) ∧ a = .int .u32 (A1 : Int) ∧ Box wx w.heap.size #[.int .u8 md, .int .u8 a0, .int .u32 a1, .slice ra rn rc, .bool hp, .int .u8 pt, .slice pa pn pc, .slice ta tn tc, .slice sa sn sc, .slice ea en ec] ∧ Below w.heap.size w wx ∧ w.heap.size < wx.heap.size)
  case first => as_aux_lemma =>
    by_cases hz2 : z < 2
    · go_wp2
      go_meet
      case rel => exact ⟨by rw [← hM], by rw [HA1.out, if_pos hz2, ← hr], fun j v hj => by simpa [go_sem] using hj, (Below.refl _ _).alloc (Nat.le_refl _) _, by simp⟩
    · go_wp2
      go_meet
      case rel => exact ⟨by rw [← hM], by rw [HA1.out, if_neg hz2, ← hrb], fun j v hj => by simpa [go_sem] using hj, (Below.refl _ _).alloc (Nat.le_refl _) _, by simp⟩
  case rest => as_aux_lemma =>
    obtain ⟨rfl, rfl, hbox, hbel0, hsz0⟩ := hcut
    obtain ⟨w0, rfl⟩ : ∃ w0 : World, w0 = wc := ⟨_, rfl⟩
    clear hM hr hrb HA1 hz hmd
    go_wp2_with fail
    refine (HC9.out _).mono ?_
    rintro e w1 ⟨g7, cap7, rfl, hown7, hbel1⟩
    clear hV hA64 HC9 hz2
    have hs1 := hbel1.size
    have hown6 := own_all (own_two w0 z A1 w0.heap.size (Nat.le_refl _)) hbel1
    simp only [World.size_alloc] at hs1 hown7
    have hbox1 := (hbox.below ((Below.refl w0.heap.size w0).alloc (Nat.le_refl _) (.cells #[.int .i64 z, .int .i64 A1] 3)) hsz0).below hbel1 (by rw [World.size_alloc]; exact Nat.lt_succ_of_lt hsz0)
    have hbelw1 : Below w.heap.size w w1 := (hbel0.alloc (Nat.le_of_lt hsz0) _).trans (hbel1.mono (by rw [World.size_alloc]; exact Nat.le_succ_of_le (Nat.le_of_lt hsz0)))
    have HO7 : Hid (w1.ownsRow (w0.heap.size + 1) 5 1 (.slice (some ⟨g7, 0, none⟩) (b128 V).length cap7) (b128 V).length (B (b128 V))) := hown7
    have HO6 : Hid (w1.ownsRow w0.heap.size 3 1 (.slice (some ⟨w0.heap.size, 0, none⟩) 2 2) 2 (I [(z : Int), (A1 : Int)])) := hown6
    have f3 := hbox1 3 _ rfl
    have HBX : Hid (Box w1 w.heap.size #[.int .u8 md, .int .u8 a0, .int .u32 a1, .slice ra rn rc, .bool hp, .int .u8 pt, .slice pa pn pc, .slice ta tn tc, .slice sa sn sc, .slice ea en ec]) := hbox1
    have HBL : Hid (Below w.heap.size w w1) := hbelw1
    clear hown7 hown6 hbox1 hbelw1 hbel1 hbox hbel0
    go_wp2
    go_loopw [6, 7, 81] (fun s6 s7 ix wr => ∃ k gw cw go co : Nat, k ≤ rn ∧ ix = .int .i64 k ∧ s6 = .slice (some ⟨gw, 0, none⟩) (k + 2) cw ∧ s7 = .slice (some ⟨go, 0, none⟩) (flat (V :: arcs rl k)).length co ∧
        wr.ownsRow w0.heap.size 3 1 (.slice (some ⟨gw, 0, none⟩) (k + 2) cw) (k + 2) (I (wants z A1 (arcs rl k))) ∧
        wr.ownsRow (w0.heap.size + 1) 5 1 (.slice (some ⟨go, 0, none⟩) (flat (V :: arcs rl k)).length co) (flat (V :: arcs rl k)).length (B (flat (V :: arcs rl k))) ∧
        Box wr w.heap.size #[.int .u8 md, .int .u8 a0, .int .u32 a1, .slice ra rn rc, .bool hp, .int .u8 pt, .slice pa pn pc, .slice ta tn tc, .slice sa sn sc, .slice ea en ec] ∧ Below w.heap.size w wr ∧ w1.heap.size ≤ wr.heap.size)
      (fun _ _ ix _ => rn - (intOf ix).toNat)
    case atStart => exact ⟨0, w0.heap.size, 2, g7, cap7, Nat.zero_le _, rfl, rfl, by simp [arcs_zero, flat], by simpa [arcs_zero, wants] using HO6.out, by simpa [arcs_zero, flat] using HO7.out, HBX.out, HBL.out, Nat.le_refl _⟩
    case round =>
      clear HO7 HO6 f3 HBX HBL
      obtain ⟨k, gw, cw, go, co, hk, rfl, rfl, rfl, hownw, howno, hboxr, hbelr, hszr⟩ := hrel
      by_cases hlt : (k : Int) < (rn : Int)
      · as_aux_lemma =>
        obtain ⟨rb, roff, x, y, rfl, hcell, e1, e2, HC, HAS, HFL, HBY⟩ := rest_step w wr ra rn rl k HRL.out.1 HRL.out.2 hbelr hlt V HV.out h1
        obtain ⟨hwo, hbw, hbo⟩ := loop_facts hownw howno
        have f3 := hboxr 3 _ rfl
        go_wp2_with (first
          | (at_builtin; refine wp_appIg 31 Yba.underlying31 _ rfl (.tmp 87) (.tmp 90) rfl w0.heap.size gw (k + 2) cw _ rfl (hownw.alloc _) _ _ _ [(y : Int)] rfl (srcI_one _ _) (by go_light; omega) (by rw [World.size_alloc]; exact Nat.le_succ_of_le hbw) ?_; intro g' cap' w2 hg' hownw2 hgrow2)
          | (go_at_call 9; refine (HC.out _).mono ?_; rintro e w3 ⟨g9, cap9, rfl, hown9, hbel3⟩)
          | (at_builtin; refine wp_app28g _ rfl (.tmp 92) (.tmp 94) rfl (w0.heap.size + 1) go _ co _ rfl (own_all (own_kept (howno.alloc _) hgrow2 (fun h => hwo h.symm)) hbel3) _ _ _ (b128 y) rfl (Src1.own hown9 (B_one _)) HBY.out (Nat.le_trans hbo (Nat.le_trans (Nat.le_succ _) (by have h := Nat.le_trans hgrow2.size hbel3.size; rw [World.size_alloc] at h; exact h))) ?_; intro g'' cap'' w4 hg'' howno4 hgrow4))
        have HN := loop_next hownw howno hboxr hbelr hszr hsz0 hownw2 hgrow2 hown9 hbel3 howno4 hgrow4
        go_roundw
        case rel =>
          go_light
          refine ⟨k + 1, g', cap', g'', cap'', by omega, by go_num, rfl, by rw [HFL.out], ?_, ?_, HN.2.1, HN.2.2.1, HN.2.2.2⟩
          · rw [HAS.out, wants_snoc]; exact HN.1
          · rw [← HFL.out, HAS.out, ← List.cons_append, flat_snoc]; exact howno4
        case measure => go_light; simp [intOf]; omega
      · as_aux_lemma =>
        obtain rfl : k = rn := by go_light; omega
        obtain ⟨ol, hol⟩ : ∃ ol, ol = flat (V :: arcs rl k) := ⟨_, rfl⟩
        rw [← hol] at howno ⊢
        have HOL : Hid (ol = flat (V :: arcs rl k)) := hol
        have HOL3 : Hid (ol.length ≤ 330) := by rw [hol]; exact HOLn.out k (Nat.le_refl _)
        clear hol hlt hk
        go_upto_if 98 with fail
        go_cut [11] (fun t wx => t = .int .u8 (tOid M) ∧ wx = wr)
        case first => as_aux_lemma =>
          by_cases h4 : M = 4
          · have h4' : ((M : Int) == 4) = true := by simp [h4]
            go_wp2
            go_meet
            case rel => exact ⟨by simp [tOid, h4], rfl⟩
          · have h4' : ((M : Int) == 4) = false := by simp; omega
            go_wp2
            go_meet
            case rel => exact ⟨by simp [tOid, h4], rfl⟩
        case rest => as_aux_lemma =>
          obtain ⟨rfl, rfl⟩ := hcut
          have HH : Hid (Hand w wc #[.int .u8 md, .int .u8 a0, .int .u32 a1, .slice ra k rc, .bool hp, .int .u8 pt, .slice pa pn pc, .slice ta tn tc, .slice sa sn sc, .slice ea en ec] gw (k + 2) cw (wants z A1 (arcs rl k))) :=
            ⟨own_base hownw (Nat.zero_le _), hboxr, hbelr, Nat.lt_of_lt_of_le hsz0 (Nat.le_trans (own_lt hownw).1 (Nat.le_of_lt (own_lt hownw).2))⟩
          have HCE := celem_any (tOid M) _ _ _ ol wc (Src1.own howno (B_one _)) (Nat.lt_of_le_of_lt HOL3.out (by decide))
          clear hownw hboxr hbelr hszr hsz0 hs1 howno
          go_wp2_with fail
          refine HCE.mono ?_
          rintro e w5 ⟨ga, ca, rfl, howna, hbel5⟩
          have HH5 : Hid (Hand w w5 _ _ _ _ _) := HH.out.all hbel5
          have HOA : Hid (w5.ownsRow 0 5 1 (.slice (some ⟨ga, 0, none⟩) (elem (tOid M) ol).length ca) (elem (tOid M) ol).length (B (elem (tOid M) ol))) := own_base howna (Nat.zero_le _)
          have HGA : Hid (w.heap.size < ga) := Nat.lt_of_lt_of_le HH.out.lt (own_lt howna).1
          have f4 := HH5.out.box 4 _ rfl
          clear HCE HH howna hbel5
          have HL : Hid (_ ∧ _) := lens (tOuter M) (tTbs M) (tAlg M) (tOid M) PT hp ol pl tl sl el HOL3.out HLL.out.1 HLL.out.2.1 HLL.out.2.2.1 HLL.out.2.2.2
          have HLB : Hid ((elem (tOid M) ol).length + (elem PT pl).length ≤ 140737488355328) := by go_light; have h := HL.out; show _ ≤ _; omega
          go_upto_if 103 with fail
          go_cut [12, 13] (fun a p wx => AtAlg w wx #[.int .u8 md, .int .u8 a0, .int .u32 a1, .slice ra k rc, .bool hp, .int .u8 pt, .slice pa pn pc, .slice ta tn tc, .slice sa sn sc, .slice ea en ec] gw (k + 2) cw (wants z A1 (arcs rl k)) hp PT pl (elem (tOid M) ol) a p)
          case first => as_aux_lemma =>
            cases hp with
            | false =>
              go_wp2
              go_meet
              case rel => exact ⟨HH5.out, .inl ⟨rfl, rfl⟩, ga, ca, by simp [pelOf], by simpa [pelOf] using HOA.out⟩
            | true =>
              have f5 := HH5.out.box 5 _ rfl
              have f6 := HH5.out.box 6 _ rfl
              have hl5 := HH5.out.lt
              have hcp := pt_cell w5 pt ptj PT HPT.out.1 HPT.out.2
              have HCP : Hid (Calls Yba.prog 10 #[.int .u8 PT, .slice pa pn pc] (w5.alloc (.cells #[.int .u8 5, .int .u8 2, .int .u8 48, .int .u8 4] 34)).drew fun e w' => ∃ gp cp, e = .returned (.slice (some ⟨gp, 0, none⟩) (elem PT pl).length cp) ∧ w'.ownsRow w5.heap.size 5 1 (.slice (some ⟨gp, 0, none⟩) (elem PT pl).length cp) (elem PT pl).length (B (elem PT pl)) ∧ Below w5.heap.size w5 w') := by
                have hb5 : Below w5.heap.size w5 (w5.alloc (.cells #[.int .u8 5, .int .u8 2, .int .u8 48, .int .u8 4] 34)).drew := ((Below.refl _ _).alloc (Nat.le_refl _) _).drew
                refine (celem_any PT pa pn pc pl _ (HS.out.1.all (HH5.out.bel.trans (hb5.mono (Nat.le_of_lt hl5)))) (by go_light; omega)).mono ?_
                rintro e w' ⟨gp, cp, he, ho, hb⟩
                exact ⟨gp, cp, he, own_base ho (Nat.le_trans hb5.size (own_lt ho).1), hb5.trans (hb.mono hb5.size)⟩
              go_wp2_with fail
              go_region_with (go_at_call 10; refine HCP.out.mono ?_; rintro e w6 ⟨gp, cp, rfl, hownp, hb6⟩)
              all_goals
                go_wp2_with (at_builtin; refine wp_app28g _ rfl (.tmp 114) (.tmp 115) rfl 0 ga _ ca _ rfl (own_all HOA.out hb6) _ _ _ (elem PT pl) rfl (Src1.own hownp (B_one _)) HLB.out (Nat.zero_le _) ?_; intro g7 c7 w7 hg7 hown7 hgrow7)
                go_meet
                case rel => exact at_alg HH5.out HOA.out HGA.out hownp hb6 hown7 hgrow7
          case rest => as_aux_lemma =>
            obtain ⟨w8, rfl⟩ : ∃ w8 : World, w8 = wc := ⟨_, rfl⟩
            obtain ⟨hh, hpel, ga2, ca2, rfl, hoa2⟩ := hcut
            obtain ⟨AL, hAL⟩ : ∃ AL, AL = elem (tOid M) ol ++ pelOf hp PT pl := ⟨_, rfl⟩
            have HL2 : Hid (AL.length ≤ 1362 ∧ (elem (tTbs M) tl).length ≤ 1028 ∧ (elem (tAlg M) AL).length ≤ 1366 ∧ (elem 3 sl).length ≤ 1028 ∧ (elem (tOuter M) (elem (tTbs M) tl ++ elem (tAlg M) AL ++ elem 3 sl)).length ≤ 3426) := by
              rw [hAL]; exact ⟨HL.out.2.2.1, HL.out.2.2.2.1, HL.out.2.2.2.2.1, HL.out.2.2.2.2.2.1, HL.out.2.2.2.2.2.2.2.1⟩
            rw [← hAL] at hoa2 ⊢
            have HAL : Hid (AL = elem (tOid M) ol ++ pelOf hp PT pl) := hAL
            have HHc : Hid (Hand w w8 _ _ _ _ _) := hh
            have HPc : Hid (PelOk w8 hp PT pl _) := hpel
            have HOc : Hid (w8.ownsRow 0 5 1 (.slice (some ⟨ga2, 0, none⟩) AL.length ca2) AL.length (B AL)) := hoa2
            clear hh hpel hoa2 HOA HGA HH5 f4 hAL HL
            go_upto_if 118 with fail
            go_cut [15] (fun t wx => t = .int .u8 (tAlg M) ∧ wx = w8)
            case first => as_aux_lemma =>
              by_cases hm : M = 3
              · have hm' : ((M : Int) == 3) = true := by simp [hm]
                go_wp2
                go_meet
                case rel => exact ⟨by simp [tAlg, hm], rfl⟩
              · have hm' : ((M : Int) == 3) = false := by simp; omega
                go_wp2
                go_meet
                case rel => exact ⟨by simp [tAlg, hm], rfl⟩
            case rest => as_aux_lemma =>
              obtain ⟨rfl, hww⟩ := hcut
              rw [hww]
              clear hww
              go_upto_if 120 with fail
              go_cut [16] (fun t wx => t = .int .u8 (tTbs M) ∧ wx = w8)
              case first => as_aux_lemma =>
                by_cases hm : M = 2
                · have hm' : ((M : Int) == 2) = true := by simp [hm]
                  go_wp2
                  go_meet
                  case rel => exact ⟨by simp [tTbs, hm], rfl⟩
                · have hm' : ((M : Int) == 2) = false := by simp; omega
                  go_wp2
                  go_meet
                  case rel => exact ⟨by simp [tTbs, hm], rfl⟩
              case rest => as_aux_lemma =>
                obtain ⟨rfl, hww⟩ := hcut
                rw [hww]
                clear hww
                go_upto_if 122 with fail
                go_cut [17] (fun t wx => t = .int .u8 (tOuter M) ∧ wx = w8)
                case first => as_aux_lemma =>
                  by_cases hm : M = 1
                  · have hm' : ((M : Int) == 1) = true := by simp [hm]
                    go_wp2
                    go_meet
                    case rel => exact ⟨by simp [tOuter, hm], rfl⟩
                  · have hm' : ((M : Int) == 1) = false := by simp; omega
                    go_wp2
                    go_meet
                    case rel => exact ⟨by simp [tOuter, hm], rfl⟩
                case rest => as_aux_lemma =>
                  obtain ⟨rfl, hww⟩ := hcut
                  rw [hww]
                  clear hww
                  have f7 := HHc.out.box 7 _ rfl
                  have HC1 := celem_any (tTbs M) ta tn tc tl w8 (HS.out.2.1.all HHc.out.bel) (by go_light; omega)
                  go_wp2_with fail
                  refine HC1.mono ?_
                  rintro e w9 ⟨gb, cb, rfl, hownb, hbel9⟩
                  have HC2 := celem_any (tAlg M) _ _ _ AL w9 (Src1.own (own_all HOc.out hbel9) (B_one _)) (Nat.lt_of_le_of_lt HL2.out.1 (by decide))
                  clear HC1 f7
                  go_wp2_with fail
                  refine HC2.mono ?_
                  rintro e w10 ⟨gc, cc, rfl, hownc, hbel10⟩
                  have f8 : Hid (∀ w', Below w8.heap.size w10 w' → w'.cell? ⟨w.heap.size, 8, none⟩ = some (.slice sa sn sc)) := fun w' hb => ((HHc.out.all (hbel9.trans (hbel10.mono hbel9.size))).box.below hb HHc.out.lt) 8 _ rfl
                  have hap1 : Hid ((elem (tTbs M) tl).length + (elem (tAlg M) AL).length ≤ 140737488355328) := by go_light; have h := HL2.out; show _ ≤ _; omega
                  clear HC2
                  go_wp2_with (at_builtin; refine wp_app28 _ rfl (.tmp 127) (.tmp 130) rfl w8.heap.size gb _ cb _ rfl (own_all hownb hbel10) _ _ _ _ rfl (Src1.own hownc (B_one _)) hap1.out (Nat.le_trans hbel9.size hbel10.size) ?_; intro gd cd w11 hgd hownd hbel11; have f8' := f8.out w11 hbel11)
                  have H11 : Hid (Below w8.heap.size w8 w11) := (hbel9.trans (hbel10.mono hbel9.size)).trans hbel11
                  have HC3 := celem_any 3 sa sn sc sl w11 (HS.out.2.2.1.all (HHc.out.bel.trans (H11.out.mono (Nat.le_of_lt HHc.out.lt)))) (by go_light; omega)
                  clear f8 f8' hownb hownc hbel9 hbel10 hbel11 hap1 HOc
                  refine HC3.mono ?_
                  rintro e w12 ⟨ge, ce, rfl, howne, hbel12⟩
                  have hap2 : Hid ((elem (tTbs M) tl).length + (elem (tAlg M) AL).length + (elem 3 sl).length ≤ 140737488355328) := by go_light; have h := HL2.out; show _ ≤ _; omega
                  clear HC3
                  go_wp2_with (at_builtin; refine wp_app28 _ rfl (.tmp 132) (.tmp 135) rfl w8.heap.size gd _ cd _ rfl (own_all hownd hbel12) _ _ _ _ rfl (Src1.own howne (B_one _)) hap2.out (Nat.le_trans H11.out.size hbel12.size) ?_; intro gf cf w13 hgf hownf hbel13)
                  have H13 : Hid (Below w8.heap.size w8 w13) := (H11.out.trans (hbel12.mono H11.out.size)).trans hbel13
                  obtain ⟨BL, hBL⟩ : ∃ BL, BL = elem (tTbs M) tl ++ elem (tAlg M) AL ++ elem 3 sl := ⟨_, rfl⟩
                  have HBL : Hid (BL = elem (tTbs M) tl ++ elem (tAlg M) AL ++ elem 3 sl) := hBL
                  have HL3 : Hid ((elem (tOuter M) BL).length ≤ 3426) := by rw [hBL]; exact HL2.out.2.2.2.2
                  rw [← hBL] at hownf
                  clear hBL
                  have HC4 := celem_any (tOuter M) _ _ _ BL w13 (Src1.own hownf (B_one _)) (by go_light; have h := HL2.out; omega)
                  clear hownd howne hbel12 hbel13 hap2 H11
                  refine HC4.mono ?_
                  rintro e w14 ⟨gg, cg, rfl, howng, hbel14⟩
                  have H14 : Hid (Below w8.heap.size w8 w14) := H13.out.trans (hbel14.mono H13.out.size)
                  have f9 := (HHc.out.all H14.out).box 9 _ rfl
                  have hap3 : Hid ((elem (tOuter M) BL).length + en ≤ 140737488355328) := by go_light; have h := HL3.out; show _ ≤ _; omega
                  have HSe : Hid (Src1 w14 ea en ec (B el)) := HS.out.2.2.2.all (HHc.out.bel.trans (H14.out.mono (Nat.le_of_lt HHc.out.lt)))
                  clear HC4 hownf
                  go_wp2_with (at_builtin; refine wp_app28 _ rfl (.tmp 140) (.tmp 142) rfl w13.heap.size gg _ cg _ rfl howng _ _ _ _ rfl HSe.out hap3.out hbel14.size ?_; intro gh ch w15 hgh hownh hbel15)
                  have HC5 := after_sig M HZ.out.1 z A1 V HZ.out.2.1 HZ.out.2.2.1 HZ.out.2.2.2 HV.out rl k HRL.out.1.1.symm hp PT (pt_tag ptj PT HPT.out.2) ol pl tl sl el AL BL HOL.out HAL.out HBL.out HOL3.out HLL.out.1 HLL.out.2.1 HLL.out.2.2.1 HLL.out.2.2.2
                    w w8 w15 _ gw cw HHc.out _ HPc.out (H14.out.trans (hbel15.mono H13.out.size)) _ gh en ch (by have h := HS.out.2.2.2.1; rwa [B_length] at h) hownh
                  clear hownh hbel15 hap3 HSe f9 H14 H13 howng hbel14 HHc HPc HL2 HL3 HBL HAL HOL HLL HOL3 HS
                  refine HC5.mono ?_
                  rintro e w16 (⟨hM0, p, rfl, hb16⟩ | ⟨hM0, gi, ci, ps, rfl, howni, hh16, hpel16, hpar16⟩)
                  · have hm1 : ((M : Int) != 0) = true := by simp; omega
                    have q1 := fun w => Lib.run_eql_slice_nil (P := Yba.prog) w 35 3 none 0 0 0 0 Yba.underlying35
                    have q2 := fun w => Lib.run_eql_slice_nil (P := Yba.prog) w 28 5 none 0 0 0 0 Yba.underlying28
                    clear HC5
                    go_wp2
                    go_ret
                    exact ⟨by simp, hb16⟩
                  · have hm1 : ((M : Int) != 0) = false := by simp [hM0]
                    have f4 := hh16.box 4 _ rfl
                    have HI : Hid (∀ j : Nat, (j : Int) < ((k + 2 : Nat) : Int) → ∃ x, w16.cell? ⟨gi, j, none⟩ = some (.int .i64 x) ∧ w16.cell? ⟨gw, j, none⟩ = some (.int .i64 x)) := fun j hj => want_cells howni hh16.want j hj
                    have HB16 : Hid (Below w.heap.size w w16) := hh16.bel
                    have HP16 : Hid (PelOk w16 hp PT pl u13 ∧ ParOk w16 hp PT pl ps) := ⟨hpel16, hpar16⟩
                    clear HC5 howni hh16 hpel16 hpar16
                    go_wp2
                    go_loopw [173] (fun ix wr => ∃ j n : Nat, j ≤ k + 2 ∧ ix = .int .i64 j ∧ wr = w16.drewN n) (fun ix _ => k + 2 - (intOf ix).toNat)
                    case atStart => exact ⟨0, 0, Nat.zero_le _, rfl, rfl⟩
                    case round =>
                      obtain ⟨j, n, hj, rfl, rfl⟩ := hrel
                      by_cases hlt : (j : Int) < ((k + 2 : Nat) : Int)
                      · obtain ⟨x, hx1, hx2⟩ := HI.out j hlt
                        go_wp2
                        go_quiet (fail)
                        go_wp2
                        go_roundw
                        case rel => exact ⟨j + 1, _, by go_light; omega, by go_num, rfl⟩
                        case measure => go_light; simp [intOf]; omega
                      · rcases HP16.out with ⟨⟨hpf, rfl⟩ | ⟨hpt', gp, cp, rfl, hop⟩, ⟨hpf', rfl⟩ | ⟨hpt2, b, o, c, rfl, hvp⟩⟩
                        · subst hpf
                          have q2 := fun w => Lib.run_eql_slice_nil (P := Yba.prog) w 28 5 none 0 0 0 0 Yba.underlying28
                          go_wp2
                          go_ret
                          exact ⟨by simp, HB16.out.trans (bel_drewN _ _ _)⟩
                        · rw [hpf] at hpt2; cases hpt2
                        · rw [hpt'] at hpf'; cases hpf'
                        · subst hpt'
                          have q2 := fun w => run_neq_slice_nil_any (P := Yba.prog) w 28 5 (some ⟨b, o, none⟩) (elem PT pl).length c 0 0 Yba.underlying28
                          have HEQ := equal_at w16 b o c gp 0 cp (elem PT pl) hvp (Vw.own hop) n
                          clear hop hvp
                          go_wp2_with (go_at_call 12; refine HEQ.mono ?_; rintro e w17 ⟨rfl, rfl⟩)
                          go_ret
                          exact ⟨by simp, HB16.out.trans (bel_drewN _ _ _)⟩
end Go.Proofs.Ybulkbxqk
