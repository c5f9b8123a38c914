/-
  Clock: zzs3712bbuild with the drawn threads and clocks.
-/
import Derived.Test.YbulkbxvuH3
namespace Go.Proofs.Ybulkbxvu.Ck
open Go.RowKit
set_option linter.unusedVariables false
set_option linter.unusedSimpArgs false

set_option maxHeartbeats 100000000 in
set_option maxRecDepth 100000 in
theorem build_any (W : World) (ea : Option Addr) (eb eo ne ec : Nat) (E : EvD) (N : Nat) (hN1 : 1 ≤ N) (hN3 : N ≤ 3) (hE : EvA W eb eo ne E) (hea : 0 < ne → ea = some ⟨eb, eo, none⟩) (hne : ne ≤ 512) :
    Calls Yba.prog 5 #[.slice ea ne ec, .int .i64 (N : Int), .bool false] W fun e W' => BldOut W ne E N e W' := by
  have HE : Hid (EvA W eb eo ne E) := hE
  clear hE
  have hmm : (Instr.makeMap 58 none).run Yba.prog W = .ok (.map (some W.heap.size)) (W.alloc (.map #[] 0)) := rfl
  have eN1 : IntKind.i64.wrap ((N : Int) - 1) = (N : Int) - 1 := by rw [IntKind.wrap_i64]; omega
  have eN0 : ((N : Int) == 0) = false := by rw [beq_eq_false_iff_ne]; omega
  go_enter Yba.func5, Yba.ntmps5
  go_wp2_with (first
    | (at_make; refine wp_make 27 3 (.int .i64 0) 8 Yba.underlying27 info3 rfl _ rfl _ _ rfl _ ne rfl rfl rfl (by omega) (by omega) ?_; intro W1 hC1 hb1)
    | (at_make; refine wp_make 28 21 (.int .i32 0) 4 Yba.underlying28 info21 rfl _ rfl _ _ rfl _ N rfl rfl rfl (by omega) (by omega) ?_; intro W2 hC2 hb2))
  have HS2 : Hid (SBx W W2 (W.heap.size + 1) W.heap.size (W.heap.size + 2) W1.heap.size ne N E (gN N (fun _ => 0))) := SBx.start E _ hC1 hb1 hC2 hb2 (fun o v h => by
    unfold xg at h
    split at h <;> first | (injection h with h; rw [← h]; rfl) | cases h)
  have hlet : ∃ X M T L, W.heap.size + 1 = X ∧ W.heap.size = M ∧ W.heap.size + 1 + 1 = T ∧ W1.heap.size = L := ⟨_, _, _, _, rfl, rfl, rfl, rfl⟩
  obtain ⟨X, M, T, L, hX, hM, hT, hL⟩ := hlet
  have HS3 : Hid (SBx W W2 X M T L ne N E (gN N (fun _ => 0))) := by
    rw [← hX, ← hM, ← hT, ← hL]; exact HS2.out
  rw [hT, hX, hM, hL]
  clear HS2 hX hM hT hL hC1 hb1 hC2 hb2 hmm eN1
  go_loopg [35] N (fun g v wx => ∃ j : Nat, g + j = N ∧ v = .int .i64 (j : Int) ∧ Hid (SBx W wx X M T L ne N E (gN N (fun t => if t < j then -1 else 0))))
  case atStart => exact ⟨0, by omega, rfl, by show SBx W W2 X M T L ne N E (gN N (fun t => if t < 0 then -1 else 0)); simpa using HS3.out⟩
  case round =>
    clear HS3
    obtain ⟨j, hg, rfl, H⟩ := hrel
    by_cases hj : (j : Int) < (N : Int)
    · have l0 := H.out.pL.cell (o := j) (gN_at (by omega))
      have f0 := H.out.pL.fz j
      rw [if_neg (by omega)] at l0
      go_wp2
      go_roundg (N - (j + 1))
      case measure => omega
      case rel =>
        refine ⟨j + 1, by omega, by go_num, ?_⟩
        have := H.out.set (o := j) (gN_at (by omega)) (.int .i32 (-1))
        rw [gN_set N _ (fun t => if t < j + 1 then -1 else 0) j (by omega) (-1) (fun x => by
          by_cases e : x = j
          · subst e; rw [if_pos rfl, if_pos (by omega)]
          · rw [if_neg e]
            by_cases e2 : x < j
            · rw [if_pos e2, if_pos (by omega)]
            · rw [if_neg e2, if_neg (by omega)])] at this
        exact this
    · have HJ : Hid (SBx W wr X M T L ne N E (gN N (fun _ => -1))) := by
        have := H.out
        rw [show gN N (fun t => if t < j then (-1 : Int) else 0) = gN N (fun _ => -1) by
          funext x
          unfold gN
          by_cases e : x < N
          · rw [if_pos e, if_pos e]; show some (Value.int .i32 (if x < j then -1 else 0)) = _; rw [if_pos (by omega)]
          · rw [if_neg e, if_neg e]] at this
        exact this
      clear H
      go_wp2_with (at_make; refine wp_make 28 21 (.int .i32 0) 4 Yba.underlying28 info21 rfl _ rfl _ _ rfl _ N rfl rfl rfl (by omega) (by omega) ?_; intro W3 hC3 hb3)
      have HB0 : Hid (BS W W3 ⟨wr.heap.size + 1, X, M, T, L, wr.heap.size⟩ E N (Sk E N 0) ne 0 0 0 (fun _ => .slice none 0 0) (fun _ => .slice none 0 0) (fun _ => .slice none 0 0)) := by
        obtain ⟨c2, b1, b2, b3⟩ := hC3
        refine BS.start E HJ.out hb3 ⟨c2, b1, fun o v h => ?_⟩
        unfold gN at h
        split at h
        · rename_i hlt; injection h with h; rw [← h]; exact b3 o hlt
        · cases h
      obtain ⟨C, hC⟩ : ∃ C, wr.heap.size = C := ⟨_, rfl⟩
      rw [hC] at HB0 ⊢
      clear hC HJ hC3 hb3 hg
      go_loopg [46] ne (fun g v wx => ∃ (k : Nat) (vv : Nat → Value), g + k = ne ∧ v = .int .i64 (k : Int) ∧ Hid (BS W wx ⟨C + 1, X, M, T, L, C⟩ E N (Sk E N k) ne k k k vv vv (fun o => vv (6 + o))))
      case atStart => exact ⟨0, _, by omega, rfl, HB0.out⟩
      case round =>
        clear HB0
        obtain ⟨k, vv, hg, rfl, H⟩ := hrel
        by_cases hk : (k : Int) < (ne : Int)
        · as_aux_lemma =>
          obtain rfl := hea (by omega)
          have hev := (HE.out.below H.out.fr) k (by omega)
          have e0 := hev.c0
          have e1 := hev.c1 0 (by decide)
          have e2 := hev.c1 1 (by decide)
          have e3 := hev.c1 2 (by decide)
          have e4 := hev.c4
          have e5 := hev.c5
          have e6 := hev.c6 0 (by decide)
          have e7 := hev.c6 1 (by decide)
          have e8 := hev.c6 2 (by decide)
          obtain ⟨th, hth⟩ : ∃ th, E.th k = th := ⟨_, rfl⟩
          have hth2 : th < 256 := by rw [← hth]; exact hev.b0
          rw [hth] at e0
          obtain ⟨tk, htk⟩ : ∃ tk, tt E N k = tk := ⟨_, rfl⟩
          have htN : tk < N := by rw [← htk]; exact tt_lt E hN1 k
          have e13 : (th : Int).tmod (N : Int) = (tk : Int) := by
            rw [Int.tmod_eq_emod_of_nonneg (by omega), ← htk, ← hth]; unfold tt; rw [Int.natCast_emod]
          have hwt : IntKind.i32.wrap (tk : Int) = (tk : Int) := by rw [IntKind.wrap_i32]; omega
          obtain ⟨cn, hcn⟩ : ∃ cn, cnt E N tk k = cn := ⟨_, rfl⟩
          have hcn2 : cn ≤ 512 := by rw [← hcn]; have := cnt_le E N tk k; omega
          have hwn : IntKind.i32.wrap ((cn : Int) + 1) = (cn : Int) + 1 := by rw [IntKind.wrap_i32]; omega
          have HTT : Hid (tt E N k = tk ∧ cnt E N tk (k + 1) = cn + 1) := ⟨htk, by rw [cnt, if_pos htk.symm, hcn]⟩
          have tc := H.out.pT.cell (o := k) (gT_at (by omega))
          have tf := H.out.pT.fz k
          have cc := H.out.pC.cell (o := tk) (gN_at htN)
          rw [hcn] at cc
          have cf := H.out.pC.fz tk
          have hTC := H.out.d3.2.1
          have hCT := Ne.symm H.out.d3.2.1
          have tl := H.out.pT.lt
          have cl := H.out.pC.lt
          simp only at tc tf cc cf hTC hCT tl cl
          clear hev hth htk hcn
          go_upto_region 18 with fail
          clear hea e0 e1 e2 e3 e4 e5 e6 e7 e8 e13
          obtain ⟨W5, hW5⟩ : ∃ W5, ((wr.setCell ⟨T, k, none⟩ (.int .i64 (tk : Int))).setCell ⟨C, tk, none⟩ (.int .i32 ((cn : Int) + 1))).alloc (.cells #[.int .u8 (th : Int), .int .u8 (E.ce 0 k : Int), .int .u8 (E.ce 1 k : Int), .int .u8 (E.ce 2 k : Int), .bool (E.en k), .bool (E.ru k), .int .i32 (E.ck 0 k), .int .i32 (E.ck 1 k), .int .i32 (E.ck 2 k)] 49) = W5 := ⟨_, rfl⟩
          obtain ⟨EB, hEB⟩ : ∃ EB, wr.heap.size = EB := ⟨_, rfl⟩
          have HB5 : Hid (BS W W5 ⟨C + 1, X, M, T, L, C⟩ E N (Sk E N k) ne (k + 1) k (k + 1) vv vv (fun o => vv (6 + o)) ∧ BE W5 (C + 1) vv EB 49 (evB th E k)) := by
            have h1 := (H.out.setT (o := k) (gT_at (by omega)) (.int .i64 (tk : Int))).setC (o := tk) (gN_at htN) (.int .i32 ((cn : Int) + 1))
            rw [gN_set N _ (fun t => (cnt E N t (k + 1) : Int)) tk htN ((cn : Int) + 1) (fun x => by
              by_cases e : x = tk
              · rw [if_pos e, e, HTT.out.2]; omega
              · rw [if_neg e, cnt, if_neg (by rw [HTT.out.1]; exact e)]), ← HTT.out.1, gT_set] at h1
            rw [HTT.out.1] at h1
            rw [← hW5, ← hEB]
            refine ⟨h1.alloc _, ?_⟩
            have h2 := BE.new h1 #[.int .u8 (th : Int), .int .u8 (E.ce 0 k : Int), .int .u8 (E.ce 1 k : Int), .int .u8 (E.ce 2 k : Int), .bool (E.en k), .bool (E.ru k), .int .i32 (E.ck 0 k), .int .i32 (E.ck 1 k), .int .i32 (E.ck 2 k)] 49
            rw [show ((wr.setCell ⟨T, k, none⟩ (.int .i64 (tk : Int))).setCell ⟨C, tk, none⟩ (.int .i32 ((cn : Int) + 1))).heap.size = wr.heap.size by simp] at h2
            exact h2
          rw [hW5, hEB]
          clear hW5 hEB tc tf cc cf tl cl H
          go_cut [] (fun wx => ∃ vv : Nat → Value, Hid (BS W wx ⟨C + 1, X, M, T, L, C⟩ E N (S1 E N k) ne (k + 1) k (k + 1) vv vv (fun o => vv (6 + o)) ∧ BE wx (C + 1) vv EB 49 (evB th E k)))
          case first => as_aux_lemma =>
            have hO1 := BI.own HB5.out.1 1 (by decide)
            obtain ⟨a1, c1, v1⟩ := HB5.out.1.shape 1 (by decide)
            obtain ⟨a2, c2, v2⟩ := HB5.out.1.shape 2 (by decide)
            obtain ⟨a3, c3, v3⟩ := HB5.out.1.shape 3 (by decide)
            have x2 := HB5.out.1.pX.cell (o := 2) rfl
            have x3 := HB5.out.1.pX.cell (o := 3) rfl
            have x4 := HB5.out.1.pX.cell (o := 4) rfl
            have co := HB5.out.1.pC.cell (o := tk) (gN_at htN)
            rw [HTT.out.2, show (((cn + 1 : Nat) : Int)) = (cn : Int) + 1 by omega] at co
            rw [v2] at x3
            rw [v3] at x4
            simp only [nS, Sk] at x2 x3 x4 co v1 v2 v3
            have l2 : (ckL E N k).length ≤ 1536 := by rw [ckL_len]; exact Nat.mul_le_mul (show k ≤ 512 by omega) hN3
            have l3 : (useL E k).length ≤ 2048 := by have := useL_len E k; omega
            obtain ⟨n2, hn2⟩ : ∃ n2, (ckL E N k).length = n2 := ⟨_, rfl⟩
            obtain ⟨n3, hn3⟩ : ∃ n3, (useL E k).length = n3 := ⟨_, rfl⟩
            rw [hn2] at x3 l2
            rw [hn3] at x4 l3
            have hwc : IntKind.i32.wrap (n2 : Int) = (n2 : Int) := by rw [IntKind.wrap_i32]; omega
            have hwu : IntKind.i32.wrap (n3 : Int) = (n3 : Int) := by rw [IntKind.wrap_i32]; omega
            have hw0 : IntKind.i32.wrap 0 = 0 := by decide
            have HN : Hid ((ckL E N k).length = n2 ∧ (useL E k).length = n3) := ⟨hn2, hn3⟩
            clear hn2 hn3 v1 v2 v3
            refine anyBut.begin Yba.mixed (fun w => w.cell? ⟨C, tk, none⟩ = some (.int .i32 ((cn : Int) + 1)) ∧ w.cell? ⟨X, 2, none⟩ = some (vv 1) ∧ w.cell? ⟨X, 3, none⟩ = some (.slice a2 n2 c2) ∧ w.cell? ⟨X, 4, none⟩ = some (.slice a3 n3 c3)) 28 ?_
            have hSS : (fun w : World => w.cell? ⟨C, tk, none⟩ = some (.int .i32 ((cn : Int) + 1)) ∧ w.cell? ⟨X, 2, none⟩ = some (vv 1) ∧ w.cell? ⟨X, 3, none⟩ = some (.slice a2 n2 c2) ∧ w.cell? ⟨X, 4, none⟩ = some (.slice a3 n3 c3)) W5.drew := ⟨co, x2, x3, x4⟩
            refine' anyBut.take (i := 0) (v := _) ?Aa0 (by kernel_rfl) (by kernel_rfl) (by kernel_rfl) (by kernel_rfl) (by kernel_rfl) (fun _ _ _ h => h) (Or.inl ⟨?Ba0, ?Ca0⟩) hSS ?Da0
            case Aa0 => simp only [List.getElem?_toArray, List.getElem?_cons_succ, List.getElem?_cons_zero]; rfl
            case Ba0 => rfl
            case Ca0 => (intro w hSw; (try dsimp only at hSw); go_simp; (try with_reducible rfl))
            try simp only [Act.put, List.setIfInBounds_toArray, List.set_cons_zero, List.set_cons_succ]
            refine' anyBut.take (i := 1) (v := _) ?Aa1 (by kernel_rfl) (by kernel_rfl) (by kernel_rfl) (by kernel_rfl) (by kernel_rfl) (fun _ _ _ h => h) (Or.inl ⟨?Ba1, ?Ca1⟩) hSS ?Da1
            case Aa1 => simp only [List.getElem?_toArray, List.getElem?_cons_succ, List.getElem?_cons_zero]; rfl
            case Ba1 => rfl
            case Ca1 => (intro w hSw; (try dsimp only at hSw); go_simp; (try with_reducible rfl))
            try simp only [Act.put, List.setIfInBounds_toArray, List.set_cons_zero, List.set_cons_succ]
            refine' anyBut.take (i := 2) (v := _) ?Aa2 (by kernel_rfl) (by kernel_rfl) (by kernel_rfl) (by kernel_rfl) (by kernel_rfl) (fun _ _ _ h => h) (Or.inl ⟨?Ba2, ?Ca2⟩) hSS ?Da2
            case Aa2 => simp only [List.getElem?_toArray, List.getElem?_cons_succ, List.getElem?_cons_zero]; rfl
            case Ba2 => rfl
            case Ca2 => (intro w hSw; (try dsimp only at hSw); go_simp; (try with_reducible rfl))
            try simp only [Act.put, List.setIfInBounds_toArray, List.set_cons_zero, List.set_cons_succ]
            refine' anyBut.take (i := 3) (v := _) ?Aa3 (by kernel_rfl) (by kernel_rfl) (by kernel_rfl) (by kernel_rfl) (by kernel_rfl) (fun _ _ _ h => h) (Or.inl ⟨?Ba3, ?Ca3⟩) hSS ?Da3
            case Aa3 => simp only [List.getElem?_toArray, List.getElem?_cons_succ, List.getElem?_cons_zero]; rfl
            case Ba3 => rfl
            case Ca3 => (intro w hSw; (try dsimp only at hSw); go_simp; (try with_reducible rfl))
            try simp only [Act.put, List.setIfInBounds_toArray, List.set_cons_zero, List.set_cons_succ]
            refine' anyBut.take (i := 4) (v := _) ?Aa4 (by kernel_rfl) (by kernel_rfl) (by kernel_rfl) (by kernel_rfl) (by kernel_rfl) (fun _ _ _ h => h) (Or.inl ⟨?Ba4, ?Ca4⟩) hSS ?Da4
            case Aa4 => simp only [List.getElem?_toArray, List.getElem?_cons_succ, List.getElem?_cons_zero]; rfl
            case Ba4 => rfl
            case Ca4 => (intro w hSw; (try dsimp only at hSw); go_simp; (try with_reducible rfl))
            try simp only [Act.put, List.setIfInBounds_toArray, List.set_cons_zero, List.set_cons_succ]
            refine' anyBut.take (i := 5) (v := _) ?Aa5 (by kernel_rfl) (by kernel_rfl) (by kernel_rfl) (by kernel_rfl) (by kernel_rfl) (fun _ _ _ h => h) (Or.inl ⟨?Ba5, ?Ca5⟩) hSS ?Da5
            case Aa5 => simp only [List.getElem?_toArray, List.getElem?_cons_succ, List.getElem?_cons_zero]; rfl
            case Ba5 => rfl
            case Ca5 => (intro w hSw; (try dsimp only at hSw); go_simp; (try with_reducible rfl))
            try simp only [Act.put, List.setIfInBounds_toArray, List.set_cons_zero, List.set_cons_succ]
            refine' anyBut.take (i := 6) (v := _) ?Aa6 (by kernel_rfl) (by kernel_rfl) (by kernel_rfl) (by kernel_rfl) (by kernel_rfl) (fun _ _ _ h => h) (Or.inl ⟨?Ba6, ?Ca6⟩) hSS ?Da6
            case Aa6 => simp only [List.getElem?_toArray, List.getElem?_cons_succ, List.getElem?_cons_zero]; rfl
            case Ba6 => rfl
            case Ca6 => (intro w hSw; (try dsimp only at hSw); go_simp; (try with_reducible rfl))
            try simp only [Act.put, List.setIfInBounds_toArray, List.set_cons_zero, List.set_cons_succ]
            refine' anyBut.take (i := 7) (v := _) ?Aa7 (by kernel_rfl) (by kernel_rfl) (by kernel_rfl) (by kernel_rfl) (by kernel_rfl) (fun _ _ _ h => h) (Or.inl ⟨?Ba7, ?Ca7⟩) hSS ?Da7
            case Aa7 => simp only [List.getElem?_toArray, List.getElem?_cons_succ, List.getElem?_cons_zero]; rfl
            case Ba7 => rfl
            case Ca7 => (intro w hSw; (try dsimp only at hSw); go_simp; (try with_reducible rfl))
            try simp only [Act.put, List.setIfInBounds_toArray, List.set_cons_zero, List.set_cons_succ]
            refine' anyBut.take (i := 8) (v := _) ?Aa8 (by kernel_rfl) (by kernel_rfl) (by kernel_rfl) (by kernel_rfl) (by kernel_rfl) (fun _ _ _ h => h) (Or.inl ⟨?Ba8, ?Ca8⟩) hSS ?Da8
            case Aa8 => simp only [List.getElem?_toArray, List.getElem?_cons_succ, List.getElem?_cons_zero]; rfl
            case Ba8 => rfl
            case Ca8 => (intro w hSw; (try dsimp only at hSw); go_simp; (try with_reducible rfl))
            try simp only [Act.put, List.setIfInBounds_toArray, List.set_cons_zero, List.set_cons_succ]
            refine' anyBut.take (i := 9) (v := _) ?Aa9 (by kernel_rfl) (by kernel_rfl) (by kernel_rfl) (by kernel_rfl) (by kernel_rfl) (fun _ _ _ h => h) (Or.inl ⟨?Ba9, ?Ca9⟩) hSS ?Da9
            case Aa9 => simp only [List.getElem?_toArray, List.getElem?_cons_succ, List.getElem?_cons_zero]; rfl
            case Ba9 => rfl
            case Ca9 => (intro w hSw; (try dsimp only at hSw); go_simp; (try with_reducible rfl))
            try simp only [Act.put, List.setIfInBounds_toArray, List.set_cons_zero, List.set_cons_succ]
            refine' anyBut.take (i := 10) (v := _) ?Aa10 (by kernel_rfl) (by kernel_rfl) (by kernel_rfl) (by kernel_rfl) (by kernel_rfl) (fun _ _ _ h => h) (Or.inl ⟨?Ba10, ?Ca10⟩) hSS ?Da10
            case Aa10 => simp only [List.getElem?_toArray, List.getElem?_cons_succ, List.getElem?_cons_zero]; rfl
            case Ba10 => rfl
            case Ca10 => (intro w hSw; (try dsimp only at hSw); go_simp; (try with_reducible rfl))
            try simp only [Act.put, List.setIfInBounds_toArray, List.set_cons_zero, List.set_cons_succ]
            refine' anyBut.take (i := 11) (v := _) ?Aa11 (by kernel_rfl) (by kernel_rfl) (by kernel_rfl) (by kernel_rfl) (by kernel_rfl) (fun _ _ _ h => h) (Or.inl ⟨?Ba11, ?Ca11⟩) hSS ?Da11
            case Aa11 => simp only [List.getElem?_toArray, List.getElem?_cons_succ, List.getElem?_cons_zero]; rfl
            case Ba11 => rfl
            case Ca11 => (intro w hSw; (try dsimp only at hSw); go_simp; (try with_reducible rfl))
            try simp only [Act.put, List.setIfInBounds_toArray, List.set_cons_zero, List.set_cons_succ]
            refine' anyBut.take (i := 12) (v := _) ?Aa12 (by kernel_rfl) (by kernel_rfl) (by kernel_rfl) (by kernel_rfl) (by kernel_rfl) (fun _ _ _ h => h) (Or.inl ⟨?Ba12, ?Ca12⟩) hSS ?Da12
            case Aa12 => simp only [List.getElem?_toArray, List.getElem?_cons_succ, List.getElem?_cons_zero]; rfl
            case Ba12 => rfl
            case Ca12 => (intro w hSw; (try dsimp only at hSw); go_simp; (try with_reducible rfl))
            try simp only [Act.put, List.setIfInBounds_toArray, List.set_cons_zero, List.set_cons_succ]
            refine' anyBut.take (i := 13) (v := _) ?Aa13 (by kernel_rfl) (by kernel_rfl) (by kernel_rfl) (by kernel_rfl) (by kernel_rfl) (fun _ _ _ h => h) (Or.inl ⟨?Ba13, ?Ca13⟩) hSS ?Da13
            case Aa13 => simp only [List.getElem?_toArray, List.getElem?_cons_succ, List.getElem?_cons_zero]; rfl
            case Ba13 => rfl
            case Ca13 => (intro w hSw; (try dsimp only at hSw); go_simp; (try with_reducible rfl))
            try simp only [Act.put, List.setIfInBounds_toArray, List.set_cons_zero, List.set_cons_succ]
            refine' anyBut.take (i := 14) (v := _) ?Aa14 (by kernel_rfl) (by kernel_rfl) (by kernel_rfl) (by kernel_rfl) (by kernel_rfl) (fun _ _ _ h => h) (Or.inl ⟨?Ba14, ?Ca14⟩) hSS ?Da14
            case Aa14 => simp only [List.getElem?_toArray, List.getElem?_cons_succ, List.getElem?_cons_zero]; rfl
            case Ba14 => rfl
            case Ca14 => (intro w hSw; (try dsimp only at hSw); go_simp; (try with_reducible rfl))
            try simp only [Act.put, List.setIfInBounds_toArray, List.set_cons_zero, List.set_cons_succ]
            refine' anyBut.take (i := 15) (v := _) ?Aa15 (by kernel_rfl) (by kernel_rfl) (by kernel_rfl) (by kernel_rfl) (by kernel_rfl) (fun _ _ _ h => h) (Or.inl ⟨?Ba15, ?Ca15⟩) hSS ?Da15
            case Aa15 => simp only [List.getElem?_toArray, List.getElem?_cons_succ, List.getElem?_cons_zero]; rfl
            case Ba15 => rfl
            case Ca15 => (intro w hSw; (try dsimp only at hSw); go_simp; (try with_reducible rfl))
            try simp only [Act.put, List.setIfInBounds_toArray, List.set_cons_zero, List.set_cons_succ]
            refine' anyBut.take (i := 16) (v := _) ?Aa16 (by kernel_rfl) (by kernel_rfl) (by kernel_rfl) (by kernel_rfl) (by kernel_rfl) (fun _ _ _ h => h) (Or.inl ⟨?Ba16, ?Ca16⟩) hSS ?Da16
            case Aa16 => simp only [List.getElem?_toArray, List.getElem?_cons_succ, List.getElem?_cons_zero]; rfl
            case Ba16 => rfl
            case Ca16 => (intro w hSw; (try dsimp only at hSw); go_simp; (try with_reducible rfl))
            try simp only [Act.put, List.setIfInBounds_toArray, List.set_cons_zero, List.set_cons_succ]
            refine' anyBut.take (i := 17) (v := _) ?Aa17 (by kernel_rfl) (by kernel_rfl) (by kernel_rfl) (by kernel_rfl) (by kernel_rfl) (fun _ _ _ h => h) (Or.inl ⟨?Ba17, ?Ca17⟩) hSS ?Da17
            case Aa17 => simp only [List.getElem?_toArray, List.getElem?_cons_succ, List.getElem?_cons_zero]; rfl
            case Ba17 => rfl
            case Ca17 => (intro w hSw; (try dsimp only at hSw); go_simp; (try with_reducible rfl))
            try simp only [Act.put, List.setIfInBounds_toArray, List.set_cons_zero, List.set_cons_succ]
            refine' anyBut.take (i := 18) (v := _) ?Aa18 (by kernel_rfl) (by kernel_rfl) (by kernel_rfl) (by kernel_rfl) (by kernel_rfl) (fun _ _ _ h => h) (Or.inl ⟨?Ba18, ?Ca18⟩) hSS ?Da18
            case Aa18 => simp only [List.getElem?_toArray, List.getElem?_cons_succ, List.getElem?_cons_zero]; rfl
            case Ba18 => rfl
            case Ca18 => (intro w hSw; (try dsimp only at hSw); go_simp; (try with_reducible rfl))
            try simp only [Act.put, List.setIfInBounds_toArray, List.set_cons_zero, List.set_cons_succ]
            refine' anyBut.take (i := 19) (v := _) ?Aa19 (by kernel_rfl) (by kernel_rfl) (by kernel_rfl) (by kernel_rfl) (by kernel_rfl) (fun _ _ _ h => h) (Or.inl ⟨?Ba19, ?Ca19⟩) hSS ?Da19
            case Aa19 => simp only [List.getElem?_toArray, List.getElem?_cons_succ, List.getElem?_cons_zero]; rfl
            case Ba19 => rfl
            case Ca19 => (intro w hSw; (try dsimp only at hSw); go_simp; (try with_reducible rfl))
            try simp only [Act.put, List.setIfInBounds_toArray, List.set_cons_zero, List.set_cons_succ]
            refine' anyBut.take (i := 20) (v := _) ?Aa20 (by kernel_rfl) (by kernel_rfl) (by kernel_rfl) (by kernel_rfl) (by kernel_rfl) (fun _ _ _ h => h) (Or.inl ⟨?Ba20, ?Ca20⟩) hSS ?Da20
            case Aa20 => simp only [List.getElem?_toArray, List.getElem?_cons_succ, List.getElem?_cons_zero]; rfl
            case Ba20 => rfl
            case Ca20 => (intro w hSw; (try dsimp only at hSw); go_simp; (try with_reducible rfl))
            try simp only [Act.put, List.setIfInBounds_toArray, List.set_cons_zero, List.set_cons_succ]
            refine' anyBut.take (i := 21) (v := _) ?Aa21 (by kernel_rfl) (by kernel_rfl) (by kernel_rfl) (by kernel_rfl) (by kernel_rfl) (fun _ _ _ h => h) (Or.inl ⟨?Ba21, ?Ca21⟩) hSS ?Da21
            case Aa21 => simp only [List.getElem?_toArray, List.getElem?_cons_succ, List.getElem?_cons_zero]; rfl
            case Ba21 => rfl
            case Ca21 => (intro w hSw; (try dsimp only at hSw); go_simp; (try with_reducible rfl))
            try simp only [Act.put, List.setIfInBounds_toArray, List.set_cons_zero, List.set_cons_succ]
            refine' anyBut.take (i := 22) (v := _) ?Aa22 (by kernel_rfl) (by kernel_rfl) (by kernel_rfl) (by kernel_rfl) (by kernel_rfl) (fun _ _ _ h => h) (Or.inl ⟨?Ba22, ?Ca22⟩) hSS ?Da22
            case Aa22 => simp only [List.getElem?_toArray, List.getElem?_cons_succ, List.getElem?_cons_zero]; rfl
            case Ba22 => rfl
            case Ca22 => (intro w hSw; (try dsimp only at hSw); go_simp; (try with_reducible rfl))
            try simp only [Act.put, List.setIfInBounds_toArray, List.set_cons_zero, List.set_cons_succ]
            refine' anyBut.take (i := 23) (v := _) ?Aa23 (by kernel_rfl) (by kernel_rfl) (by kernel_rfl) (by kernel_rfl) (by kernel_rfl) (fun _ _ _ h => h) (Or.inl ⟨?Ba23, ?Ca23⟩) hSS ?Da23
            case Aa23 => simp only [List.getElem?_toArray, List.getElem?_cons_succ, List.getElem?_cons_zero]; rfl
            case Ba23 => rfl
            case Ca23 => (intro w hSw; (try dsimp only at hSw); go_simp; (try with_reducible rfl))
            try simp only [Act.put, List.setIfInBounds_toArray, List.set_cons_zero, List.set_cons_succ]
            refine' anyBut.one (i := 24) ?Aa24 (by kernel_rfl) ?Ba24 ?Ca24
            case Aa24 => simp only [List.getElem?_toArray, List.getElem?_cons_succ, List.getElem?_cons_zero]; rfl
            case Ba24 => rfl
            intro K hK
            go_simp
            obtain ⟨W6, hW6⟩ : ∃ W6, (W5.alloc (.cells #[.int .i32 (tk : Int), .int .i32 ((cn : Int) + 1), .int .i32 (n2 : Int), .int .i32 (n3 : Int)] 84)).drew = W6 := ⟨_, rfl⟩
            have H6 : Hid (Below W5.heap.size W5 W6 ∧ W6.heap[W5.heap.size]? = some (.cells #[.int .i32 (tk : Int), .int .i32 ((cn : Int) + 1), .int .i32 (n2 : Int), .int .i32 (n3 : Int)] 84 (0, 0))) := by
              rw [← hW6]
              exact ⟨((Below.refl _ _).alloc (Nat.le_refl _) _).drew, heap_alloc_new W5 _⟩
            have hS6 : (fun w : World => w.cell? ⟨C, tk, none⟩ = some (.int .i32 ((cn : Int) + 1)) ∧ w.cell? ⟨X, 2, none⟩ = some (vv 1) ∧ w.cell? ⟨X, 3, none⟩ = some (.slice a2 n2 c2) ∧ w.cell? ⟨X, 4, none⟩ = some (.slice a3 n3 c3)) W6 := by
              have hf := HB5.out.1.keep H6.out.1
              have q3 := hf.pX.cell (o := 3) rfl
              have q4 := hf.pX.cell (o := 4) rfl
              exact ⟨(H6.out.1.cell (cell_lt co)).trans co, hf.pX.cell (o := 2) rfl, (H6.out.1.cell (cell_lt x3)).trans x3, (H6.out.1.cell (cell_lt x4)).trans x4⟩
            rw [hW6]
            refine hK _ _ (fun _ => hS6) ?_
            clear hK K hSS hS6 hW6
            refine' anyBut.one (i := 25) ?Aa25 (by kernel_rfl) ?Ba25 ?Ca25
            case Aa25 => simp only [List.getElem?_toArray, List.getElem?_cons_succ, List.getElem?_cons_zero]; rfl
            case Ba25 => rfl
            intro K hK
            refine wp_appO 1 56 16 _ Yba.underlying56 info84 rfl (by decide) (by decide) _ _ _ rfl (C + 1) (vv 1) k (evL E N k) rfl (hO1.kept (row := none) ⟨H6.out.1.os, H6.out.1.tape, H6.out.1.output, H6.out.1.size, fun k hk _ => H6.out.1.block k hk⟩ (by cases hv : (vv 1).ownBlock <;> simp)) [.int .i32 (tk : Int), .int .i32 ((cn : Int) + 1), .int .i32 (n2 : Int), .int .i32 (n3 : Int)] _ _ rfl H6.out.2 rfl (by simp [Value.oneCell']) (by omega) (Nat.le_trans HB5.out.1.hb H6.out.1.size) ?_
            intro g cap W7 hown hgr hat hlt
            have hfar := HB5.out.1.far H6.out.1 1 (by decide) hgr
            have hXb := HB5.out.1.hi.1
            have hCb := HB5.out.1.hi.2.2.2.2
            simp only at hXb hCb hfar
            have hSS : (fun w : World => w.cell? ⟨C, tk, none⟩ = some (.int .i32 ((cn : Int) + 1)) ∧ w.cell? ⟨X, 2, none⟩ = some (vv 1) ∧ w.cell? ⟨X, 3, none⟩ = some (.slice a2 n2 c2) ∧ w.cell? ⟨X, 4, none⟩ = some (.slice a3 n3 c3)) W7 := ⟨(World.cell?_of_block (hfar C hCb)).trans co, (World.cell?_of_block (hfar X hXb)).trans x2, (World.cell?_of_block (hfar X hXb)).trans x3, (World.cell?_of_block (hfar X hXb)).trans x4⟩
            refine hK _ _ (fun _ => hSS) ?_
            clear hK K
            try simp only [Act.put, List.setIfInBounds_toArray, List.set_cons_zero, List.set_cons_succ]
            refine' anyBut.one (i := 26) ?Aa26 (by kernel_rfl) ?Ba26 ?Ca26
            case Aa26 => simp only [List.getElem?_toArray, List.getElem?_cons_succ, List.getElem?_cons_zero]; rfl
            case Ba26 => rfl
            intro K hK
            go_simp
            refine hK _ _ (fun _ => hSS) ?_
            clear hK K
            refine' anyBut.one (i := 27) ?Aa27 (by kernel_rfl) ?Ba27 ?Ca27
            case Aa27 => simp only [List.getElem?_toArray, List.getElem?_cons_succ, List.getElem?_cons_zero]; rfl
            case Ba27 => rfl
            intro K hK
            go_simp
            refine hK _ _ (fun _ => hSS) ?_
            clear hK K
            refine' anyBut.one (i := 28) ?Aa28 (by kernel_rfl) ?Ba28 ?Ca28
            case Aa28 => simp only [List.getElem?_toArray, List.getElem?_cons_succ, List.getElem?_cons_zero]; rfl
            case Ba28 => rfl
            intro K hK
            have z1 := hSS.2.1
            have z2 : W7.frozen? ⟨X, 2, none⟩ = false := (World.frozen?_of_block (hfar X hXb)).trans (HB5.out.1.pX.fz 2)
            go_simp
            refine hK _ _ (fun h => absurd rfl h) ?_
            clear hK K
            refine anyBut.done (by kernel_rfl) ?_ _
            go_wp2
            go_meet
            case rel =>
              rw [← HN.out.1, ← HN.out.2, show ((cn : Int) + 1) = ((cn + 1 : Nat) : Int) by omega, ← HTT.out.2, ← HTT.out.1] at hown
              refine ⟨upd vv 1 (.slice (some ⟨g, 0, none⟩) (k + 1) cap), ?_, HB5.out.2.push H6.out.1 1 (by decide) hgr hat hXb 2 _⟩
              have h := BI.push HB5.out.1 H6.out.1 1 (by decide) hown hgr hat
              rw [show upd (nS (Sk E N k)) 1 (k + 1) = nS (S1 E N k) from nS1 (Sk E N k), show upd (xS E N (Sk E N k)) 1 (evL E N k ++ [.int .i32 (tt E N k : Int), .int .i32 (cnt E N (tt E N k) (k + 1) : Int), .int .i32 ((ckL E N k).length : Int), .int .i32 ((useL E k).length : Int)]) = xS E N (S1 E N k) from xS1 E N (Sk E N k)] at h
              exact h
          case rest =>
            obtain ⟨vv1, hcut⟩ := hcut
            have H1 : Hid (BS W wc ⟨C + 1, X, M, T, L, C⟩ E N (S2 E N k 0) ne (k + 1) k (k + 1) vv1 vv1 (fun o => vv1 (6 + o)) ∧ BE wc (C + 1) vv1 EB 49 (evB th E k)) := by rw [S2_0]; exact hcut.out
            clear hcut HB5
            go_wp2
            go_loopg [17] N (fun g v wx => ∃ (i : Nat) (vv : Nat → Value), g + i = N ∧ v = .int .i64 (i : Int) ∧ Hid (BS W wx ⟨C + 1, X, M, T, L, C⟩ E N (S2 E N k i) ne (k + 1) k (k + 1) vv vv (fun o => vv (6 + o)) ∧ BE wx (C + 1) vv EB 49 (evB th E k)))
            case atStart => exact ⟨0, _, by omega, rfl, H1.out⟩
            case round => as_aux_lemma =>
              clear H1
              obtain ⟨i, vw, hgi, rfl, H2⟩ := hrel
              by_cases hi : (i : Int) < (N : Int)
              · have lck : (ckL E N k ++ ckC E k i).length ≤ 4096 := by
                  rw [List.length_append, ckL_len, ckC_len]
                  have : k * N ≤ 512 * 3 := Nat.mul_le_mul (by omega) hN3
                  omega
                have x3 := H2.out.1.pX.cell (o := 3) rfl
                simp only at x3
                have hi3 : i < 3 := by omega
                have b6 : wr.cell? ⟨EB, 6 + i, none⟩ = some (.int .i32 (E.ck i k)) := by
                  match i, hi3 with
                  | 0, _ => exact H2.out.2.row.cell (o := 6) rfl
                  | 1, _ => exact H2.out.2.row.cell (o := 7) rfl
                  | 2, _ => exact H2.out.2.row.cell (o := 8) rfl
                obtain ⟨cv, hcv⟩ : ∃ cv, E.ck i k = cv := ⟨_, rfl⟩
                rw [hcv] at b6
                have HCV : Hid (E.ck i k = cv) := hcv
                clear hcv
                have hi3' : (i : Int) < 3 := by omega
                go_wp2_with (at_builtin; refine wp_appB 2 28 4 _ Yba.underlying28 info21 rfl (by decide) (by decide) _ rfl _ _ rfl (C + 1) (vw 2) (nS (S2 E N k i) 2) (xS E N (S2 E N k i) 2) rfl (H2.out.1.own ((Below.refl _ _).alloc (Nat.le_refl _) _) 2 (by decide)) [.int .i32 cv] _ _ rfl (heap_alloc_new _ _) rfl (by simp [Value.oneCell']) lck (H2.out.1.keep ((Below.refl _ _).alloc (Nat.le_refl _) _)).hb ?_; intro g0 cap0 W70 hown0 hgr0 hat0 hlt0; obtain ⟨z10, z20⟩ := H2.out.1.cells ((Below.refl _ _).alloc (Nat.le_refl _) _) 2 (by decide) hgr0; simp only [xo] at z10 z20)
                go_roundg (N - (i + 1))
                case measure => omega
                case rel =>
                  obtain ⟨v', hB0, hX0⟩ := H2.out.1.push ((Below.refl _ _).alloc (Nat.le_refl _) _) 2 (by decide) (S2 E N k (i + 1)) [.int .i32 cv] (by rw [S2_s]; exact nS2 _ _) (by rw [S2_s, HCV.out]; exact xS2 E N _ _) hown0 hgr0 hat0
                  exact ⟨i + 1, v', by omega, by go_num, hB0, hX0 _ _ _ H2.out.2⟩
              · have HIN : Hid (i = N) := by show _ = _; omega
                go_wp2
                have H3 : Hid (BS W wr ⟨C + 1, X, M, T, L, C⟩ E N (S3 E N k 0) ne (k + 1) k (k + 1) vw vw (fun o => vw (6 + o)) ∧ BE wr (C + 1) vw EB 49 (evB th E k)) := by rw [S3_0, ← HIN.out]; exact (by have := H2.out; rw [HIN.out] at this ⊢; exact this)
                clear H2 HIN
                go_loopg [19] 3 (fun g v wx => ∃ (o : Nat) (vv : Nat → Value), g + o = 3 ∧ v = .int .i64 (o : Int) ∧ Hid (BS W wx ⟨C + 1, X, M, T, L, C⟩ E N (S3 E N k o) ne (k + 1) k (k + 1) vv vv (fun o => vv (6 + o)) ∧ BE wx (C + 1) vv EB 49 (evB th E k)))
                case atStart => exact ⟨0, _, rfl, rfl, H3.out⟩
                case round => as_aux_lemma =>
                  clear H3
                  obtain ⟨o, vw, hgo, rfl, H4⟩ := hrel
                  have lus : (useL E k ++ chTo E k o).length ≤ 2048 := by rw [List.length_append]; have := useL_len E k; have := chTo_len E k o; omega
                  by_cases ho : (o : Int) < 3
                  · have ho3 : o < 3 := by omega
                    have b1 : wr.cell? ⟨EB, 1 + o, none⟩ = some (.int .u8 (E.ce o k : Int)) := by
                      match o, ho3 with
                      | 0, _ => exact H4.out.2.row.cell (o := 1) rfl
                      | 1, _ => exact H4.out.2.row.cell (o := 2) rfl
                      | 2, _ => exact H4.out.2.row.cell (o := 3) rfl
                    obtain ⟨Mv, hMv⟩ : ∃ Mv, E.ce o k % 3 = Mv := ⟨_, rfl⟩
                    have HMv : Hid (E.ce o k % 3 = Mv) := hMv
                    have e3 : (E.ce o k : Int).tmod 3 = (Mv : Int) := by rw [Int.tmod_eq_emod_of_nonneg (by omega)]; omega
                    have hM3 : Mv < 3 := by omega
                    clear hMv
                    by_cases hM0 : Mv = 0
                    · have hM0' : ((Mv : Int) == 0) = true := by rw [beq_iff_eq]; omega
                      go_wp2
                      go_roundg (3 - (o + 1))
                      case measure => omega
                      case rel => exact ⟨o + 1, vw, by omega, by go_num, by rw [S3_same E N k o (by rw [HMv.out]; exact hM0)]; exact H4.out⟩
                    · as_aux_lemma =>
                      have hM0' : ((Mv : Int) == 0) = false := by rw [beq_eq_false_iff_ne]; omega
                      have HOB : Hid _ := obj_any wr o ho3
                      obtain ⟨ok, hok⟩ : ∃ ok, objK o = ok := ⟨_, rfl⟩
                      obtain ⟨oi, hoi⟩ : ∃ oi, objI o = oi := ⟨_, rfl⟩
                      have HOK : Hid (objK o = ok ∧ objI o = oi) := ⟨hok, hoi⟩
                      rw [hok, hoi] at HOB
                      clear hok hoi
                      go_upto_region 34 with (go_at_call 10; refine Calls.mono HOB.out ?_; rintro e W8 ⟨rfl, hb8⟩; have H8 : Hid (Below wr.heap.size wr W8) := hb8; clear hb8)
                      clear HOB b1
                      obtain ⟨W9, hW9⟩ : ∃ W9, W8.alloc (.cells #[.int .u8 ok, .int .u32 oi, .int .u32 0] 70) = W9 := ⟨_, rfl⟩
                      obtain ⟨OB, hOB⟩ : ∃ OB, W8.heap.size = OB := ⟨_, rfl⟩
                      have H9 : Hid (BS W W9 ⟨C + 1, X, M, T, L, C⟩ E N (S3 E N k o) ne (k + 1) k (k + 1) vw vw (fun o => vw (6 + o)) ∧ BE W9 (C + 1) vw EB 49 (evB th E k) ∧ BE W9 (C + 1) vw OB 70 (fun o => #[.int .u8 ok, .int .u32 oi, .int .u32 0][o]?)) := by
                        rw [← hW9, ← hOB]
                        have h8 := BI.keep H4.out.1 H8.out
                        exact ⟨h8.alloc _, (H4.out.2.keep H8.out).keep ((Below.refl _ _).alloc (Nat.le_refl _) _), BE.new h8 #[.int .u8 ok, .int .u32 oi, .int .u32 0] 70⟩
                      rw [hW9, hOB]
                      clear hW9 hOB H4 H8
                      go_cut [] (fun wx => ∃ vv : Nat → Value, Hid (BS W wx ⟨C + 1, X, M, T, L, C⟩ E N (S3a E N k o) ne (k + 1) k (k + 1) vv vv (fun o => vv (6 + o)) ∧ BE wx (C + 1) vv EB 49 (evB th E k) ∧ BE wx (C + 1) vv OB 70 (fun o => #[.int .u8 ok, .int .u32 oi, .int .u32 0][o]?)))
                      case first => as_aux_lemma =>
                          have x4 := H9.out.1.pX.cell (o := 4) rfl
                          simp only at x4
                          have o0 := H9.out.2.2.row.cell (o := 0) rfl
                          have o1 := H9.out.2.2.row.cell (o := 1) rfl
                          have o2 := H9.out.2.2.row.cell (o := 2) rfl
                          obtain ⟨wv, hwv⟩ : ∃ wv, ((Mv : Int) == 2) = wv := ⟨_, rfl⟩
                          have HU : Hid (usO E k o = ⟨ok, oi, 0, wv⟩) := by
                            show _ = _
                            unfold usO
                            rw [HOK.out.1, HOK.out.2, HMv.out, ← hwv]
                            congr 1
                            rw [Bool.eq_iff_iff, beq_iff_eq, beq_iff_eq]; omega
                          refine anyBut.begin Yba.mixed (fun w : World => w.cell? ⟨X, 4, none⟩ = some (vw 3) ∧ w.cell? ⟨OB, 0, none⟩ = some (.int .u8 ok) ∧ w.cell? ⟨OB, 1, none⟩ = some (.int .u32 oi) ∧ w.cell? ⟨OB, 2, none⟩ = some (.int .u32 0)) 13 ?_
                          have hSS : (fun w : World => w.cell? ⟨X, 4, none⟩ = some (vw 3) ∧ w.cell? ⟨OB, 0, none⟩ = some (.int .u8 ok) ∧ w.cell? ⟨OB, 1, none⟩ = some (.int .u32 oi) ∧ w.cell? ⟨OB, 2, none⟩ = some (.int .u32 0)) W9.drew := ⟨x4, o0, o1, o2⟩
                          refine' anyBut.take (i := 0) (v := _) ?Ab0 (by kernel_rfl) (by kernel_rfl) (by kernel_rfl) (by kernel_rfl) (by kernel_rfl) (fun _ _ _ h => h) (Or.inl ⟨?Bb0, ?Cb0⟩) hSS ?Db0
                          case Ab0 => simp only [List.getElem?_toArray, List.getElem?_cons_succ, List.getElem?_cons_zero]; rfl
                          case Bb0 => rfl
                          case Cb0 => (intro w hSw; (try dsimp only at hSw); go_simp; (try with_reducible rfl))
                          try simp only [Act.put, List.setIfInBounds_toArray, List.set_cons_zero, List.set_cons_succ]
                          refine' anyBut.take (i := 1) (v := _) ?Ab1 (by kernel_rfl) (by kernel_rfl) (by kernel_rfl) (by kernel_rfl) (by kernel_rfl) (fun _ _ _ h => h) (Or.inl ⟨?Bb1, ?Cb1⟩) hSS ?Db1
                          case Ab1 => simp only [List.getElem?_toArray, List.getElem?_cons_succ, List.getElem?_cons_zero]; rfl
                          case Bb1 => rfl
                          case Cb1 => (intro w hSw; (try dsimp only at hSw); go_simp; (try with_reducible rfl))
                          try simp only [Act.put, List.setIfInBounds_toArray, List.set_cons_zero, List.set_cons_succ]
                          refine' anyBut.take (i := 2) (v := _) ?Ab2 (by kernel_rfl) (by kernel_rfl) (by kernel_rfl) (by kernel_rfl) (by kernel_rfl) (fun _ _ _ h => h) (Or.inl ⟨?Bb2, ?Cb2⟩) hSS ?Db2
                          case Ab2 => simp only [List.getElem?_toArray, List.getElem?_cons_succ, List.getElem?_cons_zero]; rfl
                          case Bb2 => rfl
                          case Cb2 => (intro w hSw; (try dsimp only at hSw); go_simp; (try with_reducible rfl))
                          try simp only [Act.put, List.setIfInBounds_toArray, List.set_cons_zero, List.set_cons_succ]
                          refine' anyBut.take (i := 3) (v := _) ?Ab3 (by kernel_rfl) (by kernel_rfl) (by kernel_rfl) (by kernel_rfl) (by kernel_rfl) (fun _ _ _ h => h) (Or.inl ⟨?Bb3, ?Cb3⟩) hSS ?Db3
                          case Ab3 => simp only [List.getElem?_toArray, List.getElem?_cons_succ, List.getElem?_cons_zero]; rfl
                          case Bb3 => rfl
                          case Cb3 => (intro w hSw; (try dsimp only at hSw); go_simp; (try with_reducible rfl))
                          try simp only [Act.put, List.setIfInBounds_toArray, List.set_cons_zero, List.set_cons_succ]
                          refine' anyBut.take (i := 4) (v := _) ?Ab4 (by kernel_rfl) (by kernel_rfl) (by kernel_rfl) (by kernel_rfl) (by kernel_rfl) (fun _ _ _ h => h) (Or.inl ⟨?Bb4, ?Cb4⟩) hSS ?Db4
                          case Ab4 => simp only [List.getElem?_toArray, List.getElem?_cons_succ, List.getElem?_cons_zero]; rfl
                          case Bb4 => rfl
                          case Cb4 => (intro w hSw; (try dsimp only at hSw); go_simp; (try with_reducible rfl))
                          try simp only [Act.put, List.setIfInBounds_toArray, List.set_cons_zero, List.set_cons_succ]
                          refine' anyBut.take (i := 5) (v := _) ?Ab5 (by kernel_rfl) (by kernel_rfl) (by kernel_rfl) (by kernel_rfl) (by kernel_rfl) (fun _ _ _ h => h) (Or.inl ⟨?Bb5, ?Cb5⟩) hSS ?Db5
                          case Ab5 => simp only [List.getElem?_toArray, List.getElem?_cons_succ, List.getElem?_cons_zero]; rfl
                          case Bb5 => rfl
                          case Cb5 => (intro w hSw; (try dsimp only at hSw); go_simp; (try with_reducible rfl))
                          try simp only [Act.put, List.setIfInBounds_toArray, List.set_cons_zero, List.set_cons_succ]
                          refine' anyBut.take (i := 6) (v := _) ?Ab6 (by kernel_rfl) (by kernel_rfl) (by kernel_rfl) (by kernel_rfl) (by kernel_rfl) (fun _ _ _ h => h) (Or.inl ⟨?Bb6, ?Cb6⟩) hSS ?Db6
                          case Ab6 => simp only [List.getElem?_toArray, List.getElem?_cons_succ, List.getElem?_cons_zero]; rfl
                          case Bb6 => rfl
                          case Cb6 => (intro w hSw; (try dsimp only at hSw); go_simp; (try with_reducible rfl))
                          try simp only [Act.put, List.setIfInBounds_toArray, List.set_cons_zero, List.set_cons_succ]
                          refine' anyBut.take (i := 7) (v := _) ?Ab7 (by kernel_rfl) (by kernel_rfl) (by kernel_rfl) (by kernel_rfl) (by kernel_rfl) (fun _ _ _ h => h) (Or.inl ⟨?Bb7, ?Cb7⟩) hSS ?Db7
                          case Ab7 => simp only [List.getElem?_toArray, List.getElem?_cons_succ, List.getElem?_cons_zero]; rfl
                          case Bb7 => rfl
                          case Cb7 => (intro w hSw; (try dsimp only at hSw); go_simp; (try with_reducible rfl))
                          try simp only [Act.put, List.setIfInBounds_toArray, List.set_cons_zero, List.set_cons_succ]
                          refine' anyBut.take (i := 8) (v := _) ?Ab8 (by kernel_rfl) (by kernel_rfl) (by kernel_rfl) (by kernel_rfl) (by kernel_rfl) (fun _ _ _ h => h) (Or.inl ⟨?Bb8, ?Cb8⟩) hSS ?Db8
                          case Ab8 => simp only [List.getElem?_toArray, List.getElem?_cons_succ, List.getElem?_cons_zero]; rfl
                          case Bb8 => rfl
                          case Cb8 => (intro w hSw; (try dsimp only at hSw); go_simp; (try with_reducible rfl))
                          try simp only [Act.put, List.setIfInBounds_toArray, List.set_cons_zero, List.set_cons_succ]
                          refine' anyBut.one (i := 9) ?Ab9 (by kernel_rfl) ?Bb9 ?Cb9
                          case Ab9 => simp only [List.getElem?_toArray, List.getElem?_cons_succ, List.getElem?_cons_zero]; rfl
                          case Bb9 => rfl
                          intro K hK
                          go_simp
                          obtain ⟨W6, hW6⟩ : ∃ W6, (W9.alloc (.cells #[.int .u8 ok, .int .u32 oi, .int .u32 0, .bool wv] 72)).drew = W6 := ⟨_, rfl⟩
                          have H6 : Hid (Below W9.heap.size W9 W6 ∧ W6.heap[W9.heap.size]? = some (.cells #[.int .u8 ok, .int .u32 oi, .int .u32 0, .bool wv] 72 (0, 0))) := by
                            rw [← hW6]
                            exact ⟨((Below.refl _ _).alloc (Nat.le_refl _) _).drew, heap_alloc_new W9 _⟩
                          have hS6 : (fun w : World => w.cell? ⟨X, 4, none⟩ = some (vw 3) ∧ w.cell? ⟨OB, 0, none⟩ = some (.int .u8 ok) ∧ w.cell? ⟨OB, 1, none⟩ = some (.int .u32 oi) ∧ w.cell? ⟨OB, 2, none⟩ = some (.int .u32 0)) W6 := ⟨(H6.out.1.cell (cell_lt x4)).trans x4, (H6.out.1.cell (cell_lt o0)).trans o0, (H6.out.1.cell (cell_lt o1)).trans o1, (H6.out.1.cell (cell_lt o2)).trans o2⟩
                          rw [hW6]
                          refine hK _ _ (fun _ => hS6) ?_
                          clear hK K hSS hS6 hW6
                          refine' anyBut.one (i := 10) ?Ab10 (by kernel_rfl) ?Bb10 ?Cb10
                          case Ab10 => simp only [List.getElem?_toArray, List.getElem?_cons_succ, List.getElem?_cons_zero]; rfl
                          case Bb10 => rfl
                          intro K hK
                          refine wp_appO 3 33 16 _ Yba.underlying33 info72 rfl (by decide) (by decide) _ _ _ rfl (C + 1) (vw 3) (nS (S3 E N k o) 3) (xS E N (S3 E N k o) 3) rfl (H9.out.1.own H6.out.1 3 (by decide)) [.int .u8 ok, .int .u32 oi, .int .u32 0, .bool wv] _ _ rfl H6.out.2 rfl (by simp [Value.oneCell']) (by show (useL E k ++ chTo E k o).length ≤ 4096; omega) (Nat.le_trans H9.out.1.hb H6.out.1.size) ?_
                          intro g cap W7 hown hgr hat hlt
                          obtain ⟨z1, z2⟩ := H9.out.1.cells H6.out.1 3 (by decide) hgr
                          simp only [xo] at z1 z2
                          have hbe := (H9.out.2.2.keep H6.out.1).app 3 (by decide) (n' := nS (S3 E N k o) 3 + 1) (cap := cap) hgr hat
                          have hSS : (fun w : World => w.cell? ⟨X, 4, none⟩ = some (vw 3) ∧ w.cell? ⟨OB, 0, none⟩ = some (.int .u8 ok) ∧ w.cell? ⟨OB, 1, none⟩ = some (.int .u32 oi) ∧ w.cell? ⟨OB, 2, none⟩ = some (.int .u32 0)) W7 := ⟨z1, hbe.row.cell (o := 0) rfl, hbe.row.cell (o := 1) rfl, hbe.row.cell (o := 2) rfl⟩
                          refine hK _ _ (fun _ => hSS) ?_
                          clear hK K
                          try simp only [Act.put, List.setIfInBounds_toArray, List.set_cons_zero, List.set_cons_succ]
                          refine' anyBut.one (i := 11) ?Ab11 (by kernel_rfl) ?Bb11 ?Cb11
                          case Ab11 => simp only [List.getElem?_toArray, List.getElem?_cons_succ, List.getElem?_cons_zero]; rfl
                          case Bb11 => rfl
                          intro K hK
                          go_simp
                          refine hK _ _ (fun _ => hSS) ?_
                          clear hK K
                          refine' anyBut.one (i := 12) ?Ab12 (by kernel_rfl) ?Bb12 ?Cb12
                          case Ab12 => simp only [List.getElem?_toArray, List.getElem?_cons_succ, List.getElem?_cons_zero]; rfl
                          case Bb12 => rfl
                          intro K hK
                          go_simp
                          refine hK _ _ (fun _ => hSS) ?_
                          clear hK K
                          refine' anyBut.one (i := 13) ?Ab13 (by kernel_rfl) ?Bb13 ?Cb13
                          case Ab13 => simp only [List.getElem?_toArray, List.getElem?_cons_succ, List.getElem?_cons_zero]; rfl
                          case Bb13 => rfl
                          intro K hK
                          go_simp
                          refine hK _ _ (fun h => absurd rfl h) ?_
                          clear hK K
                          refine anyBut.done (by kernel_rfl) ?_ _
                          go_wp2
                          go_meet
                          case rel =>
                            obtain ⟨v', hB, hX⟩ := H9.out.1.push H6.out.1 3 (by decide) (S3a E N k o) [.int .u8 ok, .int .u32 oi, .int .u32 0, .bool wv] (nS3 (S3 E N k o) (usO E k o)) (by have := xS3 E N (S3 E N k o) (usO E k o); rw [show (usO E k o).cs = [.int .u8 ok, .int .u32 oi, .int .u32 0, .bool wv] by rw [HU.out]] at this; exact this) hown hgr hat
                            exact ⟨v', hB, hX _ _ _ H9.out.2.1, hX _ _ _ H9.out.2.2⟩
                      case rest =>
                        obtain ⟨v2, hcut⟩ := hcut
                        have H10 : Hid _ := hcut.out
                        clear hcut H9
                        have x5 := H10.out.1.pX.cell (o := 5) rfl
                        simp only at x5
                        go_upto_region 36 with (at_builtin; refine wp_appB 4 57 1 _ Yba.underlying57 info86 rfl (by decide) (by decide) _ rfl _ _ rfl (C + 1) (v2 4) (nS (S3a E N k o) 4) (xS E N (S3a E N k o) 4) rfl (H10.out.1.own ((Below.refl _ _).alloc (Nat.le_refl _) _) 4 (by decide)) [.int .u8 0] _ _ rfl (heap_alloc_new _ _) rfl (by simp [Value.oneCell']) (by show (useL E k ++ chTo E k o).length ≤ 4096; omega) (H10.out.1.keep ((Below.refl _ _).alloc (Nat.le_refl _) _)).hb ?_; intro g0 cap0 W70 hown0 hgr0 hat0 hlt0; obtain ⟨z10, z20⟩ := H10.out.1.cells ((Below.refl _ _).alloc (Nat.le_refl _) _) 4 (by decide) hgr0; simp only [xo] at z10 z20)
                        obtain ⟨v3, hB0, hX0⟩ := H10.out.1.push ((Below.refl _ _).alloc (Nat.le_refl _) _) 4 (by decide) (S3b E N k o) [.int .u8 0] (nS4 _) (xS4 E N _) hown0 hgr0 hat0
                        have H11 : Hid ((BS W (W70.setCell ⟨X, 5, none⟩ (.slice (some ⟨g0, 0, none⟩) (nS (S3a E N k o) 4 + 1) cap0)) ⟨C + 1, X, M, T, L, C⟩ E N (S3b E N k o) ne (k + 1) k (k + 1) v3 v3 (fun o => v3 (6 + o))) ∧ (BE (W70.setCell ⟨X, 5, none⟩ (.slice (some ⟨g0, 0, none⟩) (nS (S3a E N k o) 4 + 1) cap0)) (C + 1) v3 EB 49 (evB th E k)) ∧ (BE (W70.setCell ⟨X, 5, none⟩ (.slice (some ⟨g0, 0, none⟩) (nS (S3a E N k o) 4 + 1) cap0)) (C + 1) v3 OB 70 (fun o => #[.int .u8 ok, .int .u32 oi, .int .u32 0][o]?))) := ⟨hB0, hX0 _ _ _ H10.out.2.1, hX0 _ _ _ H10.out.2.2⟩
                        obtain ⟨Wa, hWa⟩ : ∃ Wa, W70.setCell ⟨X, 5, none⟩ (.slice (some ⟨g0, 0, none⟩) (nS (S3a E N k o) 4 + 1) cap0) = Wa := ⟨_, rfl⟩
                        rw [hWa] at H11 ⊢
                        clear hWa hB0 hX0 hown0 hgr0 hat0 hlt0 z10 z20 x5 H10
                        have x6 := H11.out.1.pX.cell (o := 6) rfl
                        simp only at x6
                        have o0 := H11.out.2.2.row.cell (o := 0) rfl
                        have o1 := H11.out.2.2.row.cell (o := 1) rfl
                        have o2 := H11.out.2.2.row.cell (o := 2) rfl
                        have hwk : IntKind.i32.wrap (k : Int) = (k : Int) := by rw [IntKind.wrap_i32]; omega
                        refine anyBut.begin Yba.mixed (fun w : World => w.cell? ⟨X, 6, none⟩ = some (.map (some M)) ∧ w.cell? ⟨OB, 0, none⟩ = some (.int .u8 ok) ∧ w.cell? ⟨OB, 1, none⟩ = some (.int .u32 oi) ∧ w.cell? ⟨OB, 2, none⟩ = some (.int .u32 0)) 12 ?_
                        have hSS : (fun w : World => w.cell? ⟨X, 6, none⟩ = some (.map (some M)) ∧ w.cell? ⟨OB, 0, none⟩ = some (.int .u8 ok) ∧ w.cell? ⟨OB, 1, none⟩ = some (.int .u32 oi) ∧ w.cell? ⟨OB, 2, none⟩ = some (.int .u32 0)) Wa.drew := ⟨x6, o0, o1, o2⟩
                        refine' anyBut.take (i := 0) (v := _) ?Ac0 (by kernel_rfl) (by kernel_rfl) (by kernel_rfl) (by kernel_rfl) (by kernel_rfl) (fun _ _ _ h => h) (Or.inl ⟨?Bc0, ?Cc0⟩) hSS ?Dc0
                        case Ac0 => simp only [List.getElem?_toArray, List.getElem?_cons_succ, List.getElem?_cons_zero]; rfl
                        case Bc0 => rfl
                        case Cc0 => (intro w hSw; (try dsimp only at hSw); go_simp; (try with_reducible rfl))
                        try simp only [Act.put, List.setIfInBounds_toArray, List.set_cons_zero, List.set_cons_succ]
                        refine' anyBut.take (i := 1) (v := _) ?Ac1 (by kernel_rfl) (by kernel_rfl) (by kernel_rfl) (by kernel_rfl) (by kernel_rfl) (fun _ _ _ h => h) (Or.inl ⟨?Bc1, ?Cc1⟩) hSS ?Dc1
                        case Ac1 => simp only [List.getElem?_toArray, List.getElem?_cons_succ, List.getElem?_cons_zero]; rfl
                        case Bc1 => rfl
                        case Cc1 => (intro w hSw; (try dsimp only at hSw); go_simp; (try with_reducible rfl))
                        try simp only [Act.put, List.setIfInBounds_toArray, List.set_cons_zero, List.set_cons_succ]
                        refine' anyBut.take (i := 2) (v := _) ?Ac2 (by kernel_rfl) (by kernel_rfl) (by kernel_rfl) (by kernel_rfl) (by kernel_rfl) (fun _ _ _ h => h) (Or.inl ⟨?Bc2, ?Cc2⟩) hSS ?Dc2
                        case Ac2 => simp only [List.getElem?_toArray, List.getElem?_cons_succ, List.getElem?_cons_zero]; rfl
                        case Bc2 => rfl
                        case Cc2 => (intro w hSw; (try dsimp only at hSw); go_simp; (try with_reducible rfl))
                        try simp only [Act.put, List.setIfInBounds_toArray, List.set_cons_zero, List.set_cons_succ]
                        refine' anyBut.take (i := 3) (v := _) ?Ac3 (by kernel_rfl) (by kernel_rfl) (by kernel_rfl) (by kernel_rfl) (by kernel_rfl) (fun _ _ _ h => h) (Or.inl ⟨?Bc3, ?Cc3⟩) hSS ?Dc3
                        case Ac3 => simp only [List.getElem?_toArray, List.getElem?_cons_succ, List.getElem?_cons_zero]; rfl
                        case Bc3 => rfl
                        case Cc3 => (intro w hSw; (try dsimp only at hSw); go_simp; (try with_reducible rfl))
                        try simp only [Act.put, List.setIfInBounds_toArray, List.set_cons_zero, List.set_cons_succ]
                        refine' anyBut.take (i := 4) (v := _) ?Ac4 (by kernel_rfl) (by kernel_rfl) (by kernel_rfl) (by kernel_rfl) (by kernel_rfl) (fun _ _ _ h => h) (Or.inl ⟨?Bc4, ?Cc4⟩) hSS ?Dc4
                        case Ac4 => simp only [List.getElem?_toArray, List.getElem?_cons_succ, List.getElem?_cons_zero]; rfl
                        case Bc4 => rfl
                        case Cc4 => (intro w hSw; (try dsimp only at hSw); go_simp; (try with_reducible rfl))
                        try simp only [Act.put, List.setIfInBounds_toArray, List.set_cons_zero, List.set_cons_succ]
                        refine' anyBut.take (i := 5) (v := _) ?Ac5 (by kernel_rfl) (by kernel_rfl) (by kernel_rfl) (by kernel_rfl) (by kernel_rfl) (fun _ _ _ h => h) (Or.inl ⟨?Bc5, ?Cc5⟩) hSS ?Dc5
                        case Ac5 => simp only [List.getElem?_toArray, List.getElem?_cons_succ, List.getElem?_cons_zero]; rfl
                        case Bc5 => rfl
                        case Cc5 => (intro w hSw; (try dsimp only at hSw); go_simp; (try with_reducible rfl))
                        try simp only [Act.put, List.setIfInBounds_toArray, List.set_cons_zero, List.set_cons_succ]
                        refine' anyBut.take (i := 6) (v := _) ?Ac6 (by kernel_rfl) (by kernel_rfl) (by kernel_rfl) (by kernel_rfl) (by kernel_rfl) (fun _ _ _ h => h) (Or.inl ⟨?Bc6, ?Cc6⟩) hSS ?Dc6
                        case Ac6 => simp only [List.getElem?_toArray, List.getElem?_cons_succ, List.getElem?_cons_zero]; rfl
                        case Bc6 => rfl
                        case Cc6 => (intro w hSw; (try dsimp only at hSw); go_simp; (try with_reducible rfl))
                        try simp only [Act.put, List.setIfInBounds_toArray, List.set_cons_zero, List.set_cons_succ]
                        refine' anyBut.one (i := 7) ?Ac7 (by kernel_rfl) ?Bc7 ?Cc7
                        case Ac7 => simp only [List.getElem?_toArray, List.getElem?_cons_succ, List.getElem?_cons_zero]; rfl
                        case Bc7 => rfl
                        intro K hK
                        go_simp
                        obtain ⟨Wb, hWb⟩ : ∃ Wb, (Wa.alloc (.cells #[.int .i32 (k : Int)] 21)).drew = Wb := ⟨_, rfl⟩
                        have H6 : Hid (Below Wa.heap.size Wa Wb ∧ Wb.heap[Wa.heap.size]? = some (.cells #[.int .i32 (k : Int)] 21 (0, 0))) := by
                          rw [← hWb]
                          exact ⟨((Below.refl _ _).alloc (Nat.le_refl _) _).drew, heap_alloc_new Wa _⟩
                        have hS6 : (fun w : World => w.cell? ⟨X, 6, none⟩ = some (.map (some M)) ∧ w.cell? ⟨OB, 0, none⟩ = some (.int .u8 ok) ∧ w.cell? ⟨OB, 1, none⟩ = some (.int .u32 oi) ∧ w.cell? ⟨OB, 2, none⟩ = some (.int .u32 0)) Wb := ⟨(H6.out.1.cell (cell_lt x6)).trans x6, (H6.out.1.cell (cell_lt o0)).trans o0, (H6.out.1.cell (cell_lt o1)).trans o1, (H6.out.1.cell (cell_lt o2)).trans o2⟩
                        rw [hWb]
                        refine hK _ _ (fun _ => hS6) ?_
                        clear hK K hSS hWb
                        have hB6 : BS W Wb ⟨C + 1, X, M, T, L, C⟩ E N (S3b E N k o) ne (k + 1) k (k + 1) v3 v3 (fun o => v3 (6 + o)) := BI.keep H11.out.1 H6.out.1
                        obtain ⟨es, clk, hMb, hKE⟩ := hB6.mp
                        obtain ⟨st, es1, k1, hme, hst⟩ := hKE.entry o ho3
                        have hme1 : (Instr.mapEntry 58 (.map (some M)) (.agg #[.int .u8 ok, .int .u32 oi, .int .u32 0])).run Yba.prog Wb = .ok (.tuple #[v3 (6 + o), goInt st]) (ChangeMaps.setBlock Wb M (.map es1 k1)) := by
                          have := hme Wb M hMb
                          dsimp only [okey] at this
                          rw [HOK.out.1, HOK.out.2] at this
                          exact this
                        have HW6 : Hid (BS W Wb ⟨C + 1, X, M, T, L, C⟩ E N (S3b E N k o) ne (k + 1) k (k + 1) v3 v3 (fun o => v3 (6 + o))) := hB6
                        have HST : Hid _ := hst
                        clear hB6 hme hst hMb hKE x6 o0 o1 o2
                        refine' anyBut.one (i := 8) ?Ac8 (by kernel_rfl) ?Bc8 ?Cc8
                        case Ac8 => simp only [List.getElem?_toArray, List.getElem?_cons_succ, List.getElem?_cons_zero]; rfl
                        case Bc8 => rfl
                        intro K hK
                        go_simp
                        obtain ⟨Wc, hWc⟩ : ∃ Wc, ChangeMaps.setBlock Wb M (.map es1 k1) = Wc := ⟨_, rfl⟩
                        have hXM := HW6.out.d1.1
                        have hOBM : OB ≠ M := by have h1 := H11.out.2.2.ge; have h2 := HW6.out.hi.2.1; simp only at h2; omega
                        simp only at hXM
                        have HC : Hid (Wc = ChangeMaps.setBlock Wb M (.map es1 k1) ∧ ∀ k, k ≠ M → Wc.heap[k]? = Wb.heap[k]?) := ⟨hWc.symm, fun k hk' => by rw [← hWc]; simp [ChangeMaps.setBlock, Ne.symm hk']⟩
                        have hSS : (fun w : World => w.cell? ⟨X, 6, none⟩ = some (.map (some M)) ∧ w.cell? ⟨OB, 0, none⟩ = some (.int .u8 ok) ∧ w.cell? ⟨OB, 1, none⟩ = some (.int .u32 oi) ∧ w.cell? ⟨OB, 2, none⟩ = some (.int .u32 0)) Wc := ⟨(World.cell?_of_block (HC.out.2 X hXM)).trans hS6.1, (World.cell?_of_block (HC.out.2 OB hOBM)).trans hS6.2.1, (World.cell?_of_block (HC.out.2 OB hOBM)).trans hS6.2.2.1, (World.cell?_of_block (HC.out.2 OB hOBM)).trans hS6.2.2.2⟩
                        rw [hWc]
                        refine hK _ _ (fun _ => hSS) ?_
                        clear hK K hS6 hWc hme1
                        refine' anyBut.take (i := 9) (v := _) ?Ac9 (by kernel_rfl) (by kernel_rfl) (by kernel_rfl) (by kernel_rfl) (by kernel_rfl) (fun _ _ _ h => h) (Or.inl ⟨?Bc9, ?Cc9⟩) hSS ?Dc9
                        case Ac9 => simp only [List.getElem?_toArray, List.getElem?_cons_succ, List.getElem?_cons_zero]; rfl
                        case Bc9 => rfl
                        case Cc9 => (intro w hSw; (try dsimp only at hSw); go_simp; (try with_reducible rfl))
                        try simp only [Act.put, List.setIfInBounds_toArray, List.set_cons_zero, List.set_cons_succ]
                        refine' anyBut.take (i := 11) (v := _) ?Ac11 (by kernel_rfl) (by kernel_rfl) (by kernel_rfl) (by kernel_rfl) (by kernel_rfl) (fun _ _ _ h => h) (Or.inl ⟨?Bc11, ?Cc11⟩) hSS ?Dc11
                        case Ac11 => simp only [List.getElem?_toArray, List.getElem?_cons_succ, List.getElem?_cons_zero]; rfl
                        case Bc11 => rfl
                        case Cc11 => (intro w hSw; (try dsimp only at hSw); go_simp; (try with_reducible rfl))
                        try simp only [Act.put, List.setIfInBounds_toArray, List.set_cons_zero, List.set_cons_succ]
                        refine' anyBut.one (i := 10) ?Ac10 (by kernel_rfl) ?Bc10 ?Cc10
                        case Ac10 => simp only [List.getElem?_toArray, List.getElem?_cons_succ, List.getElem?_cons_zero]; rfl
                        case Bc10 => rfl
                        intro K hK
                        refine wp_appO 2 28 4 _ Yba.underlying28 info21 rfl (by decide) (by decide) _ _ _ rfl (C + 1) (v3 (6 + o)) ((S3b E N k o).ob o).length (((S3b E N k o).ob o).map (fun k : Nat => .int .i32 (k : Int))) rfl ?_ [.int .i32 (k : Int)] _ _ rfl ?_ rfl (by simp [Value.oneCell']) ?_ ?_ ?_
                        · exact own_setBlock' HC.out.1 (HW6.out.ownO o ho3) HW6.out.hi.2.1
                        · exact (HC.out.2 _ (by have h1 := H11.out.1.hb; have h2 := H11.out.1.hi.2.1; simp only at h1 h2; omega)).trans H6.out.2
                        · show (if o < o then obL E o (k + 1) else obL E o k).length ≤ 4096
                          rw [if_neg (by omega)]; have := obL_len E o k; omega
                        · rw [HC.out.1]; show C + 1 ≤ (Wb.heap.setIfInBounds _ _).size; rw [Array.size_setIfInBounds]; exact HW6.out.hb
                        intro g cap Wd hown hgr hat hlt
                        obtain ⟨es2, k2, hke, hes⟩ := HST.out (.slice (some ⟨g, 0, none⟩) (((S3b E N k o).ob o).length + 1) cap)
                        have hcs : Wc.heap.size = Wb.heap.size := by rw [HC.out.1]; simp [ChangeMaps.setBlock]
                        have hMl : M < Wb.heap.size := HW6.out.mp.lt
                        have hOl : OB < Wb.heap.size := by have := H11.out.2.2.row.lt; have := H6.out.1.size; omega
                        have hXl : X < Wb.heap.size := HW6.out.pX.lt
                        have hnb : ∀ q, q < C + 1 → some q ≠ (v3 (6 + o)).ownBlock := fun q hq e => by have := ((HW6.out.ownO o ho3).lt q e.symm).1; simp only at this; omega
                        have hMbb := HW6.out.hi.2.1
                        have hXbb := HW6.out.hi.1
                        simp only at hMbb hXbb
                        have hes1 : (Instr.entryStore 58 (.map (some M)) (.int .i64 (st : Int)) (.slice (some ⟨g, 0, none⟩) (((S3b E N k o).ob o).length + 1) cap)).run Yba.prog Wd = .ok () (ChangeMaps.setBlock Wd M (.map es2 k2)) := hes Wd M ((hgr.block M (by omega) (hnb M hMbb)).trans (by rw [HC.out.1]; exact setBlock_same _ _ _ hMl))
                        have hOB1 := hgr.block OB (by omega) (fun e => (H11.out.2.2.keep H6.out.1).ne (6 + o) (by omega) e.symm)
                        have hX1 := hgr.block X (by omega) (hnb X hXbb)
                        refine hK _ _ (fun _ => ⟨(World.cell?_of_block hX1).trans hSS.1, (World.cell?_of_block hOB1).trans hSS.2.1, (World.cell?_of_block hOB1).trans hSS.2.2.1, (World.cell?_of_block hOB1).trans hSS.2.2.2⟩) ?_
                        clear hK K
                        try simp only [Act.put, List.setIfInBounds_toArray, List.set_cons_zero, List.set_cons_succ]
                        refine' anyBut.one (i := 12) ?Ac12 (by kernel_rfl) ?Bc12 ?Cc12
                        case Ac12 => simp only [List.getElem?_toArray, List.getElem?_cons_succ, List.getElem?_cons_zero]; rfl
                        case Bc12 => rfl
                        intro K hK
                        go_simp
                        refine hK _ _ (fun h => absurd rfl h) ?_
                        clear hK K
                        refine anyBut.done (by kernel_rfl) ?_ _
                        go_wp2
                        go_roundg (3 - (o + 1))
                        case measure => omega
                        case rel =>
                          obtain ⟨v', hB, hX⟩ := BS.pushO H11.out.1 H6.out.1 o k ho3 es1 es2 k1 k2 HC.out.1 hown hgr hat hke
                          rw [← S3_next E N k o (by rw [HMv.out]; exact hM0)] at hB
                          exact ⟨o + 1, v', by omega, by go_num, hB, hX _ _ _ H11.out.2.1⟩

                  · have HO : Hid (o = 3) := by show _ = _; omega
                    have H13 : Hid (BS W wr ⟨C + 1, X, M, T, L, C⟩ E N (S3 E N k 3) ne (k + 1) k (k + 1) vw vw (fun o => vw (6 + o)) ∧ BE wr (C + 1) vw EB 49 (evB th E k)) := by have := H4.out; rw [HO.out] at this; exact this
                    have lus3 : (useL E k ++ chTo E k 3).length ≤ 2048 := by rw [← HO.out]; exact lus
                    clear H4 HO lus
                    obtain ⟨en, hen⟩ : ∃ en, E.en k = en := ⟨_, rfl⟩
                    have b4 := H13.out.2.row.cell (o := 4) rfl
                    rw [hen] at b4
                    have HEN : Hid (E.en k = en) := hen
                    clear hen
                    go_upto_if 168 with fail
                    go_cut [] (fun wx => ∃ vv : Nat → Value, Hid (BS W wx ⟨C + 1, X, M, T, L, C⟩ E N (S4 E N k) ne (k + 1) k (k + 1) vv vv (fun o => vv (6 + o)) ∧ BE wx (C + 1) vv EB 49 (evB th E k)))
                    case first => as_aux_lemma =>
                      cases en
                      · go_wp2
                        go_meet
                        case rel => exact ⟨vw, by rw [S4_no E N k HEN.out]; exact H13.out.1, H13.out.2⟩
                      · have x4 := H13.out.1.pX.cell (o := 4) rfl
                        simp only at x4
                        go_upto_region 39 with (at_builtin; refine wp_appB 3 33 16 _ Yba.underlying33 info72 rfl (by decide) (by decide) _ rfl _ _ rfl (C + 1) (vw 3) (nS (S3 E N k 3) 3) (xS E N (S3 E N k 3) 3) rfl (H13.out.1.own ((Below.refl _ _).alloc (Nat.le_refl _) _) 3 (by decide)) [.int .u8 7, .int .u32 0, .int .u32 0, .bool true] _ _ rfl (heap_alloc_new _ _) rfl (by simp [Value.oneCell']) (by show (useL E k ++ chTo E k 3).length ≤ 4096; omega) (H13.out.1.keep ((Below.refl _ _).alloc (Nat.le_refl _) _)).hb ?_; intro g0 cap0 W70 hown0 hgr0 hat0 hlt0; obtain ⟨z10, z20⟩ := H13.out.1.cells ((Below.refl _ _).alloc (Nat.le_refl _) _) 3 (by decide) hgr0; simp only [xo] at z10 z20)
                        obtain ⟨v5, hB0, hX0⟩ := H13.out.1.push ((Below.refl _ _).alloc (Nat.le_refl _) _) 3 (by decide) (S4a E N k) [.int .u8 7, .int .u32 0, .int .u32 0, .bool true] (nS3 (S3 E N k 3) ⟨7, 0, 0, true⟩) (xS3 E N (S3 E N k 3) ⟨7, 0, 0, true⟩) hown0 hgr0 hat0
                        obtain ⟨We, hWe⟩ : ∃ We, W70.setCell ⟨X, 4, none⟩ (.slice (some ⟨g0, 0, none⟩) (nS (S3 E N k 3) 3 + 1) cap0) = We := ⟨_, rfl⟩
                        have H14 : Hid (BS W We ⟨C + 1, X, M, T, L, C⟩ E N (S4a E N k) ne (k + 1) k (k + 1) v5 v5 (fun o => v5 (6 + o)) ∧ BE We (C + 1) v5 EB 49 (evB th E k)) := by rw [← hWe]; exact ⟨hB0, hX0 _ _ _ H13.out.2⟩
                        rw [hWe]
                        clear hWe hB0 hX0 hown0 hgr0 hat0 hlt0 z10 z20
                        have x5 := H14.out.1.pX.cell (o := 5) rfl
                        simp only at x5
                        go_wp2_with (at_builtin; refine wp_appB 4 57 1 _ Yba.underlying57 info86 rfl (by decide) (by decide) _ rfl _ _ rfl (C + 1) (v5 4) (nS (S4a E N k) 4) (xS E N (S4a E N k) 4) rfl (H14.out.1.own ((Below.refl _ _).alloc (Nat.le_refl _) _) 4 (by decide)) [.int .u8 0] _ _ rfl (heap_alloc_new _ _) rfl (by simp [Value.oneCell']) (by show (useL E k ++ chTo E k 3).length ≤ 4096; omega) (H14.out.1.keep ((Below.refl _ _).alloc (Nat.le_refl _) _)).hb ?_; intro g1 cap1 W71 hown1 hgr1 hat1 hlt1; obtain ⟨z11, z21⟩ := H14.out.1.cells ((Below.refl _ _).alloc (Nat.le_refl _) _) 4 (by decide) hgr1; simp only [xo] at z11 z21)
                        go_meet
                        case rel =>
                          obtain ⟨v6, hB1, hX1⟩ := H14.out.1.push ((Below.refl _ _).alloc (Nat.le_refl _) _) 4 (by decide) (S4 E N k) [.int .u8 0] (by rw [S4_yes E N k HEN.out]; exact nS4 _) (by rw [S4_yes E N k HEN.out]; exact xS4 E N _) hown1 hgr1 hat1
                          exact ⟨v6, hB1, hX1 _ _ _ H14.out.2⟩
                    case rest => 
                      obtain ⟨v6, hcut⟩ := hcut
                      obtain ⟨wc2, hwc2⟩ : ∃ wc2, wc = wc2 := ⟨_, rfl⟩
                      have H15 : Hid (BS W wc2 ⟨C + 1, X, M, T, L, C⟩ E N (S4 E N k) ne (k + 1) k (k + 1) v6 v6 (fun o => v6 (6 + o)) ∧ BE wc2 (C + 1) v6 EB 49 (evB th E k)) := by rw [← hwc2]; exact hcut.out
                      rw [hwc2]
                      clear hcut H13 hwc2 b4 HEN lus3
                      go_upto_region 40 with fail
                      go_cut [] (fun wx => ∃ vv : Nat → Value, Hid (BS W wx ⟨C + 1, X, M, T, L, C⟩ E N (S5 E N k) ne (k + 1) k (k + 1) vv vv (fun o => vv (6 + o)) ∧ BE wx (C + 1) vv EB 49 (evB th E k)))
                      case first => as_aux_lemma =>
                        have x1 := H15.out.1.pX.cell (o := 1) rfl
                        have x7 := H15.out.1.pX.cell (o := 7) rfl
                        obtain ⟨a7, c7, v7⟩ := H15.out.1.shape 5 (by decide)
                        simp only at x1 x7
                        rw [v7] at x7
                        simp only [nS, S4] at x7
                        simp only [List.length_nil] at x7
                        have hw0 : IntKind.i32.wrap 0 = 0 := by decide
                        clear v7
                        refine anyBut.begin Yba.mixed (fun w : World => w.cell? ⟨X, 1, none⟩ = some (v6 0) ∧ w.cell? ⟨X, 7, none⟩ = some (.slice a7 0 c7)) 18 ?_
                        have hSS : (fun w : World => w.cell? ⟨X, 1, none⟩ = some (v6 0) ∧ w.cell? ⟨X, 7, none⟩ = some (.slice a7 0 c7)) wc2.drew := ⟨x1, x7⟩
                        refine' anyBut.take (i := 0) (v := _) ?Ad0 (by kernel_rfl) (by kernel_rfl) (by kernel_rfl) (by kernel_rfl) (by kernel_rfl) (fun _ _ _ h => h) (Or.inl ⟨?Bd0, ?Cd0⟩) hSS ?Dd0
                        case Ad0 => simp only [List.getElem?_toArray, List.getElem?_cons_succ, List.getElem?_cons_zero]; rfl
                        case Bd0 => rfl
                        case Cd0 => (intro w hSw; (try dsimp only at hSw); go_simp; (try with_reducible rfl))
                        try simp only [Act.put, List.setIfInBounds_toArray, List.set_cons_zero, List.set_cons_succ]
                        refine' anyBut.take (i := 1) (v := _) ?Ad1 (by kernel_rfl) (by kernel_rfl) (by kernel_rfl) (by kernel_rfl) (by kernel_rfl) (fun _ _ _ h => h) (Or.inl ⟨?Bd1, ?Cd1⟩) hSS ?Dd1
                        case Ad1 => simp only [List.getElem?_toArray, List.getElem?_cons_succ, List.getElem?_cons_zero]; rfl
                        case Bd1 => rfl
                        case Cd1 => (intro w hSw; (try dsimp only at hSw); go_simp; (try with_reducible rfl))
                        try simp only [Act.put, List.setIfInBounds_toArray, List.set_cons_zero, List.set_cons_succ]
                        refine' anyBut.take (i := 2) (v := _) ?Ad2 (by kernel_rfl) (by kernel_rfl) (by kernel_rfl) (by kernel_rfl) (by kernel_rfl) (fun _ _ _ h => h) (Or.inl ⟨?Bd2, ?Cd2⟩) hSS ?Dd2
                        case Ad2 => simp only [List.getElem?_toArray, List.getElem?_cons_succ, List.getElem?_cons_zero]; rfl
                        case Bd2 => rfl
                        case Cd2 => (intro w hSw; (try dsimp only at hSw); go_simp; (try with_reducible rfl))
                        try simp only [Act.put, List.setIfInBounds_toArray, List.set_cons_zero, List.set_cons_succ]
                        refine' anyBut.take (i := 3) (v := _) ?Ad3 (by kernel_rfl) (by kernel_rfl) (by kernel_rfl) (by kernel_rfl) (by kernel_rfl) (fun _ _ _ h => h) (Or.inl ⟨?Bd3, ?Cd3⟩) hSS ?Dd3
                        case Ad3 => simp only [List.getElem?_toArray, List.getElem?_cons_succ, List.getElem?_cons_zero]; rfl
                        case Bd3 => rfl
                        case Cd3 => (intro w hSw; (try dsimp only at hSw); go_simp; (try with_reducible rfl))
                        try simp only [Act.put, List.setIfInBounds_toArray, List.set_cons_zero, List.set_cons_succ]
                        refine' anyBut.take (i := 4) (v := _) ?Ad4 (by kernel_rfl) (by kernel_rfl) (by kernel_rfl) (by kernel_rfl) (by kernel_rfl) (fun _ _ _ h => h) (Or.inl ⟨?Bd4, ?Cd4⟩) hSS ?Dd4
                        case Ad4 => simp only [List.getElem?_toArray, List.getElem?_cons_succ, List.getElem?_cons_zero]; rfl
                        case Bd4 => rfl
                        case Cd4 => (intro w hSw; (try dsimp only at hSw); go_simp; (try with_reducible rfl))
                        try simp only [Act.put, List.setIfInBounds_toArray, List.set_cons_zero, List.set_cons_succ]
                        refine' anyBut.take (i := 5) (v := _) ?Ad5 (by kernel_rfl) (by kernel_rfl) (by kernel_rfl) (by kernel_rfl) (by kernel_rfl) (fun _ _ _ h => h) (Or.inl ⟨?Bd5, ?Cd5⟩) hSS ?Dd5
                        case Ad5 => simp only [List.getElem?_toArray, List.getElem?_cons_succ, List.getElem?_cons_zero]; rfl
                        case Bd5 => rfl
                        case Cd5 => (intro w hSw; (try dsimp only at hSw); go_simp; (try with_reducible rfl))
                        try simp only [Act.put, List.setIfInBounds_toArray, List.set_cons_zero, List.set_cons_succ]
                        refine' anyBut.take (i := 6) (v := _) ?Ad6 (by kernel_rfl) (by kernel_rfl) (by kernel_rfl) (by kernel_rfl) (by kernel_rfl) (fun _ _ _ h => h) (Or.inl ⟨?Bd6, ?Cd6⟩) hSS ?Dd6
                        case Ad6 => simp only [List.getElem?_toArray, List.getElem?_cons_succ, List.getElem?_cons_zero]; rfl
                        case Bd6 => rfl
                        case Cd6 => (intro w hSw; (try dsimp only at hSw); go_simp; (try with_reducible rfl))
                        try simp only [Act.put, List.setIfInBounds_toArray, List.set_cons_zero, List.set_cons_succ]
                        refine' anyBut.take (i := 7) (v := _) ?Ad7 (by kernel_rfl) (by kernel_rfl) (by kernel_rfl) (by kernel_rfl) (by kernel_rfl) (fun _ _ _ h => h) (Or.inl ⟨?Bd7, ?Cd7⟩) hSS ?Dd7
                        case Ad7 => simp only [List.getElem?_toArray, List.getElem?_cons_succ, List.getElem?_cons_zero]; rfl
                        case Bd7 => rfl
                        case Cd7 => (intro w hSw; (try dsimp only at hSw); go_simp; (try with_reducible rfl))
                        try simp only [Act.put, List.setIfInBounds_toArray, List.set_cons_zero, List.set_cons_succ]
                        refine' anyBut.take (i := 8) (v := _) ?Ad8 (by kernel_rfl) (by kernel_rfl) (by kernel_rfl) (by kernel_rfl) (by kernel_rfl) (fun _ _ _ h => h) (Or.inl ⟨?Bd8, ?Cd8⟩) hSS ?Dd8
                        case Ad8 => simp only [List.getElem?_toArray, List.getElem?_cons_succ, List.getElem?_cons_zero]; rfl
                        case Bd8 => rfl
                        case Cd8 => (intro w hSw; (try dsimp only at hSw); go_simp; (try with_reducible rfl))
                        try simp only [Act.put, List.setIfInBounds_toArray, List.set_cons_zero, List.set_cons_succ]
                        refine' anyBut.take (i := 9) (v := _) ?Ad9 (by kernel_rfl) (by kernel_rfl) (by kernel_rfl) (by kernel_rfl) (by kernel_rfl) (fun _ _ _ h => h) (Or.inl ⟨?Bd9, ?Cd9⟩) hSS ?Dd9
                        case Ad9 => simp only [List.getElem?_toArray, List.getElem?_cons_succ, List.getElem?_cons_zero]; rfl
                        case Bd9 => rfl
                        case Cd9 => (intro w hSw; (try dsimp only at hSw); go_simp; (try with_reducible rfl))
                        try simp only [Act.put, List.setIfInBounds_toArray, List.set_cons_zero, List.set_cons_succ]
                        refine' anyBut.take (i := 10) (v := _) ?Ad10 (by kernel_rfl) (by kernel_rfl) (by kernel_rfl) (by kernel_rfl) (by kernel_rfl) (fun _ _ _ h => h) (Or.inl ⟨?Bd10, ?Cd10⟩) hSS ?Dd10
                        case Ad10 => simp only [List.getElem?_toArray, List.getElem?_cons_succ, List.getElem?_cons_zero]; rfl
                        case Bd10 => rfl
                        case Cd10 => (intro w hSw; (try dsimp only at hSw); go_simp; (try with_reducible rfl))
                        try simp only [Act.put, List.setIfInBounds_toArray, List.set_cons_zero, List.set_cons_succ]
                        refine' anyBut.take (i := 11) (v := _) ?Ad11 (by kernel_rfl) (by kernel_rfl) (by kernel_rfl) (by kernel_rfl) (by kernel_rfl) (fun _ _ _ h => h) (Or.inl ⟨?Bd11, ?Cd11⟩) hSS ?Dd11
                        case Ad11 => simp only [List.getElem?_toArray, List.getElem?_cons_succ, List.getElem?_cons_zero]; rfl
                        case Bd11 => rfl
                        case Cd11 => (intro w hSw; (try dsimp only at hSw); go_simp; (try with_reducible rfl))
                        try simp only [Act.put, List.setIfInBounds_toArray, List.set_cons_zero, List.set_cons_succ]
                        refine' anyBut.take (i := 12) (v := _) ?Ad12 (by kernel_rfl) (by kernel_rfl) (by kernel_rfl) (by kernel_rfl) (by kernel_rfl) (fun _ _ _ h => h) (Or.inl ⟨?Bd12, ?Cd12⟩) hSS ?Dd12
                        case Ad12 => simp only [List.getElem?_toArray, List.getElem?_cons_succ, List.getElem?_cons_zero]; rfl
                        case Bd12 => rfl
                        case Cd12 => (intro w hSw; (try dsimp only at hSw); go_simp; (try with_reducible rfl))
                        try simp only [Act.put, List.setIfInBounds_toArray, List.set_cons_zero, List.set_cons_succ]
                        refine' anyBut.take (i := 13) (v := _) ?Ad13 (by kernel_rfl) (by kernel_rfl) (by kernel_rfl) (by kernel_rfl) (by kernel_rfl) (fun _ _ _ h => h) (Or.inl ⟨?Bd13, ?Cd13⟩) hSS ?Dd13
                        case Ad13 => simp only [List.getElem?_toArray, List.getElem?_cons_succ, List.getElem?_cons_zero]; rfl
                        case Bd13 => rfl
                        case Cd13 => (intro w hSw; (try dsimp only at hSw); go_simp; (try with_reducible rfl))
                        try simp only [Act.put, List.setIfInBounds_toArray, List.set_cons_zero, List.set_cons_succ]
                        refine' anyBut.one (i := 14) ?Ad14 (by kernel_rfl) ?Bd14 ?Cd14
                        case Ad14 => simp only [List.getElem?_toArray, List.getElem?_cons_succ, List.getElem?_cons_zero]; rfl
                        case Bd14 => rfl
                        intro K hK
                        refine wp_node _ rfl (tk : Int) rfl ?_
                        obtain ⟨W6, hW6⟩ : ∃ W6, (wc2.alloc (.cells #[.int .i32 (tk : Int), .int .i32 0, .int .i32 0, .int .i32 0, .int .i32 0, .int .i32 0, .bool false, .slice none 0 0, .pointer none] 53)).drew = W6 := ⟨_, rfl⟩
                        have H6 : Hid (Below wc2.heap.size wc2 W6 ∧ W6.heap[wc2.heap.size]? = some (.cells #[.int .i32 (tk : Int), .int .i32 0, .int .i32 0, .int .i32 0, .int .i32 0, .int .i32 0, .bool false, .slice none 0 0, .pointer none] 53 (0, 0))) := by
                          rw [← hW6]
                          exact ⟨((Below.refl _ _).alloc (Nat.le_refl _) _).drew, heap_alloc_new wc2 _⟩
                        have hS6 : (fun w : World => w.cell? ⟨X, 1, none⟩ = some (v6 0) ∧ w.cell? ⟨X, 7, none⟩ = some (.slice a7 0 c7)) W6 := ⟨(H6.out.1.cell (cell_lt x1)).trans x1, (H6.out.1.cell (cell_lt x7)).trans x7⟩
                        rw [hW6]
                        refine hK _ _ (fun _ => hS6) ?_
                        clear hK K hSS hS6 hW6
                        try simp only [Act.put, List.setIfInBounds_toArray, List.set_cons_zero, List.set_cons_succ]
                        refine' anyBut.one (i := 15) ?Ad15 (by kernel_rfl) ?Bd15 ?Cd15
                        case Ad15 => simp only [List.getElem?_toArray, List.getElem?_cons_succ, List.getElem?_cons_zero]; rfl
                        case Bd15 => rfl
                        intro K hK
                        refine wp_app0 _ _ _ rfl (C + 1) (v6 0) (nS (S4 E N k) 0) (xS E N (S4 E N k) 0) rfl (H15.out.1.own H6.out.1 0 (by decide)) (tk : Int) _ _ rfl H6.out.2 (by show k ≤ 4096; omega) (Nat.le_trans H15.out.1.hb H6.out.1.size) ?_
                        intro g cap W7 hown hgr hat hlt
                        obtain ⟨z1, z2⟩ := H15.out.1.cells H6.out.1 0 (by decide) hgr
                        simp only [xo] at z1 z2
                        have hfar := BI.far H15.out.1 H6.out.1 0 (by decide) hgr X H15.out.1.hi.1
                        have hSS : (fun w : World => w.cell? ⟨X, 1, none⟩ = some (v6 0) ∧ w.cell? ⟨X, 7, none⟩ = some (.slice a7 0 c7)) W7 := ⟨z1, (World.cell?_of_block hfar).trans x7⟩
                        refine hK _ _ (fun _ => hSS) ?_
                        clear hK K
                        try simp only [Act.put, List.setIfInBounds_toArray, List.set_cons_zero, List.set_cons_succ]
                        refine' anyBut.one (i := 16) ?Ad16 (by kernel_rfl) ?Bd16 ?Cd16
                        case Ad16 => simp only [List.getElem?_toArray, List.getElem?_cons_succ, List.getElem?_cons_zero]; rfl
                        case Bd16 => rfl
                        intro K hK
                        go_simp
                        refine hK _ _ (fun _ => hSS) ?_
                        clear hK K
                        refine' anyBut.one (i := 17) ?Ad17 (by kernel_rfl) ?Bd17 ?Cd17
                        case Ad17 => simp only [List.getElem?_toArray, List.getElem?_cons_succ, List.getElem?_cons_zero]; rfl
                        case Bd17 => rfl
                        intro K hK
                        go_simp
                        refine hK _ _ (fun _ => hSS) ?_
                        clear hK K
                        refine' anyBut.one (i := 18) ?Ad18 (by kernel_rfl) ?Bd18 ?Cd18
                        case Ad18 => simp only [List.getElem?_toArray, List.getElem?_cons_succ, List.getElem?_cons_zero]; rfl
                        case Bd18 => rfl
                        intro K hK
                        go_simp
                        refine hK _ _ (fun h => absurd rfl h) ?_
                        clear hK K
                        refine anyBut.done (by kernel_rfl) ?_ _
                        go_wp2
                        go_meet
                        case rel =>
                          rw [← HTT.out.1] at hown
                          obtain ⟨v', hB, hX⟩ := H15.out.1.push H6.out.1 0 (by decide) (S5 E N k) _ (nS0 (S4 E N k)) (xS0 E N (S4 E N k)) hown hgr hat
                          exact ⟨v', hB, hX _ _ _ H15.out.2⟩
                      case rest =>
                        obtain ⟨v7, hcut⟩ := hcut
                        have H16 : Hid (BS W wc ⟨C + 1, X, M, T, L, C⟩ E N (S5 E N k) ne (k + 1) k (k + 1) v7 v7 (fun o => v7 (6 + o)) ∧ BE wc (C + 1) v7 EB 49 (evB th E k)) := hcut.out
                        clear hcut H15
                        have hwk : IntKind.i32.wrap (k : Int) = (k : Int) := by rw [IntKind.wrap_i32]; omega
                        have lc := H16.out.1.pL.cell (o := tk) (gN_at htN)
                        have lf := H16.out.1.pL.fz tk
                        simp only at lc lf
                        go_wp2
                        go_roundg (ne - (k + 1))
                        case measure => omega
                        case rel =>
                          refine ⟨k + 1, v7, by omega, by go_num, ?_⟩
                          have h1 := BI.setL H16.out.1 (o := tk) (gN_at htN) (.int .i32 (k : Int))
                          rw [gN_set N _ (fun t => la E N t (k + 1)) tk htN (k : Int) (fun x => by
                            by_cases e : x = tk
                            · rw [if_pos e, e, la, if_pos HTT.out.1.symm]
                            · rw [if_neg e, la, if_neg (by rw [HTT.out.1]; exact e)])] at h1
                          exact BS.next (k := k) h1
        · have hkn : k = ne := by omega
          subst hkn
          go_wp2
          go_ret3
          exact (show BldOut W k E N _ _ from ⟨_, vv, rfl, H.out⟩)
end Go.Proofs.Ybulkbxvu.Ck
