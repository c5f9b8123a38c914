/-
  slices.Sort at []int32: pdqsort, Sort.
-/
import Derived.Test.YbulkbxvuS8
namespace Go.Proofs.Ybulkbxvu
open Go.RowKit
open Go.Sort
set_option linter.unusedVariables false

/-- A world whose row is a permutation of dk on [a, b). -/
def PW (w W : World) (blk off m a b : Nat) (dk : Array Int) : Prop := ∃ d', PermIn a b dk d' ∧ SA w W blk off m d'

set_option maxHeartbeats 8000000 in
set_option maxRecDepth 100000 in
theorem pdq_step (w : World) (blk off m c n N : Nat) (hn : (n : Int) < 1000000)
    (IH : Hid (∀ (a b : Nat) (L : Int) (d : Array Int) (W : World), b - a < N → d.size = n → SA w W blk off m d → a ≤ b → b ≤ n → Bel a b d → Calls Yba.prog 28 #[sl blk off n c, .int .i64 a, .int .i64 b, .int .i64 L] W fun e W' => e = .returned (.tuple #[]) ∧ Sorted w W' blk off m a b d))
    (a b : Nat) (L : Int) (d : Array Int) (W : World) (hN : b - a ≤ N) (hd : d.size = n) (h : SA w W blk off m d) (hab : a ≤ b) (hb : b ≤ n) (hbel : Bel a b d) :
    Calls Yba.prog 28 #[sl blk off n c, .int .i64 a, .int .i64 b, .int .i64 L] W fun e W' => e = .returned (.tuple #[]) ∧ Sorted w W' blk off m a b d := by
  have HQ0 : Hid (QI d a b a b d) := QI.start hbel hab (by omega)
  have hd : Hid (d.size = n) := hd
  clear hbel
  go_enter Yba.func28, Yba.ntmps28
  go_wp2
  go_loopg [1, 2, 3, 8, 9] (b - a) (fun g v1 v2 v3 v8 v9 wx => ∃ (a' b' : Nat) (L : Int) (wb wp : Bool) (dk : Array Int), v1 = .int .i64 (a' : Int) ∧ v2 = .int .i64 (b' : Int) ∧ v3 = .int .i64 L ∧ v8 = .bool wb ∧ v9 = .bool wp ∧ g + a' = b' ∧ g ≤ b - a ∧ Hid (QI d a b a' b' dk ∧ SA w wx blk off m dk))
  case atStart => exact ⟨a, b, L, true, true, d, rfl, rfl, rfl, rfl, rfl, by omega, Nat.le_refl _, HQ0.out, h⟩
  case round =>
    clear h HQ0
    obtain ⟨a', b', L', wb, wp, dk, rfl, rfl, rfl, rfl, rfl, hg, hgb, H⟩ := hrel
    have hs : Hid (dk.size = n) := by show _ = _; rw [H.out.1.size]; exact hd.out
    have h1 := H.out.1.ha
    have h2 := H.out.1.hab
    have h3 := H.out.1.hb
    by_cases h12 : (b' : Int) - (a' : Int) ≤ 12
    · have HC : Hid _ := insertion_any w wr blk off m c a' b' dk H.out.2 h2 (by rw [hs.out]; omega) (by rw [hs.out]; exact hn)
      rw [hs.out] at HC
      go_wp2_with (go_at_call 39; refine Calls.mono HC.out ?_; rintro e W1 ⟨rfl, hS⟩)
      refine bodyPost_ret (v := .tuple #[]) (by simp [results, Yba.results28, go_sem]) rfl ?_
      have hI := insertionSort_holds swoI dk a' b' h2 (by rw [hs.out]; omega)
      obtain ⟨f1, f2⟩ := (H.out.1.go hI.1).fin (Srt.of hI.2)
      exact ⟨rfl, _, f1, f2, hS⟩
    · by_cases hL : L' = 0
      · subst hL
        have HC : Hid _ := heap_any w wr blk off m c a' b' dk H.out.2 h2 (by rw [hs.out]; omega) (by rw [hs.out]; exact hn)
        rw [hs.out] at HC
        go_wp2_with (go_at_call 40; refine Calls.mono HC.out ?_; rintro e W1 ⟨rfl, hS⟩)
        refine bodyPost_ret (v := .tuple #[]) (by simp [results, Yba.results28, go_sem]) rfl ?_
        have hI := heapSort_holds swoI dk a' b' h2 (by rw [hs.out]; omega)
        obtain ⟨f1, f2⟩ := (H.out.1.go hI.1).fin (Srt.of hI.2)
        exact ⟨rfl, _, f1, f2, hS⟩
      · have hL2 : (L' == 0) = false := by rw [beq_eq_false_iff_ne]; exact hL
        clear hL
        have HQ : Hid (QI d a b a' b' dk) := H.out.1
        have HS : Hid (SA w wr blk off m dk) := H.out.2
        clear H
        go_upto_if 35 with fail
        go_cut [3] (fun v wx => (∃ L2 : Int, v = .int .i64 L2) ∧ Hid (PW w wx blk off m a' b' dk))
        case first => as_aux_lemma =>
          cases wb
          · have HC : Hid _ := break_any w wr blk off m c a' b' dk HS.out (by omega) (by rw [hs.out]; omega) (by rw [hs.out]; exact hn)
            rw [hs.out] at HC
            simp only [Bool.not_false]
            go_wp2_with (go_at_call 41; refine Calls.mono HC.out ?_; rintro e W1 ⟨rfl, d', hp, hS⟩)
            go_meet
            case rel => exact ⟨⟨_, rfl⟩, d', hp, hS⟩
          · simp only [Bool.not_true]
            go_wp2
            go_meet
            case rel => exact ⟨⟨_, rfl⟩, dk, permIn_refl _ _ _, HS.out⟩
        case rest =>
          obtain ⟨⟨L2, rfl⟩, hcut⟩ := hcut
          obtain ⟨dk1, hp1, hS1⟩ := hcut.out
          have HQ1 : Hid (QI d a b a' b' dk1) := HQ.out.go hp1
          have hs1 : Hid (dk1.size = n) := by show _ = _; rw [HQ1.out.size]; exact hd.out
          have HC1 : Hid _ := pivot_any w wc blk off m c dk1 (a' : Int) (b' : Int) hS1 (by omega) (by rw [hs1.out]; omega) (by rw [hs1.out]; exact hn) (by omega)
          rw [hs1.out] at HC1
          clear hcut hp1 hS1 HQ HS hL2 hs
          go_upto_if 50 with (go_at_call 42; refine Calls.mono HC1.out ?_; rintro e W1 ⟨x, y, rfl, hx1, hx2, hS2⟩)
          have HS2 : Hid (SA w W1 blk off m dk1) := hS2
          clear hS2 HC1
          go_cut [11, 12] (fun v v' wx => (∃ p : Nat, v = .int .i64 (p : Int) ∧ a' ≤ p ∧ p < b') ∧ (∃ y' : Int, v' = .int .i64 y') ∧ Hid (PW w wx blk off m a' b' dk1))
          case first => as_aux_lemma =>
            by_cases hy : y = 2
            · have hy2 : (y == 2) = true := by rw [hy]; rfl
              rw [hy2]
              clear hy
              have HC : Hid _ := reverse_any w W1 blk off m c a' b' dk1 HS2.out h2 (by rw [hs1.out]; omega) (by rw [hs1.out]; exact hn)
              rw [hs1.out] at HC
              go_wp2_with (go_at_call 43; refine Calls.mono HC.out ?_; rintro e W1 ⟨rfl, d', hp, hS⟩)
              go_meet
              case rel => exact ⟨⟨((b' : Int) - 1 - (x - (a' : Int))).toNat, by congr 1; omega, by omega, by omega⟩, ⟨_, rfl⟩, d', hp, hS⟩
            · have hy2 : (y == 2) = false := by rw [beq_eq_false_iff_ne]; exact hy
              rw [hy2]
              clear hy
              go_wp2
              go_meet
              case rel => exact ⟨⟨x.toNat, by congr 1; omega, by omega, by omega⟩, ⟨_, rfl⟩, dk1, permIn_refl _ _ _, HS2.out⟩
          case rest =>
            obtain ⟨⟨pv, rfl, hpv1, hpv2⟩, ⟨y', rfl⟩, hcut⟩ := hcut
            obtain ⟨dk2, hp2, hS3⟩ := hcut.out
            have HQ2 : Hid (QI d a b a' b' dk2) := HQ1.out.go hp2
            have hs2 : Hid (dk2.size = n) := by show _ = _; rw [HQ2.out.size]; exact hd.out
            have HS3 : Hid (SA w wc blk off m dk2) := hS3
            clear hcut hp2 hS3 HQ1 HS2 hs1 hx1 hx2
            obtain ⟨o, ho⟩ : ∃ o, (wb && wp && (y' == 1)) = o := ⟨_, rfl⟩
            have HO : Hid ((wb && wp && (y' == 1)) = o) := ho
            clear ho
            go_upto_region 15 with fail
            go_cut [68] (fun v wx => v = .bool o ∧ wx = wc)
            case first => as_aux_lemma =>
              cases wb
              · go_wp2
                go_meet
                case rel => exact ⟨by rw [← HO.out]; rfl, rfl⟩
              · cases wp
                · go_wp2
                  go_meet
                  case rel => exact ⟨by rw [← HO.out]; rfl, rfl⟩
                · go_wp2
                  go_meet
                  case rel => exact ⟨by rw [← HO.out]; simp, rfl⟩
            case rest =>
              obtain ⟨rfl, rfl⟩ := hcut
              go_upto_if 68 with fail
              go_cut [] (fun wx => Hid (PW w wx blk off m a' b' dk2))
              case first => as_aux_lemma =>
                cases o
                · go_wp2
                  go_meet
                  case rel => exact ⟨dk2, permIn_refl _ _ _, HS3.out⟩
                · have HC : Hid _ := partial_any w wc blk off m c a' b' dk2 HS3.out (by omega) (by rw [hs2.out]; omega) (by rw [hs2.out]; exact hn)
                  rw [hs2.out] at HC
                  have hI := partialInsertionSort_holds swoI dk2 a' b' (by omega) (by rw [hs2.out]; omega) HQ2.out.bel.below
                  obtain ⟨⟨R1, R2⟩, hR⟩ : ∃ R, partialInsertionSort ltInt dk2 a' b' = R := ⟨_, rfl⟩
                  rw [hR] at HC hI
                  have HI : Hid (PermIn a' b' dk2 R1 ∧ (R2 = true → SortedIn ltInt a' b' R1)) := hI
                  clear hI hR
                  cases R2
                  · go_wp2_with (go_at_call 44; refine Calls.mono HC.out ?_; rintro e W1 ⟨rfl, hS⟩)
                    go_meet
                    case rel => exact ⟨R1, HI.out.1, hS⟩
                  · go_wp2_with (go_at_call 44; refine Calls.mono HC.out ?_; rintro e W1 ⟨rfl, hS⟩)
                    refine bodyPost_ret (v := .tuple #[]) (by simp [results, Yba.results28, go_sem]) rfl ?_
                    obtain ⟨f1, f2⟩ := (HQ2.out.go HI.out.1).fin (Srt.of (HI.out.2 trivial))
                    exact ⟨rfl, _, f1, f2, hS⟩
              case rest =>
                obtain ⟨dk3, hp3, hS4⟩ := hcut.out
                have HQ3 : Hid (QI d a b a' b' dk3) := HQ2.out.go hp3
                have hs3 : Hid (dk3.size = n) := by show _ = _; rw [HQ3.out.size]; exact hd.out
                have HS4 : Hid (SA w wc blk off m dk3) := hS4
                clear hcut hp3 hS4 HQ2 HS3 hs2 HO
                obtain ⟨o2, ho2⟩ : ∃ o2, (decide (0 < a') && !ltInt dk3[a' - 1]! dk3[pv]!) = o2 := ⟨_, rfl⟩
                have HO2 : Hid ((decide (0 < a') && !ltInt dk3[a' - 1]! dk3[pv]!) = o2) := ho2
                clear ho2
                go_upto_region 17 with fail
                go_cut [87] (fun v wx => v = .bool o2 ∧ Hid (SA w wx blk off m dk3))
                case first => as_aux_lemma =>
                  obtain ⟨G, hG, c1, c2⟩ := HS4.out.facts
                  rw [hs3.out] at c1 c2
                  by_cases ha0 : 0 < a'
                  · go_quiet (first | (go_at_call 45; exact Calls.quiet_of_same (less_any _ _ _)))
                    go_wp2
                    go_meet
                    case rel =>
                      refine ⟨?_, HS4.out.drewN nq⟩
                      rw [← HO2.out, decide_eq_true (show 0 < a' by omega), Bool.true_and]
                      simp only [hG.out]
                  · go_quiet (first | (go_at_call 45; exact Calls.quiet_of_same (less_any _ _ _)))
                    go_wp2
                    go_meet
                    case rel =>
                      refine ⟨?_, HS4.out.drewN nq⟩
                      rw [← HO2.out, decide_eq_false (show ¬ 0 < a' by omega), Bool.false_and]
                case rest =>
                  obtain ⟨rfl, HS5⟩ := hcut
                  clear HS4
                  cases o2
                  · have HC : Hid _ := part_any w wc blk off m c a' b' pv dk3 HS5.out hpv1 hpv2 (by rw [hs3.out]; omega) (by rw [hs3.out]; exact hn)
                    rw [hs3.out] at HC
                    go_upto_region 24 with (go_at_call 47; refine Calls.mono HC.out ?_; rintro e W1 ⟨mid, al, d4, rfl, hpt, hS6⟩; have hm1 := hpt.1; have hm2 := hpt.2.1)
                    have HPT : Hid (PtPost dk3 a' b' mid d4) := hpt
                    have HS6 : Hid (SA w W1 blk off m d4) := hS6
                    have HQ4 : Hid (QI d a b a' b' d4) := HQ3.out.go hpt.2.2.1
                    have hs4 : Hid (d4.size = n) := by show _ = _; rw [HQ4.out.size]; exact hd.out
                    clear hpt hS6 HC HS5
                    by_cases hlr : (mid : Int) - (a' : Int) < (b' : Int) - (mid : Int)
                    · have hbel : Bel a' mid d4 := by
                        rcases HQ4.out.bel with x | x
                        · exact .inl x
                        · exact .inr fun j j1 j2 => x j j1 (by omega)
                      have HI : Hid _ := IH.out a' mid L2 d4 W1 (by omega) hs4.out HS6.out hm1 (by omega) hbel
                      clear hbel
                      go_wp2_with (go_at_call 28; refine Calls.mono HI.out ?_; rintro e W2 ⟨rfl, d5, hp5, hs5, hS7⟩)
                      go_roundg (b' - (mid + 1))
                      case measure => omega
                      case rel => exact ⟨mid + 1, b', L2, _, al, d5, by go_num, rfl, rfl, rfl, rfl, by omega, by omega, HQ3.out.goRight HPT.out hp5 hs5, hS7⟩
                    · have hbel : Bel (mid + 1) b' d4 := .inr fun j j1 j2 => HPT.out.2.2.2.2 j (by omega) j2
                      have HI : Hid _ := IH.out (mid + 1) b' L2 d4 W1 (by omega) hs4.out HS6.out (by omega) (by omega) hbel
                      have e1 : ((mid + 1 : Nat) : Int) = (mid : Int) + 1 := by omega
                      rw [e1] at HI
                      clear hbel e1
                      go_wp2_with (go_at_call 28; refine Calls.mono HI.out ?_; rintro e W2 ⟨rfl, d5, hp5, hs5, hS7⟩)
                      go_roundg (mid - a')
                      case measure => omega
                      case rel => exact ⟨a', mid, L2, _, al, d5, rfl, rfl, rfl, rfl, rfl, by omega, by omega, HQ3.out.goLeft HPT.out hp5 hs5, hS7⟩
                  · have HC : Hid _ := partEq_any w wc blk off m c a' b' pv dk3 HS5.out hpv1 hpv2 (by rw [hs3.out]; omega) (by rw [hs3.out]; exact hn)
                    rw [hs3.out] at HC
                    have ha0 : 0 < a' := by
                      have := HO2.out
                      rw [Bool.and_eq_true] at this
                      exact of_decide_eq_true this.1
                    have hle : dk3[pv]! ≤ dk3[a' - 1]! := by
                      have := HO2.out
                      rw [Bool.and_eq_true] at this
                      have := this.2
                      simp [ltInt] at this; exact this
                    have HLE : Hid (dk3[pv]! ≤ dk3[a' - 1]!) := hle
                    clear hle
                    go_wp2_with (go_at_call 46; refine Calls.mono HC.out ?_; rintro e W1 ⟨mid, d4, rfl, hpt, hS6⟩; have hm1 := hpt.1; have hm2 := hpt.2.1)
                    go_roundg (b' - mid)
                    case measure => omega
                    case rel => exact ⟨mid, b', L2, wb, wp, d4, rfl, rfl, rfl, rfl, rfl, by omega, by omega, HQ3.out.eq hpt ha0 hpv1 hpv2 HLE.out, hS6⟩

theorem pdq_any (w : World) (blk off m c n : Nat) (hn : (n : Int) < 1000000) : ∀ (N a b : Nat) (L : Int) (d : Array Int) (W : World), b - a < N → d.size = n → SA w W blk off m d → a ≤ b → b ≤ n → Bel a b d →
    Calls Yba.prog 28 #[sl blk off n c, .int .i64 a, .int .i64 b, .int .i64 L] W fun e W' => e = .returned (.tuple #[]) ∧ Sorted w W' blk off m a b d := by
  intro N
  induction N with
  | zero => intro a b L d W h; omega
  | succ N ih =>
    intro a b L d W h1 h2 h3 h4 h5 h6
    exact pdq_step w blk off m c n N hn ih a b L d W (by omega) h2 h3 h4 h5 h6

/-- slices.Sort: what lies in the row is a permutation of what lay there, ascending. -/
theorem sort_any (w : World) (blk off m c : Nat) (d : Array Int) (hn : (d.size : Int) < 1000000) (h : SA w w blk off m d) :
    Calls Yba.prog 18 #[sl blk off d.size c] w fun e W' => e = .returned (.tuple #[]) ∧ Sorted w W' blk off m 0 d.size d := by
  have HP : Hid (∀ (L : Int), Calls Yba.prog 28 #[sl blk off d.size c, .int .i64 0, .int .i64 (d.size : Int), .int .i64 L] w fun e W' => e = .returned (.tuple #[]) ∧ Sorted w W' blk off m 0 d.size d) :=
    fun L => pdq_any w blk off m c d.size hn (d.size + 1) 0 d.size L d w (by omega) rfl h (Nat.zero_le _) (Nat.le_refl _) (.inl rfl)
  have e0 : IntKind.u64.wrap (d.size : Int) = (d.size : Int) := by rw [IntKind.wrap_u64]; omega
  clear h
  go_enter Yba.func18, Yba.ntmps18
  go_wp2_with (first
    | (go_at_call 29; refine (Yba.bits_Len _ _ (by omega) (by omega)).mono ?_; rintro e w' ⟨rfl, rfl⟩)
    | (go_at_call 28; refine (HP.out _).mono ?_; rintro e W2 ⟨rfl, hS⟩))
  go_end0
  exact ⟨rfl, hS⟩
end Go.Proofs.Ybulkbxvu
