/-
  slices.Sort at []int32: partialInsertionSort.
-/
import Derived.Test.YbulkbxvuS2
namespace Go.Proofs.Ybulkbxvu
open Go.RowKit
open Go.Sort
set_option linter.unusedVariables false

theorem scan_go (d : Array Int) (b i : Nat) (h : i < b) (hl : ltInt d[i]! d[i - 1]! = false) : scanSorted ltInt d b i = scanSorted ltInt d b (i + 1) := by
  rw [scanSorted, if_pos (by simp [h, hl])]
theorem scan_end (d : Array Int) (b i : Nat) (h : (decide (i < b) && !ltInt d[i]! d[i - 1]!) = false) : scanSorted ltInt d b i = i := by
  rw [scanSorted, if_neg (by rw [h]; simp)]
theorem shd_go (j : Nat) (d : Array Int) (h : 0 < j) (hl : ltInt d[j]! d[j - 1]! = true) : shiftDown ltInt j d = shiftDown ltInt (j - 1) (swp d j (j - 1)) := by
  cases j with
  | zero => omega
  | succ k => rw [shiftDown, if_neg (by simp at hl; simp [hl])]; rfl
theorem shd_end (j : Nat) (d : Array Int) (hl : ltInt d[j]! d[j - 1]! = false) : shiftDown ltInt j d = d := by
  cases j with
  | zero => rfl
  | succ k => rw [shiftDown, if_pos (by simp at hl; simp [hl])]
theorem shu_go (b j : Nat) (d : Array Int) (h : j < b) (hl : ltInt d[j]! d[j - 1]! = true) : shiftUp ltInt b j d = shiftUp ltInt b (j + 1) (swp d j (j - 1)) := by
  rw [shiftUp, if_pos h, if_neg (by simp [hl])]
theorem shu_end (b j : Nat) (d : Array Int) (h : ¬ j < b ∨ ltInt d[j]! d[j - 1]! = false) : shiftUp ltInt b j d = d := by
  rw [shiftUp]
  rcases h with h | h
  · rw [if_neg h]
  · split
    · rw [if_pos (by simp [h])]
    · rfl
theorem shd_size : ∀ (j : Nat) (d : Array Int), (shiftDown ltInt j d).size = d.size
  | 0, d => rfl
  | j + 1, d => by
    rw [shiftDown]
    split
    · rfl
    · rw [shd_size j, size_swp]
theorem shu_size (b : Nat) : ∀ (n j : Nat) (d : Array Int), b - j ≤ n → (shiftUp ltInt b j d).size = d.size := by
  intro n
  induction n with
  | zero => intro j d h; rw [shu_end _ _ _ (.inl (by omega))]
  | succ n ih =>
    intro j d h
    by_cases h1 : j < b
    · cases hl : ltInt d[j]! d[j - 1]! with
      | false => rw [shu_end _ _ _ (.inr hl)]
      | true => rw [shu_go _ _ _ h1 hl, ih _ _ (by omega), size_swp]
    · rw [shu_end _ _ _ (.inl h1)]
theorem scan_le (d : Array Int) (b : Nat) : ∀ (n i : Nat), b - i ≤ n → i ≤ b → i ≤ scanSorted ltInt d b i ∧ scanSorted ltInt d b i ≤ b := by
  intro n
  induction n with
  | zero => intro i h hi; rw [scanSorted, if_neg (by simp; omega)]; omega
  | succ n ih =>
    intro i h hi
    rw [scanSorted]
    split
    · rename_i h1; simp at h1; have := ih (i + 1) (by omega) (by omega); omega
    · omega

set_option maxHeartbeats 4000000 in
set_option maxRecDepth 100000 in
theorem partial_any (w W : World) (blk off m c a b : Nat) (d : Array Int) (h : SA w W blk off m d) (hab : a < b) (hb : b ≤ d.size) (hsz : (d.size : Int) < 1000000) :
    Calls Yba.prog 44 #[sl blk off d.size c, .int .i64 a, .int .i64 b] W fun e W' => e = .returned (.bool (partialInsertionSort ltInt d a b).2) ∧ SA w W' blk off m (partialInsertionSort ltInt d a b).1 := by
  obtain ⟨R, hR⟩ : ∃ R, partialInsertionSort ltInt d a b = R := ⟨_, rfl⟩
  have HR : Hid (partialIns ltInt a b 5 (a + 1) d = R) := hR
  rw [hR]
  clear hR
  go_enter Yba.func44, Yba.ntmps44
  go_wp2
  go_loopg [7, 8] 5 (fun g vi vj wx => ∃ (i j : Nat) (dk : Array Int), g + j = 5 ∧ vi = .int .i64 (i : Int) ∧ vj = .int .i64 (j : Int) ∧ a < i ∧ i ≤ b ∧ Hid (dk.size = d.size ∧ SA w wx blk off m dk ∧ partialIns ltInt a b g i dk = R))
  case atStart => exact ⟨a + 1, 0, d, rfl, by go_num, rfl, by omega, by omega, rfl, h, HR.out⟩
  case round =>
    clear h HR
    obtain ⟨i, j, dk, hg, rfl, rfl, hai, hib, H⟩ := hrel
    by_cases hj5 : (j : Int) < 5
    · obtain ⟨g, hg'⟩ : ∃ g, gk = g + 1 := ⟨gk - 1, by omega⟩
      subst hg'
      go_wp2
      obtain ⟨K, hK⟩ : ∃ K, scanSorted ltInt dk b i = K := ⟨_, rfl⟩
      have hK2 := scan_le dk b _ i (Nat.le_refl _) hib
      rw [hK] at hK2
      have HK : Hid (scanSorted ltInt dk b i = K) := hK
      clear hK
      go_loopg [7] (K - i) (fun g2 vi wx => ∃ i' : Nat, g2 + i' = K ∧ vi = .int .i64 (i' : Int) ∧ i ≤ i' ∧ Hid (scanSorted ltInt dk b i' = K ∧ SA w wx blk off m dk))
      case atStart => exact ⟨i, by omega, rfl, Nat.le_refl _, HK.out, H.out.2.1⟩
      case round =>
        obtain ⟨i', hg2, rfl, hii, H2⟩ := hrel
        have HS : Hid (SA w wr blk off m dk) := H2.out.2
        have hs : Hid (dk.size = d.size) := H.out.1
        obtain ⟨o, ho⟩ : ∃ o, (decide (i' < b) && !ltInt dk[i']! dk[i' - 1]!) = o := ⟨_, rfl⟩
        have ho : Hid ((decide (i' < b) && !ltInt dk[i']! dk[i' - 1]!) = o) := ho
        have hib' : i' ≤ b := by omega
        go_upto_region 5 with fail
        go_cut [32] (fun v wx => v = .bool o ∧ Hid (SA w wx blk off m dk))
        case first => as_aux_lemma =>
          obtain ⟨G, hG, c1, c2⟩ := HS.out.facts
          rw [hs.out] at c1 c2
          by_cases hij : (i' : Int) < (b : Int)
          · go_quiet (first | (go_at_call 45; exact Calls.quiet_of_same (less_any _ _ _)))
            go_wp2
            go_meet
            case rel =>
              refine ⟨?_, HS.out.drewN nq⟩
              rw [← ho.out, decide_eq_true (show i' < b by omega), Bool.true_and]
              simp only [hG.out]
          · go_quiet (first | (go_at_call 45; exact Calls.quiet_of_same (less_any _ _ _)))
            go_wp2
            go_meet
            case rel =>
              refine ⟨?_, HS.out.drewN nq⟩
              rw [← ho.out, decide_eq_false (show ¬ i' < b by omega), Bool.false_and]
        case rest =>
          obtain ⟨rfl, HS1⟩ := hcut
          cases o
          · have hiK : i' = K := by rw [← H2.out.1, scan_end dk b i' ho.out]
            subst hiK
            clear HS H2 ho
            have HE : Hid ((if i' = b then (dk, true) else if b - a < 50 then (dk, false) else partialIns ltInt a b g i' (fixUp ltInt b i' (fixDown ltInt a i' (swp dk i' (i' - 1))))) = R) := by
              have := H.out.2.2
              rw [partialIns_succ, HK.out] at this
              exact this
            clear H
            by_cases hb2 : i' = b
            · have hR : (dk, true) = R := by rw [← HE.out, if_pos hb2]
              have HRR : Hid ((dk, true) = R) := hR
              clear hR
              subst hb2
              go_wp2
              go_ret
              rw [← HRR.out]
              exact ⟨rfl, HS1.out⟩
            · by_cases h50 : (b : Int) - (a : Int) < 50
              · have hR : (dk, false) = R := by rw [← HE.out, if_neg hb2, if_pos (by omega)]
                have HRR : Hid ((dk, false) = R) := hR
                have hb3 : ((i' : Int) == (b : Int)) = false := by rw [beq_eq_false_iff_ne]; omega
                clear hR
                go_wp2
                go_ret
                rw [← HRR.out]
                exact ⟨rfl, HS1.out⟩
              · have hR : partialIns ltInt a b g i' (fixUp ltInt b i' (fixDown ltInt a i' (swp dk i' (i' - 1)))) = R := by rw [← HE.out, if_neg hb2, if_neg (by omega)]
                have HRR : Hid (partialIns ltInt a b g i' (fixUp ltInt b i' (fixDown ltInt a i' (swp dk i' (i' - 1)))) = R) := hR
                have hb3 : ((i' : Int) == (b : Int)) = false := by rw [beq_eq_false_iff_ne]; omega
                clear hR HE
                go_upto_region 11 with fail
                go_cut [] (fun wx => Hid (SA w wx blk off m (swp dk i' (i' - 1))))
                case first => as_aux_lemma =>
                  obtain ⟨G, hG, c1, c2⟩ := HS1.out.facts
                  rw [hs.out] at c1 c2
                  go_region
                  all_goals
                    go_wp2
                    go_meet
                    case rel => exact SA.drewN (HS1.out.swap i' (i' - 1) (by have := hs.out; omega) (by have := hs.out; omega) 0 _ _ (hG.out _) (hG.out _)) 1
                case rest =>
                  obtain ⟨D1, hD1⟩ : ∃ D1, swp dk i' (i' - 1) = D1 := ⟨_, rfl⟩
                  rw [hD1] at HRR hcut
                  have hs1 : Hid (D1.size = d.size) := by show _ = _; rw [← hD1, size_swp]; exact hs.out
                  have HS2 : Hid (SA w wc blk off m D1) := hcut
                  clear hD1 hcut HS1 hs
                  go_upto_if 61 with fail
                  go_cut [] (fun wx => Hid (SA w wx blk off m (fixDown ltInt a i' D1)))
                  case first => as_aux_lemma =>
                    by_cases h2 : 2 ≤ (i' : Int) - (a : Int)
                    · have e : Hid (fixDown ltInt a i' D1 = shiftDown ltInt (i' - 1) D1) := by show _ = _; rw [fixDown, if_pos (by omega)]
                      rw [decide_eq_true h2]
                      go_wp2
                      go_loopg [9] (i' - 1) (fun g3 vj wx => ∃ (q : Nat) (dj : Array Int), g3 = q ∧ vj = .int .i64 (q : Int) ∧ q < i' ∧ Hid (dj.size = d.size ∧ SA w wx blk off m dj ∧ shiftDown ltInt q dj = shiftDown ltInt (i' - 1) D1))
                      case atStart => exact ⟨i' - 1, D1, rfl, by congr 1; omega, by omega, hs1.out, HS2.out, rfl⟩
                      case round =>
                        obtain ⟨q, dj, hgq, rfl, hq, H3⟩ := hrel
                        have HGQ : Hid (gk = q) := hgq
                        clear hgq
                        by_cases hq0 : q = 0
                        · subst hq0
                          go_wp2
                          go_meet
                          case rel =>
                            rw [e.out, ← H3.out.2.2]
                            exact H3.out.2.1
                        · obtain ⟨G, hG, c1, c2⟩ := H3.out.2.1.facts
                          rw [H3.out.1] at c1 c2
                          have hq1 : 1 ≤ (q : Int) := by omega
                          go_wp2
                          go_quiet (first | (go_at_call 45; exact Calls.quiet_of_same (less_any _ _ _)))
                          obtain ⟨o, ho⟩ : ∃ o, ltInt (G q) (G (q - 1)) = o := ⟨_, rfl⟩
                          have HO : Hid (ltInt (G q) (G (q - 1)) = o) := ho
                          rw [ho]
                          clear ho
                          cases o
                          · simp only [Bool.not_false]
                            go_wp2
                            go_meet
                            case rel =>
                              rw [e.out, ← H3.out.2.2, shd_end q dj (by rw [← hG.out, ← hG.out]; exact HO.out)]
                              exact H3.out.2.1.drewN nq
                          · simp only [Bool.not_true]
                            go_wp2
                            go_region
                            all_goals
                              go_wp2
                              go_roundg (q - 1)
                              case measure => have := HGQ.out; omega
                              case rel =>
                                refine ⟨q - 1, swp dj q (q - 1), rfl, by congr 1; omega, by omega, ?_, ?_, ?_⟩
                                · rw [size_swp]; exact H3.out.1
                                · exact H3.out.2.1.swap q (q - 1) (by have := H3.out.1; omega) (by have := H3.out.1; omega) (nq + 1) _ _ (hG.out _) (hG.out _)
                                · rw [← H3.out.2.2, shd_go q dj (by omega) (by rw [← hG.out, ← hG.out]; exact HO.out)]
                    · have e : Hid (fixDown ltInt a i' D1 = D1) := by show _ = _; rw [fixDown, if_neg (by omega)]
                      rw [decide_eq_false h2]
                      go_wp2
                      go_meet
                      case rel => rw [e.out]; exact HS2.out
                  case rest =>
                    obtain ⟨D2, hD2⟩ : ∃ D2, fixDown ltInt a i' D1 = D2 := ⟨_, rfl⟩
                    rw [hD2] at HRR hcut
                    have hs2 : Hid (D2.size = d.size) := by
                      show _ = _
                      rw [← hD2, fixDown]
                      split
                      · rw [shd_size]; exact hs1.out
                      · exact hs1.out
                    have HS3 : Hid (SA w wc blk off m D2) := hcut
                    clear hD2 hcut HS2 hs1
                    have hs3 : Hid ((fixUp ltInt b i' D2).size = d.size) := by
                      show _ = _
                      rw [fixUp]
                      split
                      · rw [shu_size _ _ _ _ (Nat.le_refl _)]; exact hs2.out
                      · exact hs2.out
                    by_cases h2 : (b : Int) - (i' : Int) ≥ 2
                    · have e : Hid (fixUp ltInt b i' D2 = shiftUp ltInt b (i' + 1) D2) := by show _ = _; rw [fixUp, if_pos (by omega)]
                      go_wp2
                      go_loopg [10] (b - (i' + 1)) (fun g3 vj wx => ∃ (q : Nat) (dj : Array Int), g3 + q = b ∧ vj = .int .i64 (q : Int) ∧ i' < q ∧ q ≤ b ∧ Hid (dj.size = d.size ∧ SA w wx blk off m dj ∧ shiftUp ltInt b q dj = shiftUp ltInt b (i' + 1) D2))
                      case atStart => exact ⟨i' + 1, D2, by omega, by go_num, by omega, by omega, hs2.out, HS3.out, rfl⟩
                      case round =>
                        obtain ⟨q, dj, hgq, rfl, hq, hqb, H3⟩ := hrel
                        by_cases hq0 : (q : Int) < (b : Int)
                        · obtain ⟨G, hG, c1, c2⟩ := H3.out.2.1.facts
                          rw [H3.out.1] at c1 c2
                          go_wp2
                          go_quiet (first | (go_at_call 45; exact Calls.quiet_of_same (less_any _ _ _)))
                          obtain ⟨o, ho⟩ : ∃ o, ltInt (G q) (G (q - 1)) = o := ⟨_, rfl⟩
                          have HO : Hid (ltInt (G q) (G (q - 1)) = o) := ho
                          rw [ho]
                          clear ho
                          cases o
                          · simp only [Bool.not_false]
                            go_wp2
                            go_roundg g
                            case measure => omega
                            case rel =>
                              refine ⟨i', j + 1, fixUp ltInt b i' D2, by omega, rfl, by go_num, by omega, by omega, hs3.out, ?_, HRR.out⟩
                              rw [e.out, ← H3.out.2.2, shu_end b q dj (.inr (by rw [← hG.out, ← hG.out]; exact HO.out))]
                              exact H3.out.2.1.drewN nq
                          · simp only [Bool.not_true]
                            go_wp2
                            go_region
                            all_goals
                              go_wp2
                              go_roundg (b - (q + 1))
                              case measure => omega
                              case rel =>
                                refine ⟨q + 1, swp dj q (q - 1), by omega, by go_num, by omega, by omega, ?_, ?_, ?_⟩
                                · rw [size_swp]; exact H3.out.1
                                · exact H3.out.2.1.swap q (q - 1) (by have := H3.out.1; omega) (by have := H3.out.1; omega) (nq + 1) _ _ (hG.out _) (hG.out _)
                                · rw [← H3.out.2.2, shu_go b q dj (by omega) (by rw [← hG.out, ← hG.out]; exact HO.out)]
                        · go_wp2
                          go_roundg g
                          case measure => omega
                          case rel =>
                            refine ⟨i', j + 1, fixUp ltInt b i' D2, by omega, rfl, by go_num, by omega, by omega, hs3.out, ?_, HRR.out⟩
                            rw [e.out, ← H3.out.2.2, shu_end b q dj (.inl (by omega))]
                            exact H3.out.2.1
                    · have e : Hid (fixUp ltInt b i' D2 = D2) := by show _ = _; rw [fixUp, if_neg (by omega)]
                      go_wp2
                      go_roundg g
                      case measure => omega
                      case rel =>
                        refine ⟨i', j + 1, fixUp ltInt b i' D2, by omega, rfl, by go_num, by omega, by omega, hs3.out, ?_, HRR.out⟩
                        rw [e.out]; exact HS3.out
          · have hlt : i' < b := by
              have := ho.out
              rw [Bool.and_eq_true] at this
              exact of_decide_eq_true this.1
            have hl : ltInt dk[i']! dk[i' - 1]! = false := by
              have := ho.out
              rw [Bool.and_eq_true] at this
              simpa using this.2
            have hgo : Hid (scanSorted ltInt dk b (i' + 1) = K) := by show _ = _; rw [← scan_go dk b i' hlt hl]; exact H2.out.1
            have hK3 := scan_le dk b _ (i' + 1) (Nat.le_refl _) hlt
            rw [hgo.out] at hK3
            have hl2 : Hid (ltInt dk[i']! dk[i' - 1]! = false) := hl
            clear hl
            go_wp2
            go_roundg (K - (i' + 1))
            case measure => omega
            case rel => exact ⟨i' + 1, by omega, by go_num, by omega, hgo.out, HS1.out⟩
    · obtain rfl : gk = 0 := by omega
      go_wp2
      go_ret
      have : (dk, false) = R := H.out.2.2
      rw [← this]
      exact ⟨rfl, H.out.2.1⟩
end Go.Proofs.Ybulkbxvu
