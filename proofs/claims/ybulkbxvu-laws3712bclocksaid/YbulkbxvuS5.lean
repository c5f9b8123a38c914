/-
  slices.Sort at []int32: partition.
-/
import Derived.Test.YbulkbxvuS4
namespace Go.Proofs.Ybulkbxvu
open Go.RowKit
open Go.Sort
set_option linter.unusedVariables false

set_option maxHeartbeats 4000000 in
set_option maxRecDepth 100000 in
theorem part_any (w W : World) (blk off m c a b p : Nat) (d : Array Int) (h : SA w W blk off m d) (h1 : a ≤ p) (h2 : p < b) (hb : b ≤ d.size) (hsz : (d.size : Int) < 1000000) :
    Calls Yba.prog 47 #[sl blk off d.size c, .int .i64 a, .int .i64 b, .int .i64 p] W fun e W' => ∃ (mid : Nat) (al : Bool) (d' : Array Int), e = .returned (.tuple #[.int .i64 mid, .bool al]) ∧ PtPost d a b mid d' ∧ SA w W' blk off m d' := by
  go_enter Yba.func47, Yba.ntmps47
  go_upto_region 1 with fail
  go_cut [] (fun wx => Hid (SA w wx blk off m (swp d a p)))
  case first => as_aux_lemma =>
    obtain ⟨G, hG, c1, c2⟩ := h.facts
    rcases Nat.lt_or_eq_of_le h1 with h3 | rfl
    · go_region
      all_goals
        go_wp2
        go_meet
        case rel => exact SA.drewN (h.swap a p (by omega) (by omega) 0 _ _ (hG.out _) (hG.out _)) 1
    · go_region
      all_goals
        go_wp2
        go_meet
        case rel => exact SA.drewN (h.swap a a (by omega) (by omega) 0 _ _ (hG.out _) (hG.out _)) 1
  case rest =>
    clear h
    have HS : Hid (SA w wc blk off m (swp d a p)) := hcut
    have HP : Hid (PI UP d a b p (a + 1) (b - 1) (swp d a p)) := PI.start UP d a b p h1 h2 hb
    clear hcut
    obtain ⟨i0, hi0'⟩ : ∃ i0, i0 = a + 1 := ⟨_, rfl⟩
    obtain ⟨j, hj'⟩ : ∃ j, j = b - 1 := ⟨_, rfl⟩
    obtain ⟨dk, hdk⟩ : ∃ dk, dk = swp d a p := ⟨_, rfl⟩
    rw [← hi0', ← hj', ← hdk] at HP
    rw [← hdk] at HS
    have ei : (a : Int) + 1 = (i0 : Int) := by omega
    have ej : (b : Int) - 1 = (j : Int) := by omega
    have bi : (i0 : Int) ≤ (d.size : Int) := by omega
    have bj : (j : Int) < (d.size : Int) := by omega
    have HI : Hid (i0 = a + 1 ∧ j = b - 1) := ⟨hi0', hj'⟩
    clear hi0' hj' hdk h1 h2
    go_wp2
    go_loopg [10] (j + 1 - i0) (fun g vi wx => ∃ i : Nat, vi = .int .i64 (i : Int) ∧ g + i = j + 1 ∧ i0 ≤ i ∧ Hid (PI UP d a b p i j dk ∧ SA w wx blk off m dk))
    case atStart => exact ⟨i0, rfl, by have := HP.out.ij; omega, Nat.le_refl _, HP.out, HS.out⟩
    case round =>
      obtain ⟨i, rfl, hg, hi0, H0⟩ := hrel
      have HP : Hid (PI UP d a b p i j dk) := H0.out.1
      have HS : Hid (SA w wr blk off m dk) := H0.out.2
      clear H0
      have hb1 := HP.out.bounds
      obtain ⟨o, ho⟩ : ∃ o, (decide (i ≤ j) && UP dk[i]! dk[a]!) = o := ⟨_, rfl⟩
      have ho : Hid ((decide (i ≤ j) && UP dk[i]! dk[a]!) = o) := ho
      have hsz' : Hid (dk.size = d.size) := HP.out.1
      go_upto_region 3 with fail
      go_cut [43] (fun v wx => v = .bool o ∧ Hid (SA w wx blk off m dk))
      case first => as_aux_lemma =>
        obtain ⟨G, hG, c1, c2⟩ := HS.out.facts
        rw [hsz'.out] at c1 c2
        by_cases hij : (i : Int) ≤ (j : Int)
        · go_quiet (first | (go_at_call 45; exact Calls.quiet_of_same (less_any _ _ _)))
          go_wp2
          go_meet
          case rel =>
            refine ⟨?_, HS.out.drewN nq⟩
            rw [← ho.out, decide_eq_true (show i ≤ j by omega), Bool.true_and]
            simp only [hG.out, UP]
        · go_quiet (first | (go_at_call 45; exact Calls.quiet_of_same (less_any _ _ _)))
          go_wp2
          go_meet
          case rel =>
            refine ⟨?_, HS.out.drewN nq⟩
            rw [← ho.out, decide_eq_false (show ¬ i ≤ j by omega), Bool.false_and]
      case rest =>
        obtain ⟨rfl, HS1⟩ := hcut
        cases o
        · go_wp2
          have HA : Hid (i ≤ j → UP dk[i]! dk[a]! = false) := fun h => by have := ho.out; rw [decide_eq_true h, Bool.true_and] at this; exact this
          have HS : Hid (SA w wc blk off m dk) := HS1.out
          clear HS1 ho hsz' hb1
          go_loopg [11] (j + 1 - i) (fun g vj wx => ∃ j' : Nat, vj = .int .i64 (j' : Int) ∧ g + i = j' + 1 ∧ j' ≤ j ∧ Hid (PI UP d a b p i j' dk ∧ SA w wx blk off m dk))
          case atStart => exact ⟨j, rfl, by have := HP.out.ij; omega, Nat.le_refl _, HP.out, HS.out⟩
          case round =>
            obtain ⟨j', rfl, hg, hjj, H0⟩ := hrel
            have HA' : Hid (i ≤ j' → UP dk[i]! dk[a]! = false) := fun h => HA.out (by omega)
            have HP : Hid (PI UP d a b p i j' dk) := H0.out.1
            have HS : Hid (SA w wr blk off m dk) := H0.out.2
            clear H0
            have hb1 := HP.out.bounds
            obtain ⟨o, ho⟩ : ∃ o, (decide (i ≤ j') && !UP dk[j']! dk[a]!) = o := ⟨_, rfl⟩
            have ho : Hid ((decide (i ≤ j') && !UP dk[j']! dk[a]!) = o) := ho
            have hsz' : Hid (dk.size = d.size) := HP.out.1
            go_upto_region 5 with fail
            go_cut [60] (fun v wx => v = .bool o ∧ Hid (SA w wx blk off m dk))
            case first => as_aux_lemma =>
              obtain ⟨G, hG, c1, c2⟩ := HS.out.facts
              rw [hsz'.out] at c1 c2
              by_cases hij : (i : Int) ≤ (j' : Int)
              · go_quiet (first | (go_at_call 45; exact Calls.quiet_of_same (less_any _ _ _)))
                go_wp2
                go_meet
                case rel =>
                  refine ⟨?_, HS.out.drewN nq⟩
                  rw [← ho.out, decide_eq_true (show i ≤ j' by omega), Bool.true_and]
                  simp only [hG.out, UP]
              · go_quiet (first | (go_at_call 45; exact Calls.quiet_of_same (less_any _ _ _)))
                go_wp2
                go_meet
                case rel =>
                  refine ⟨?_, HS.out.drewN nq⟩
                  rw [← ho.out, decide_eq_false (show ¬ i ≤ j' by omega), Bool.false_and]
            case rest =>
              obtain ⟨rfl, HS1⟩ := hcut
              cases o
              · skip
                have HB : Hid (i ≤ j' → UP dk[j']! dk[a]! = true) := fun h => by have := ho.out; rw [decide_eq_true h, Bool.true_and] at this; simpa using this
                by_cases hfin : (j' : Int) < (i : Int)
                · have HPf : Hid (PtPost d a b j' (swp dk j' a)) := HP.out.part (by omega)
                  obtain ⟨G, hG, c1, c2⟩ := HS1.out.facts
                  rw [hsz'.out] at c1 c2
                  have hja : a ≤ j' := by omega
                  rcases Nat.lt_or_eq_of_le hja with h3 | rfl
                  · go_wp2
                    go_region
                    all_goals
                      go_wp2
                      go_ret2
                      exact ⟨j', true, swp dk j' a, rfl, HPf.out, SA.drewN (HS1.out.swap j' a (by have := hsz'.out; omega) (by have := hsz'.out; omega) 0 _ _ (hG.out _) (hG.out _)) 1⟩
                  · go_wp2
                    go_region
                    all_goals
                      go_wp2
                      go_ret2
                      exact ⟨a, true, swp dk a a, rfl, HPf.out, SA.drewN (HS1.out.swap a a (by have := hsz'.out; omega) (by have := hsz'.out; omega) 0 _ _ (hG.out _) (hG.out _)) 1⟩
                · obtain ⟨G, hG, c1, c2⟩ := HS1.out.facts
                  rw [hsz'.out] at c1 c2
                  have hij2 : i ≤ j' := by omega
                  have HPs : Hid (PI UP d a b p (i + 1) (j' - 1) (swp dk i j')) := HP.out.sw2 hij2 (HA'.out hij2) (HB.out hij2)
                  have hne : i ≠ j' := by
                    intro e; have e1 := HA'.out hij2; have e2 := HB.out hij2; rw [e, e2] at e1; cases e1
                  have hlt : i < j' := by omega
                  have hszd := hsz'.out
                  have HS2 : Hid (SA w (((wc.drewN 0).setCell ⟨blk, off + i, none⟩ (.int .i32 (G j'))).setCell ⟨blk, off + j', none⟩ (.int .i32 (G i))) blk off m (swp dk i j')) := HS1.out.swap i j' (by omega) (by omega) 0 _ _ (hG.out _) (hG.out _)
                  clear hszd
                  go_wp2
                  go_region
                  all_goals
                    go_wp2
                    go_loopg [10, 11] (j' - 1 - i) (fun g vi vj wx => ∃ (i j : Nat) (dk : Array Int), vi = .int .i64 (i : Int) ∧ vj = .int .i64 (j : Int) ∧ g + i = j + 1 ∧ Hid (PI UP d a b p i j dk ∧ SA w wx blk off m dk))
                    case atStart => exact ⟨i + 1, j' - 1, swp dk i j', by go_num, by congr 1; omega, by omega, HPs.out, SA.drewN HS2.out 1⟩
                    case round =>
                      clear HS1 HP HA HB HA' HPs HS2 ho hsz' hb1 hG c1 c2 hfin hij2 hne hlt
                      obtain ⟨i0, j, dk, rfl, rfl, hg0, H0⟩ := hrel
                      have HP : Hid (PI UP d a b p i0 j dk) := H0.out.1
                      have HS : Hid (SA w wr blk off m dk) := H0.out.2
                      clear H0
                      go_wp2
                      go_loopg [10] (j + 1 - i0) (fun g vi wx => ∃ i : Nat, vi = .int .i64 (i : Int) ∧ g + i = j + 1 ∧ i0 ≤ i ∧ Hid (PI UP d a b p i j dk ∧ SA w wx blk off m dk))
                      case atStart => exact ⟨i0, rfl, by have := HP.out.ij; omega, Nat.le_refl _, HP.out, HS.out⟩
                      case round =>
                        obtain ⟨i, rfl, hg, hi0, H0⟩ := hrel
                        have HP : Hid (PI UP d a b p i j dk) := H0.out.1
                        have HS : Hid (SA w wr blk off m dk) := H0.out.2
                        clear H0
                        have hb1 := HP.out.bounds
                        obtain ⟨o, ho⟩ : ∃ o, (decide (i ≤ j) && UP dk[i]! dk[a]!) = o := ⟨_, rfl⟩
                        have ho : Hid ((decide (i ≤ j) && UP dk[i]! dk[a]!) = o) := ho
                        have hsz' : Hid (dk.size = d.size) := HP.out.1
                        go_upto_region 13 with fail
                        go_cut [112] (fun v wx => v = .bool o ∧ Hid (SA w wx blk off m dk))
                        case first => as_aux_lemma =>
                          obtain ⟨G, hG, c1, c2⟩ := HS.out.facts
                          rw [hsz'.out] at c1 c2
                          by_cases hij : (i : Int) ≤ (j : Int)
                          · go_quiet (first | (go_at_call 45; exact Calls.quiet_of_same (less_any _ _ _)))
                            go_wp2
                            go_meet
                            case rel =>
                              refine ⟨?_, HS.out.drewN nq⟩
                              rw [← ho.out, decide_eq_true (show i ≤ j by omega), Bool.true_and]
                              simp only [hG.out, UP]
                          · go_quiet (first | (go_at_call 45; exact Calls.quiet_of_same (less_any _ _ _)))
                            go_wp2
                            go_meet
                            case rel =>
                              refine ⟨?_, HS.out.drewN nq⟩
                              rw [← ho.out, decide_eq_false (show ¬ i ≤ j by omega), Bool.false_and]
                        case rest =>
                          obtain ⟨rfl, HS1⟩ := hcut
                          cases o
                          · go_wp2
                            have HA : Hid (i ≤ j → UP dk[i]! dk[a]! = false) := fun h => by have := ho.out; rw [decide_eq_true h, Bool.true_and] at this; exact this
                            have HS : Hid (SA w wc blk off m dk) := HS1.out
                            clear HS1 ho hsz' hb1
                            go_loopg [11] (j + 1 - i) (fun g vj wx => ∃ j' : Nat, vj = .int .i64 (j' : Int) ∧ g + i = j' + 1 ∧ j' ≤ j ∧ Hid (PI UP d a b p i j' dk ∧ SA w wx blk off m dk))
                            case atStart => exact ⟨j, rfl, by have := HP.out.ij; omega, Nat.le_refl _, HP.out, HS.out⟩
                            case round =>
                              obtain ⟨j', rfl, hg, hjj, H0⟩ := hrel
                              have HA' : Hid (i ≤ j' → UP dk[i]! dk[a]! = false) := fun h => HA.out (by omega)
                              have HP : Hid (PI UP d a b p i j' dk) := H0.out.1
                              have HS : Hid (SA w wr blk off m dk) := H0.out.2
                              clear H0
                              have hb1 := HP.out.bounds
                              obtain ⟨o, ho⟩ : ∃ o, (decide (i ≤ j') && !UP dk[j']! dk[a]!) = o := ⟨_, rfl⟩
                              have ho : Hid ((decide (i ≤ j') && !UP dk[j']! dk[a]!) = o) := ho
                              have hsz' : Hid (dk.size = d.size) := HP.out.1
                              go_upto_region 15 with fail
                              go_cut [129] (fun v wx => v = .bool o ∧ Hid (SA w wx blk off m dk))
                              case first => as_aux_lemma =>
                                obtain ⟨G, hG, c1, c2⟩ := HS.out.facts
                                rw [hsz'.out] at c1 c2
                                by_cases hij : (i : Int) ≤ (j' : Int)
                                · go_quiet (first | (go_at_call 45; exact Calls.quiet_of_same (less_any _ _ _)))
                                  go_wp2
                                  go_meet
                                  case rel =>
                                    refine ⟨?_, HS.out.drewN nq⟩
                                    rw [← ho.out, decide_eq_true (show i ≤ j' by omega), Bool.true_and]
                                    simp only [hG.out, UP]
                                · go_quiet (first | (go_at_call 45; exact Calls.quiet_of_same (less_any _ _ _)))
                                  go_wp2
                                  go_meet
                                  case rel =>
                                    refine ⟨?_, HS.out.drewN nq⟩
                                    rw [← ho.out, decide_eq_false (show ¬ i ≤ j' by omega), Bool.false_and]
                              case rest =>
                                obtain ⟨rfl, HS1⟩ := hcut
                                cases o
                                · skip
                                  have HB : Hid (i ≤ j' → UP dk[j']! dk[a]! = true) := fun h => by have := ho.out; rw [decide_eq_true h, Bool.true_and] at this; simpa using this
                                  by_cases hfin : (j' : Int) < (i : Int)
                                  · have HPf : Hid (PtPost d a b j' (swp dk j' a)) := HP.out.part (by omega)
                                    obtain ⟨G, hG, c1, c2⟩ := HS1.out.facts
                                    rw [hsz'.out] at c1 c2
                                    have hja : a ≤ j' := by omega
                                    rcases Nat.lt_or_eq_of_le hja with h3 | rfl
                                    · go_wp2
                                      go_region
                                      all_goals
                                        go_wp2
                                        go_ret2
                                        exact ⟨j', false, swp dk j' a, rfl, HPf.out, SA.drewN (HS1.out.swap j' a (by have := hsz'.out; omega) (by have := hsz'.out; omega) 0 _ _ (hG.out _) (hG.out _)) 1⟩
                                    · go_wp2
                                      go_region
                                      all_goals
                                        go_wp2
                                        go_ret2
                                        exact ⟨a, false, swp dk a a, rfl, HPf.out, SA.drewN (HS1.out.swap a a (by have := hsz'.out; omega) (by have := hsz'.out; omega) 0 _ _ (hG.out _) (hG.out _)) 1⟩
                                  · obtain ⟨G, hG, c1, c2⟩ := HS1.out.facts
                                    rw [hsz'.out] at c1 c2
                                    have hij2 : i ≤ j' := by omega
                                    have HPs : Hid (PI UP d a b p (i + 1) (j' - 1) (swp dk i j')) := HP.out.sw2 hij2 (HA'.out hij2) (HB.out hij2)
                                    have hne : i ≠ j' := by
                                      intro e; have e1 := HA'.out hij2; have e2 := HB.out hij2; rw [e, e2] at e1; cases e1
                                    have hlt : i < j' := by omega
                                    have hszd := hsz'.out
                                    have HS2 : Hid (SA w (((wc.drewN 0).setCell ⟨blk, off + i, none⟩ (.int .i32 (G j'))).setCell ⟨blk, off + j', none⟩ (.int .i32 (G i))) blk off m (swp dk i j')) := HS1.out.swap i j' (by omega) (by omega) 0 _ _ (hG.out _) (hG.out _)
                                    clear hszd
                                    go_wp2
                                    go_region
                                    all_goals
                                      go_wp2
                                      go_roundg (j' - 1 - i)
                                      case measure => omega
                                      case rel => exact ⟨i + 1, j' - 1, swp dk i j', by go_num, by congr 1; omega, by omega, HPs.out, SA.drewN HS2.out 1⟩
                                · have hij : Hid (i ≤ j') := by
                                    show i ≤ j'
                                    have := ho.out
                                    rw [Bool.and_eq_true] at this
                                    exact of_decide_eq_true this.1
                                  have htr : UP dk[j']! dk[a]! = false := by
                                    have := ho.out
                                    rw [Bool.and_eq_true] at this
                                    simpa using this.2
                                  have htr : Hid (UP dk[j']! dk[a]! = false) := htr
                                  have hij2 : (i : Int) ≤ (j' : Int) := by have := hij.out; omega
                                  go_wp2
                                  go_roundg (j' - i)
                                  case measure => have := hij.out; omega
                                  case rel => exact ⟨j' - 1, by congr 1; have := HP.out.pos; omega, by have := hij.out; have := HP.out.pos; omega, by omega, HP.out.down hij.out htr.out, HS1.out⟩
                          · have hij : Hid (i ≤ j) := by
                              show i ≤ j
                              have := ho.out
                              rw [Bool.and_eq_true] at this
                              exact of_decide_eq_true this.1
                            have htr : UP dk[i]! dk[a]! = true := by
                              have := ho.out
                              rw [Bool.and_eq_true] at this
                              exact this.2
                            have htr : Hid (UP dk[i]! dk[a]! = true) := htr
                            have hij2 : (i : Int) ≤ (j : Int) := by have := hij.out; omega
                            go_wp2
                            go_roundg (j - i)
                            case measure => omega
                            case rel => exact ⟨i + 1, by go_num, by have := hij.out; omega, by omega, HP.out.up hij.out htr.out, HS1.out⟩
              · have hij : Hid (i ≤ j') := by
                  show i ≤ j'
                  have := ho.out
                  rw [Bool.and_eq_true] at this
                  exact of_decide_eq_true this.1
                have htr : UP dk[j']! dk[a]! = false := by
                  have := ho.out
                  rw [Bool.and_eq_true] at this
                  simpa using this.2
                have htr : Hid (UP dk[j']! dk[a]! = false) := htr
                have hij2 : (i : Int) ≤ (j' : Int) := by have := hij.out; omega
                go_wp2
                go_roundg (j' - i)
                case measure => have := hij.out; omega
                case rel => exact ⟨j' - 1, by congr 1; have := HP.out.pos; omega, by have := hij.out; have := HP.out.pos; omega, by omega, HP.out.down hij.out htr.out, HS1.out⟩
        · have hij : Hid (i ≤ j) := by
            show i ≤ j
            have := ho.out
            rw [Bool.and_eq_true] at this
            exact of_decide_eq_true this.1
          have htr : UP dk[i]! dk[a]! = true := by
            have := ho.out
            rw [Bool.and_eq_true] at this
            exact this.2
          have htr : Hid (UP dk[i]! dk[a]! = true) := htr
          have hij2 : (i : Int) ≤ (j : Int) := by have := hij.out; omega
          go_wp2
          go_roundg (j - i)
          case measure => omega
          case rel => exact ⟨i + 1, by go_num, by have := hij.out; omega, by omega, HP.out.up hij.out htr.out, HS1.out⟩
end Go.Proofs.Ybulkbxvu
