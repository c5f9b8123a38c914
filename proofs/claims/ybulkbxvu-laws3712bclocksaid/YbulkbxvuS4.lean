/-
  slices.Sort at []int32: the partitions.
-/
import Derived.Test.YbulkbxvuS3
namespace Go.Proofs.Ybulkbxvu
open Go.RowKit
open Go.Sort
set_option linter.unusedVariables false

/-- Left of the pivot's place; at partition and at partitionEqual. -/
def UP (x p : Int) : Bool := ltInt x p
def UE (x p : Int) : Bool := !ltInt p x
/-- The scans' invariant. -/
def PI (U : Int → Int → Bool) (d : Array Int) (a b p i j : Nat) (dk : Array Int) : Prop :=
  dk.size = d.size ∧ PermIn a b d dk ∧ a < i ∧ i ≤ j + 1 ∧ j < b ∧ b ≤ d.size ∧ (∀ x, a < x → x < i → U dk[x]! dk[a]! = true) ∧ (∀ x, j < x → x < b → U dk[x]! dk[a]! = false) ∧ dk[a]! = d[p]!
section
variable {U : Int → Int → Bool} {d : Array Int} {a b p i j : Nat} {dk : Array Int}
theorem PI.ij (h : PI U d a b p i j dk) : i ≤ j + 1 := h.2.2.2.1
theorem PI.pos (h : PI U d a b p i j dk) : 0 < i := by have := h.2.2.1; omega
theorem PI.bounds (h : PI U d a b p i j dk) : a < i ∧ i ≤ j + 1 ∧ j < b ∧ b ≤ d.size := ⟨h.2.2.1, h.2.2.2.1, h.2.2.2.2.1, h.2.2.2.2.2.1⟩
theorem PI.start (U : Int → Int → Bool) (d : Array Int) (a b p : Nat) (h1 : a ≤ p) (h2 : p < b) (h3 : b ≤ d.size) : PI U d a b p (a + 1) (b - 1) (swp d a p) :=
  ⟨size_swp _ _ _, swp_permIn d a b a p (Nat.le_refl _) (by omega) h1 h2 h3, by omega, by omega, by omega, h3, fun x _ _ => by omega, fun x _ _ => by omega, by
    rw [swp_get d (by omega) (by omega)]
    by_cases e : a = p
    · rw [if_pos e, e]
    · rw [if_neg e, if_pos rfl]⟩
theorem PI.up (h : PI U d a b p i j dk) (hij : i ≤ j) (ht : U dk[i]! dk[a]! = true) : PI U d a b p (i + 1) j dk := by
  obtain ⟨h1, h2, h3, h4, h5, h6, h7, h8, h9⟩ := h
  refine ⟨h1, h2, by omega, by omega, h5, h6, fun x hx1 hx2 => ?_, h8, h9⟩
  by_cases e : x = i
  · rw [e]; exact ht
  · exact h7 x hx1 (by omega)
theorem PI.down (h : PI U d a b p i j dk) (hij : i ≤ j) (ht : U dk[j]! dk[a]! = false) : PI U d a b p i (j - 1) dk := by
  obtain ⟨h1, h2, h3, h4, h5, h6, h7, h8, h9⟩ := h
  refine ⟨h1, h2, h3, by omega, by omega, h6, h7, fun x hx1 hx2 => ?_, h9⟩
  by_cases e : x = j
  · rw [e]; exact ht
  · exact h8 x (by omega) hx2
theorem PI.sw2 (h : PI U d a b p i j dk) (hij : i ≤ j) (h1' : U dk[i]! dk[a]! = false) (h2' : U dk[j]! dk[a]! = true) : PI U d a b p (i + 1) (j - 1) (Sort.swp dk i j) := by
  obtain ⟨h1, h2, h3, h4, h5, h6, h7, h8, h9⟩ := h
  have hne : i ≠ j := by rintro rfl; rw [h1'] at h2'; cases h2'
  have g : ∀ x, (Sort.swp dk i j)[x]! = if x = j then dk[i]! else if x = i then dk[j]! else dk[x]! := swp_get dk (by omega) (by omega)
  have ga : (Sort.swp dk i j)[a]! = dk[a]! := by rw [g, if_neg (by omega), if_neg (by omega)]
  refine ⟨by rw [size_swp]; exact h1, permIn_trans _ _ _ _ _ h2 (swp_permIn dk a b i j (by omega) (by omega) (by omega) (by omega) (by omega)), by omega, by omega, by omega, h6, fun x hx1 hx2 => ?_, fun x hx1 hx2 => ?_, ga.trans h9⟩
  · rw [ga, g, if_neg (by omega)]
    by_cases e : x = i
    · rw [if_pos e]; exact h2'
    · rw [if_neg e]; exact h7 x hx1 (by omega)
  · rw [ga, g]
    by_cases e : x = j
    · rw [if_pos e]; exact h1'
    · rw [if_neg e, if_neg (by omega)]; exact h8 x (by omega) hx2
end
/-- What partitionEqual says. -/
def EqPost (d : Array Int) (a b p mid : Nat) (d' : Array Int) : Prop := a < mid ∧ mid ≤ b ∧ PermIn a b d d' ∧ (∀ x, a ≤ x → x < mid → d'[x]! ≤ d'[a]!) ∧ (∀ x, mid ≤ x → x < b → d'[a]! < d'[x]!) ∧ d'[a]! = d[p]!
theorem PI.eq {d : Array Int} {a b p i j : Nat} {dk : Array Int} (h : PI UE d a b p i j dk) (hij : j < i) : EqPost d a b p i dk := by
  obtain ⟨h1, h2, h3, h4, h5, h6, h7, h8, h9⟩ := h
  refine ⟨h3, by omega, h2, fun x hx1 hx2 => ?_, fun x hx1 hx2 => ?_, h9⟩
  · by_cases e : x = a
    · rw [e]; exact Int.le_refl _
    · have := h7 x (by omega) hx2
      simp [UE, ltInt] at this; exact this
  · have := h8 x (by omega) hx2
    simp [UE, ltInt] at this; exact this
/-- What partition says. -/
def PtPost (d : Array Int) (a b mid : Nat) (d' : Array Int) : Prop := a ≤ mid ∧ mid < b ∧ PermIn a b d d' ∧ (∀ x, a ≤ x → x < mid → d'[x]! ≤ d'[mid]!) ∧ (∀ x, mid < x → x < b → d'[mid]! ≤ d'[x]!)
theorem PI.part {d : Array Int} {a b p i j : Nat} {dk : Array Int} (h : PI UP d a b p i j dk) (hij : j < i) : PtPost d a b j (Sort.swp dk j a) := by
  obtain ⟨h1, h2, h3, h4, h5, h6, h7, h8, h9⟩ := h
  have g : ∀ x, (Sort.swp dk j a)[x]! = if x = a then dk[j]! else if x = j then dk[a]! else dk[x]! := swp_get dk (by omega) (by omega)
  have gj : (Sort.swp dk j a)[j]! = dk[a]! := by
    rw [g]
    by_cases e : j = a
    · rw [if_pos e, e]
    · rw [if_neg e, if_pos rfl]
  refine ⟨by omega, h5, permIn_trans _ _ _ _ _ h2 (swp_permIn dk a b j a (by omega) (by omega) (by omega) (by omega) (by omega)), fun x hx1 hx2 => ?_, fun x hx1 hx2 => ?_⟩
  · rw [gj, g]
    by_cases e : x = a
    · rw [if_pos e]
      have := h7 j (by omega) (by omega)
      simp [UP, ltInt] at this; omega
    · rw [if_neg e, if_neg (by omega)]
      have := h7 x (by omega) (by omega)
      simp [UP, ltInt] at this; omega
  · rw [gj, g, if_neg (by omega), if_neg (by omega)]
    have := h8 x (by omega) hx2
    simp [UP, ltInt] at this; omega

set_option maxHeartbeats 4000000 in
set_option maxRecDepth 100000 in
theorem partEq_any (w W : World) (blk off m c a b p : Nat) (d : Array Int) (h : SA w W blk off m d) (h1 : a ≤ p) (h2 : p < b) (hb : b ≤ d.size) (hsz : (d.size : Int) < 1000000) :
    Calls Yba.prog 46 #[sl blk off d.size c, .int .i64 a, .int .i64 b, .int .i64 p] W fun e W' => ∃ (mid : Nat) (d' : Array Int), e = .returned (.int .i64 mid) ∧ EqPost d a b p mid d' ∧ SA w W' blk off m d' := by
  go_enter Yba.func46, Yba.ntmps46
  go_upto_region 1 with fail
  go_cut [] (fun wx => Hid (SA w wx blk off m (swp d a p)))
  case first => as_aux_lemma =>
    obtain ⟨G, hG, c1, c2⟩ := h.facts
    rcases Nat.lt_or_eq_of_le h1 with h3 | rfl
    · go_region
      all_goals
        go_wp2
        go_meet
        case rel => exact SA.drewN (h.swap a p (by omega) (by omega) 0 _ _ (hG.out _) (hG.out _)) 1
    · go_region
      all_goals
        go_wp2
        go_meet
        case rel => exact SA.drewN (h.swap a a (by omega) (by omega) 0 _ _ (hG.out _) (hG.out _)) 1
  case rest =>
    clear h
    have HS0 : Hid (SA w wc blk off m (swp d a p)) := hcut
    have HP0 : Hid (PI UE d a b p (a + 1) (b - 1) (swp d a p)) := PI.start UE d a b p h1 h2 hb
    clear hcut
    go_wp2
    go_loopg [9, 10] (b - (a + 1)) (fun g vi vj wx => ∃ (i j : Nat) (dk : Array Int), vi = .int .i64 (i : Int) ∧ vj = .int .i64 (j : Int) ∧ g + i = j + 1 ∧ Hid (PI UE d a b p i j dk ∧ SA w wx blk off m dk))
    case atStart => exact ⟨a + 1, b - 1, swp d a p, by go_num, by congr 1; omega, by omega, HP0.out, HS0.out⟩
    case round =>
      clear HS0 HP0
      obtain ⟨i0, j, dk, rfl, rfl, hg0, H0⟩ := hrel
      have HP : Hid (PI UE d a b p i0 j dk) := H0.out.1
      have HS : Hid (SA w wr blk off m dk) := H0.out.2
      clear H0
      go_wp2
      go_loopg [9] (j + 1 - i0) (fun g vi wx => ∃ i : Nat, vi = .int .i64 (i : Int) ∧ g + i = j + 1 ∧ i0 ≤ i ∧ Hid (PI UE d a b p i j dk ∧ SA w wx blk off m dk))
      case atStart => exact ⟨i0, rfl, by have := HP.out.ij; omega, Nat.le_refl _, HP.out, HS.out⟩
      case round =>
        obtain ⟨i, rfl, hg, hi0, H0⟩ := hrel
        have HP : Hid (PI UE d a b p i j dk) := H0.out.1
        have HS : Hid (SA w wr blk off m dk) := H0.out.2
        clear H0
        have hb1 := HP.out.bounds
        obtain ⟨o, ho⟩ : ∃ o, (decide (i ≤ j) && UE dk[i]! dk[a]!) = o := ⟨_, rfl⟩
        have ho : Hid ((decide (i ≤ j) && UE dk[i]! dk[a]!) = o) := ho
        have hsz' : Hid (dk.size = d.size) := HP.out.1
        go_upto_region 3 with fail
        go_cut [43] (fun v wx => v = .bool o ∧ Hid (SA w wx blk off m dk))
        case first => as_aux_lemma =>
          obtain ⟨G, hG, c1, c2⟩ := HS.out.facts
          rw [hsz'.out] at c1 c2
          by_cases hij : (i : Int) ≤ (j : Int)
          · go_quiet (first | (go_at_call 45; exact Calls.quiet_of_same (less_any _ _ _)))
            go_wp2
            go_meet
            case rel =>
              refine ⟨?_, HS.out.drewN nq⟩
              rw [← ho.out, decide_eq_true (show i ≤ j by omega), Bool.true_and]
              simp only [hG.out, UE]
          · go_quiet (first | (go_at_call 45; exact Calls.quiet_of_same (less_any _ _ _)))
            go_wp2
            go_meet
            case rel =>
              refine ⟨?_, HS.out.drewN nq⟩
              rw [← ho.out, decide_eq_false (show ¬ i ≤ j by omega), Bool.false_and]
        case rest =>
          obtain ⟨rfl, HS1⟩ := hcut
          cases o
          · go_wp2
            have HA : Hid (i ≤ j → UE dk[i]! dk[a]! = false) := fun h => by have := ho.out; rw [decide_eq_true h, Bool.true_and] at this; exact this
            have HS : Hid (SA w wc blk off m dk) := HS1.out
            clear HS1 ho hsz' hb1
            go_loopg [10] (j + 1 - i) (fun g vj wx => ∃ j' : Nat, vj = .int .i64 (j' : Int) ∧ g + i = j' + 1 ∧ j' ≤ j ∧ Hid (PI UE d a b p i j' dk ∧ SA w wx blk off m dk))
            case atStart => exact ⟨j, rfl, by have := HP.out.ij; omega, Nat.le_refl _, HP.out, HS.out⟩
            case round =>
              obtain ⟨j', rfl, hg, hjj, H0⟩ := hrel
              have HA' : Hid (i ≤ j' → UE dk[i]! dk[a]! = false) := fun h => HA.out (by omega)
              have HP : Hid (PI UE d a b p i j' dk) := H0.out.1
              have HS : Hid (SA w wr blk off m dk) := H0.out.2
              clear H0
              have hb1 := HP.out.bounds
              obtain ⟨o, ho⟩ : ∃ o, (decide (i ≤ j') && !UE dk[j']! dk[a]!) = o := ⟨_, rfl⟩
              have ho : Hid ((decide (i ≤ j') && !UE dk[j']! dk[a]!) = o) := ho
              have hsz' : Hid (dk.size = d.size) := HP.out.1
              go_upto_region 5 with fail
              go_cut [59] (fun v wx => v = .bool o ∧ Hid (SA w wx blk off m dk))
              case first => as_aux_lemma =>
                obtain ⟨G, hG, c1, c2⟩ := HS.out.facts
                rw [hsz'.out] at c1 c2
                by_cases hij : (i : Int) ≤ (j' : Int)
                · go_quiet (first | (go_at_call 45; exact Calls.quiet_of_same (less_any _ _ _)))
                  go_wp2
                  go_meet
                  case rel =>
                    refine ⟨?_, HS.out.drewN nq⟩
                    rw [← ho.out, decide_eq_true (show i ≤ j' by omega), Bool.true_and]
                    simp only [hG.out, UE, Bool.not_not]
                · go_quiet (first | (go_at_call 45; exact Calls.quiet_of_same (less_any _ _ _)))
                  go_wp2
                  go_meet
                  case rel =>
                    refine ⟨?_, HS.out.drewN nq⟩
                    rw [← ho.out, decide_eq_false (show ¬ i ≤ j' by omega), Bool.false_and]
              case rest =>
                obtain ⟨rfl, HS1⟩ := hcut
                cases o
                · skip
                  have HB : Hid (i ≤ j' → UE dk[j']! dk[a]! = true) := fun h => by have := ho.out; rw [decide_eq_true h, Bool.true_and] at this; simpa using this
                  by_cases hfin : (j' : Int) < (i : Int)
                  · have HPf : Hid (EqPost d a b p i dk) := HP.out.eq (by omega)
                    go_wp2
                    go_ret
                    exact ⟨i, dk, rfl, HPf.out, HS1.out⟩
                  · obtain ⟨G, hG, c1, c2⟩ := HS1.out.facts
                    rw [hsz'.out] at c1 c2
                    have hij2 : i ≤ j' := by omega
                    have HPs : Hid (PI UE d a b p (i + 1) (j' - 1) (swp dk i j')) := HP.out.sw2 hij2 (HA'.out hij2) (HB.out hij2)
                    have hne : i ≠ j' := by
                      intro e; have e1 := HA'.out hij2; have e2 := HB.out hij2; rw [e, e2] at e1; cases e1
                    have hlt : i < j' := by omega
                    go_wp2
                    go_region
                    all_goals
                      go_wp2
                      go_roundg (j' - 1 - i)
                      case measure => omega
                      case rel => exact ⟨i + 1, j' - 1, swp dk i j', by go_num, by congr 1; omega, by omega, HPs.out, SA.drewN (HS1.out.swap i j' (by have := hsz'.out; omega) (by have := hsz'.out; omega) 0 _ _ (hG.out _) (hG.out _)) 1⟩
                · have hij : Hid (i ≤ j') := by
                    show i ≤ j'
                    have := ho.out
                    rw [Bool.and_eq_true] at this
                    exact of_decide_eq_true this.1
                  have htr : UE dk[j']! dk[a]! = false := by
                    have := ho.out
                    rw [Bool.and_eq_true] at this
                    simpa using this.2
                  have htr : Hid (UE dk[j']! dk[a]! = false) := htr
                  have hij2 : (i : Int) ≤ (j' : Int) := by have := hij.out; omega
                  go_wp2
                  go_roundg (j' - i)
                  case measure => have := hij.out; omega
                  case rel => exact ⟨j' - 1, by congr 1; have := HP.out.pos; omega, by have := hij.out; have := HP.out.pos; omega, by omega, HP.out.down hij.out htr.out, HS1.out⟩
          · have hij : Hid (i ≤ j) := by
              show i ≤ j
              have := ho.out
              rw [Bool.and_eq_true] at this
              exact of_decide_eq_true this.1
            have htr : UE dk[i]! dk[a]! = true := by
              have := ho.out
              rw [Bool.and_eq_true] at this
              exact this.2
            have htr : Hid (UE dk[i]! dk[a]! = true) := htr
            have hij2 : (i : Int) ≤ (j : Int) := by have := hij.out; omega
            go_wp2
            go_roundg (j - i)
            case measure => omega
            case rel => exact ⟨i + 1, by go_num, by have := hij.out; omega, by omega, HP.out.up hij.out htr.out, HS1.out⟩
end Go.Proofs.Ybulkbxvu
