/-
  slices.Sort at []int32: insertionSort, reverseRange.
-/
import Derived.Test.YbulkbxvuS0
import Derived.Sort.LotA
namespace Go.Proofs.Ybulkbxvu
open Go.RowKit
open Go.Sort
set_option linter.unusedVariables false

section
variable {α : Type} [Inhabited α] (lt : α → α → Bool)
theorem ins_go (a j : Nat) (d : Array α) (hj : a < j) (hl : lt d[j]! d[j - 1]! = true) : insInner lt a j d = insInner lt a (j - 1) (swp d j (j - 1)) := by
  cases j with
  | zero => omega
  | succ k => rw [insInner, if_pos (by simpa using ⟨hj, hl⟩)]; rfl
theorem ins_stop (a j : Nat) (d : Array α) (h : j ≤ a ∨ lt d[j]! d[j - 1]! = false) : insInner lt a j d = d := by
  cases j with
  | zero => rfl
  | succ k =>
    rw [insInner, if_neg]
    rcases h with h | h
    · simp; omega
    · simp at h; simp [h]
end

set_option maxHeartbeats 2000000 in
set_option maxRecDepth 100000 in
theorem insertion_any (w W : World) (blk off m c a b : Nat) (d : Array Int) (h : SA w W blk off m d) (hab : a ≤ b) (hb : b ≤ d.size) (hsz : (d.size : Int) < 1000000) :
    Calls Yba.prog 39 #[sl blk off d.size c, .int .i64 a, .int .i64 b] W fun e W' => e = .returned (.tuple #[]) ∧ SA w W' blk off m (insertionSort ltInt d a b) := by
  go_enter Yba.func39, Yba.ntmps39
  go_wp2
  go_loopg [6] (b + 1) (fun g vi wr => ∃ (i : Nat) (dk : Array Int), g + i = b + 1 + (a + 1) ∧ vi = .int .i64 i ∧ a < i ∧ i ≤ b + 1 ∧ Hid (dk.size = d.size ∧ SA w wr blk off m dk ∧ insOuter ltInt a b i dk = insOuter ltInt a b (a + 1) d))
  case atStart => exact ⟨a + 1, d, rfl, by go_num, by omega, by omega, rfl, h, rfl⟩
  case round =>
    clear h
    obtain ⟨i, dk, hg, rfl, hai, hib, H⟩ := hrel
    by_cases hlt : i < b
    · go_wp2
      go_loopg [7] i (fun g vj wr2 => ∃ (j : Nat) (dj : Array Int), g = j ∧ vj = .int .i64 j ∧ a ≤ j ∧ j ≤ i ∧ Hid (dj.size = d.size ∧ SA w wr2 blk off m dj ∧ insInner ltInt a j dj = insInner ltInt a i dk))
      case atStart => exact ⟨i, dk, rfl, rfl, by omega, Nat.le_refl _, H.out.1, H.out.2.1, rfl⟩
      case round =>
        obtain ⟨j, dj, hgj, rfl, haj, hji, H2⟩ := hrel
        obtain ⟨hs, hS, hI⟩ := H2.out
        obtain ⟨G, hG, c1, c2⟩ := hS.facts
        rw [hs] at c1 c2
        have HS : Hid (SA w wr blk off m dj) := hS
        have HGJ : Hid (gk = j) := hgj
        clear hS hI hs hgj
        have OUT : Hid ((j ≤ a ∨ ltInt (G j) (G (j - 1)) = false) → ∀ q, dj.size = d.size ∧ SA w (wr.drewN q) blk off m dj ∧ insOuter ltInt a b (i + 1) dj = insOuter ltInt a b (a + 1) d) := by
          intro hs q
          refine ⟨H2.out.1, HS.out.drewN q, ?_⟩
          have e : insOuter ltInt a b i dk = insOuter ltInt a b (i + 1) (insInner ltInt a i dk) := by rw [insOuter, if_pos hlt]
          rw [← H.out.2.2, e, ← H2.out.2.2, ins_stop ltInt a j dj (by rw [← hG.out, ← hG.out]; exact hs)]
        by_cases hja : a < j
        · go_wp2
          go_quiet (first | (go_at_call 45; exact Calls.quiet_of_same (less_any _ _ _)))
          obtain ⟨o, ho⟩ : ∃ o, ltInt (G j) (G (j - 1)) = o := ⟨_, rfl⟩
          have HO : Hid (ltInt (G j) (G (j - 1)) = o) := ho
          rw [ho]
          clear ho
          cases o
          · go_wp2
            go_roundg (b + 1 + (a + 1) - (i + 1))
            case measure => omega
            case rel => exact ⟨i + 1, dj, by omega, by go_num, by omega, by omega, OUT.out (.inr HO.out) nq⟩
          · go_wp2
            go_region
            all_goals go_wp2
            go_roundg (j - 1)
            case measure => have := HGJ.out; omega
            case rel =>
              refine ⟨j - 1, swp dj j (j - 1), rfl, by congr 1; omega, by omega, by omega, ?_, ?_, ?_⟩
              · rw [size_swp]; exact H2.out.1
              · have := H2.out.1
                exact HS.out.swap j (j - 1) (by omega) (by omega) (nq + 1) _ _ (hG.out _) (hG.out _)
              · rw [← H2.out.2.2, ins_go ltInt a j dj hja (by rw [← hG.out, ← hG.out]; exact HO.out)]
        · go_wp2
          go_quiet (first | (go_at_call 45; exact Calls.quiet_of_same (less_any _ _ _)))
          go_wp2
          go_roundg (b + 1 + (a + 1) - (i + 1))
          case measure => omega
          case rel => exact ⟨i + 1, dj, by omega, by go_num, by omega, by omega, OUT.out (.inl (by omega)) nq⟩
    · go_wp2
      go_end0
      refine ⟨rfl, ?_⟩
      have e : insertionSort ltInt d a b = dk := by
        rw [insertionSort, ← H.out.2.2, insOuter, if_neg hlt]
      rw [e]
      exact H.out.2.1

set_option maxHeartbeats 2000000 in
set_option maxRecDepth 100000 in
theorem reverse_any (w W : World) (blk off m c a b : Nat) (d : Array Int) (h : SA w W blk off m d) (hab : a ≤ b) (hb : b ≤ d.size) (hsz : (d.size : Int) < 1000000) :
    Calls Yba.prog 43 #[sl blk off d.size c, .int .i64 a, .int .i64 b] W fun e W' => e = .returned (.tuple #[]) ∧ ∃ d', PermIn a b d d' ∧ SA w W' blk off m d' := by
  go_enter Yba.func43, Yba.ntmps43
  go_wp2
  go_loopg [6, 7] b (fun g vi vj wr => ∃ (i : Nat) (j : Int) (dk : Array Int), (g : Int) = j + 1 ∧ vi = .int .i64 i ∧ vj = .int .i64 j ∧ a ≤ i ∧ i ≤ b ∧ -1 ≤ j ∧ j < b ∧ Hid (dk.size = d.size ∧ SA w wr blk off m dk ∧ PermIn a b d dk))
  case atStart => exact ⟨a, (b : Int) - 1, d, by omega, rfl, rfl, Nat.le_refl _, hab, by omega, by omega, rfl, h, permIn_refl _ _ _⟩
  case round =>
    clear h
    obtain ⟨i, j, dk, hg, rfl, rfl, hai, hib, hj0, hjb, H⟩ := hrel
    by_cases hlt : (i : Int) < j
    · obtain ⟨jn, rfl⟩ := Int.eq_ofNat_of_zero_le (show 0 ≤ j by omega)
      obtain ⟨hs, hS, hP⟩ := H.out
      obtain ⟨G, hG, c1, c2⟩ := hS.facts
      rw [hs] at c1 c2
      have HG : Hid ((gk : Int) = jn + 1) := hg
      clear hS hP hs hg
      go_wp2
      go_region
      all_goals go_wp2
      go_roundg jn
      case measure => have := HG.out; omega
      case rel =>
        obtain ⟨hs, hS, hP⟩ := H.out
        refine ⟨i + 1, (jn : Int) - 1, swp dk i jn, by omega, by go_num, rfl, by omega, by omega, by omega, by omega, ?_, ?_, ?_⟩
        · rw [size_swp]; exact hs
        · exact SA.drewN (hS.swap i jn (by omega) (by omega) 0 _ _ (hG.out _) (hG.out _)) 1
        · exact permIn_trans _ _ _ _ _ hP (swp_permIn dk a b i jn (by omega) (by omega) (by omega) (by omega) (by omega))
    · go_wp2
      go_end0
      exact ⟨rfl, dk, H.out.2.2, H.out.2.1⟩
end Go.Proofs.Ybulkbxvu
