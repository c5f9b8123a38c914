/-
  slices.Sort at []int32: siftDown, heapSort.
-/
import Derived.Test.YbulkbxvuS2
import Derived.Sort.LotB
namespace Go.Proofs.Ybulkbxvu
open Go.RowKit
open Go.Sort
set_option linter.unusedVariables false

/-- The larger child. -/
def bigChild (hi first root : Nat) (d : Array Int) : Nat := if 2 * root + 1 + 1 < hi && ltInt d[first + (2 * root + 1)]! d[first + (2 * root + 1) + 1]! then 2 * root + 2 else 2 * root + 1
theorem sift_stop0 (hi first root : Nat) (d : Array Int) (h : 2 * root + 1 ≥ hi) : siftDown ltInt hi first root d = d := by rw [siftDown, dif_pos h]
theorem sift_stop (hi first root : Nat) (d : Array Int) (h : ¬ 2 * root + 1 ≥ hi) (c : Nat) (hc : bigChild hi first root d = c) (hl : ltInt d[first + root]! d[first + c]! = false) : siftDown ltInt hi first root d = d := by
  rw [siftDown, dif_neg h]
  unfold bigChild at hc
  split at hc
  · rename_i h1; rw [if_pos h1, if_pos (by rw [hc, hl]; rfl)]
  · rename_i h1; rw [if_neg h1, if_pos (by rw [hc, hl]; rfl)]
theorem sift_go (hi first root : Nat) (d : Array Int) (h : ¬ 2 * root + 1 ≥ hi) (c : Nat) (hc : bigChild hi first root d = c) (hl : ltInt d[first + root]! d[first + c]! = true) : siftDown ltInt hi first root d = siftDown ltInt hi first c (swp d (first + root) (first + c)) := by
  rw [siftDown, dif_neg h]
  unfold bigChild at hc
  split at hc
  · rename_i h1
    have h2 : 2 * root + 2 < hi := by simp at h1; omega
    rw [if_pos h1, if_neg (by rw [hc, hl]; simp), dif_pos h2, hc]
  · rename_i h1; rw [if_neg h1, if_neg (by rw [hc, hl]; simp), hc]

theorem sift_size (hi first : Nat) : ∀ (n root : Nat) (d : Array Int), hi - root ≤ n → (siftDown ltInt hi first root d).size = d.size := by
  intro n
  induction n with
  | zero => intro root d h; rw [sift_stop0 _ _ _ _ (by omega)]
  | succ n ih =>
    intro root d h
    by_cases h1 : 2 * root + 1 ≥ hi
    · rw [sift_stop0 _ _ _ _ h1]
    · obtain ⟨c, hc⟩ : ∃ c, bigChild hi first root d = c := ⟨_, rfl⟩
      have hc2 : root < c := by
        rw [← hc]; unfold bigChild
        split <;> omega
      cases hl : ltInt d[first + root]! d[first + c]! with
      | false => rw [sift_stop _ _ _ _ h1 c hc hl]
      | true => rw [sift_go _ _ _ _ h1 c hc hl, ih _ _ (by omega), size_swp]

set_option maxHeartbeats 2000000 in
set_option maxRecDepth 100000 in
theorem sift_any (w W : World) (blk off m c lo hi first : Nat) (d : Array Int) (h : SA w W blk off m d) (hf : first + hi ≤ d.size) (hlo : (lo : Int) < 1000000) (hsz : (d.size : Int) < 1000000) :
    Calls Yba.prog 55 #[sl blk off d.size c, .int .i64 lo, .int .i64 hi, .int .i64 first] W fun e W' => e = .returned (.tuple #[]) ∧ SA w W' blk off m (siftDown ltInt hi first lo d) := by
  go_enter Yba.func55, Yba.ntmps55
  go_wp2
  go_loopg [8] hi (fun g vr wr => ∃ (root : Nat) (dk : Array Int), vr = .int .i64 root ∧ g + root = hi + lo ∧ (root : Int) < 1000000 ∧ Hid (dk.size = d.size ∧ SA w wr blk off m dk ∧ siftDown ltInt hi first root dk = siftDown ltInt hi first lo d))
  case atStart => exact ⟨lo, d, rfl, rfl, hlo, rfl, h, rfl⟩
  case round =>
    clear h
    obtain ⟨root, dk, rfl, hg, hr, H⟩ := hrel
    by_cases h1 : 2 * (root : Int) + 1 ≥ hi
    · go_wp2
      go_end0
      refine ⟨rfl, ?_⟩
      rw [← H.out.2.2, sift_stop0 _ _ _ _ (by omega)]
      exact H.out.2.1
    · have h1' : ¬ 2 * root + 1 ≥ hi := by omega
      obtain ⟨ch, hch⟩ : ∃ ch, bigChild hi first root dk = ch := ⟨_, rfl⟩
      have hch2 : ch = 2 * root + 1 ∨ (ch = 2 * root + 2 ∧ 2 * root + 2 < hi) := by
        rw [← hch]; unfold bigChild
        split
        · rename_i h; simp at h; exact .inr ⟨rfl, by omega⟩
        · exact .inl rfl
      have HS : Hid (SA w wr blk off m dk) := H.out.2.1
      have hs := H.out.1
      have HCH : Hid (bigChild hi first root dk = ch) := hch
      clear hch
      go_upto_region 3 with fail
      go_cut [36] (fun v wx => v = .bool (decide (ch = 2 * root + 2)) ∧ Hid (SA w wx blk off m dk))
      case first => as_aux_lemma =>
        obtain ⟨G, hG, c1, c2⟩ := HS.out.facts
        rw [hs] at c1 c2
        clear hs
        by_cases h2 : 2 * (root : Int) + 1 + 1 < hi
        · go_quiet (first | (go_at_call 45; exact Calls.quiet_of_same (less_any _ _ _)))
          go_wp2
          go_meet
          case rel =>
            refine ⟨?_, HS.out.drewN nq⟩
            congr 1
            rw [← HCH.out, hG.out, hG.out]
            unfold bigChild
            rw [decide_eq_true (show 2 * root + 1 + 1 < hi by omega), Bool.true_and]
            rw [show first + (2 * root + 1) = first + 2 * root + 1 by omega, show first + 2 * root + 1 + 1 = first + 2 * root + 2 by omega]
            cases ltInt dk[first + 2 * root + 1]! dk[first + 2 * root + 2]! <;> simp
        · go_quiet (first | (go_at_call 45; exact Calls.quiet_of_same (less_any _ _ _)))
          go_wp2
          go_meet
          case rel => exact ⟨by congr 1; symm; apply decide_eq_false; omega, HS.out.drewN nq⟩
      case rest =>
        obtain ⟨rfl, HS1⟩ := hcut
        go_upto_if 36 with fail
        go_cut [9] (fun v wx => v = .int .i64 (ch : Int) ∧ wx = wc)
        case first => as_aux_lemma =>
          by_cases h2 : ch = 2 * root + 2
          · rw [decide_eq_true h2]
            go_wp2
            go_meet
            case rel => exact ⟨by congr 1; omega, rfl⟩
          · rw [decide_eq_false h2]
            go_wp2
            go_meet
            case rel => exact ⟨by congr 1; omega, rfl⟩
        case rest =>
          obtain ⟨rfl, rfl⟩ := hcut
          have hcl : ch < hi := by omega
          have hcr : root < ch := by omega
          obtain ⟨G, hG, c1, c2⟩ := HS1.out.facts
          rw [hs] at c1 c2
          have Hh1 : Hid (¬ 2 * root + 1 ≥ hi) := h1'
          have Hhs : Hid (dk.size = d.size) := hs
          clear hch2 h1 h1' hs
          go_wp2
          go_quiet (first | (go_at_call 45; exact Calls.quiet_of_same (less_any _ _ _)))
          obtain ⟨o, ho⟩ : ∃ o, ltInt (G (first + root)) (G (first + ch)) = o := ⟨_, rfl⟩
          have HO : Hid (ltInt (G (first + root)) (G (first + ch)) = o) := ho
          rw [ho]
          clear ho
          cases o
          · simp only [Bool.not_false]
            go_wp2
            refine bodyPost_ret (v := .tuple #[]) (by simp [results, Yba.results55, go_sem]) rfl ?_
            refine ⟨rfl, ?_⟩
            rw [← H.out.2.2, sift_stop _ _ _ _ Hh1.out ch HCH.out (by rw [← hG.out, ← hG.out]; exact HO.out)]
            exact HS1.out.drewN nq
          · simp only [Bool.not_true]
            go_wp2
            go_region
            all_goals go_wp2
            go_roundg (hi + lo - ch)
            case measure => omega
            case rel =>
              refine ⟨ch, swp dk (first + root) (first + ch), rfl, by omega, by omega, ?_, ?_, ?_⟩
              · rw [size_swp]; exact Hhs.out
              · have := Hhs.out
                exact HS1.out.swap (first + root) (first + ch) (by omega) (by omega) (nq + 1) _ _ (hG.out _) (hG.out _)
              · rw [← H.out.2.2, sift_go _ _ _ _ Hh1.out ch HCH.out (by rw [← hG.out, ← hG.out]; exact HO.out)]

set_option maxHeartbeats 2000000 in
set_option maxRecDepth 100000 in
theorem heap_any (w W : World) (blk off m c a b : Nat) (d : Array Int) (h : SA w W blk off m d) (hab : a ≤ b) (hb : b ≤ d.size) (hsz : (d.size : Int) < 1000000) :
    Calls Yba.prog 40 #[sl blk off d.size c, .int .i64 a, .int .i64 b] W fun e W' => e = .returned (.tuple #[]) ∧ SA w W' blk off m (heapSort ltInt d a b) := by
  obtain ⟨n, hn⟩ : ∃ n : Nat, (b : Int) - (a : Int) = (n : Int) := ⟨b - a, by omega⟩
  have hn' : Hid (b = a + n) := by show _ = _; omega
  have HSF : Hid (∀ (lo hi : Nat) (dk : Array Int) (W : World), dk.size = d.size → SA w W blk off m dk → hi ≤ n → (lo : Int) < 1000000 → Calls Yba.prog 55 #[sl blk off d.size c, .int .i64 lo, .int .i64 hi, .int .i64 a] W fun e W' => e = .returned (.tuple #[]) ∧ SA w W' blk off m (siftDown ltInt hi a lo dk)) :=
    fun lo hi dk W hs h h1 h2 => by rw [← hs]; exact sift_any w W blk off m c lo hi a dk h (by have := hn'.out; omega) h2 (by omega)
  obtain ⟨k0, hk0⟩ : ∃ k0 : Nat, ((n : Int) - 1).tdiv 2 = k0 := ⟨(n - 1) / 2, by
    rcases Nat.eq_zero_or_pos n with rfl | h
    · rfl
    · rw [Int.tdiv_eq_ediv_of_nonneg (by omega)]; omega⟩
  have hk1 : Hid (k0 = (n - 1) / 2) := by
    show _ = _
    rcases Nat.eq_zero_or_pos n with rfl | h
    · simpa using hk0.symm
    · rw [Int.tdiv_eq_ediv_of_nonneg (by omega)] at hk0; omega
  have hk2 : (k0 : Int) < 1000000 := by have := hk1.out; have := hn'.out; omega
  go_enter Yba.func40, Yba.ntmps40
  go_wp2
  go_loopg [9] (k0 + 1) (fun g v wr => ∃ (k : Nat) (dk : Array Int), g = k ∧ k ≤ k0 + 1 ∧ v = .int .i64 ((k : Int) - 1) ∧ Hid (dk.size = d.size ∧ SA w wr blk off m dk ∧ heapBuild ltInt n a k dk = heapBuild ltInt n a (k0 + 1) d))
  case atStart => exact ⟨k0 + 1, d, rfl, Nat.le_refl _, by congr 1; omega, rfl, h, rfl⟩
  case round =>
    clear h
    obtain ⟨k, dk, hgk, hk, rfl, H⟩ := hrel
    have HGK : Hid (gk = k) := hgk
    clear hgk
    by_cases hz : k = 0
    · subst hz
      go_wp2
      go_loopg [10] n (fun g v wr => ∃ (j : Nat) (dj : Array Int), g = j ∧ j ≤ n ∧ v = .int .i64 ((j : Int) - 1) ∧ Hid (dj.size = d.size ∧ SA w wr blk off m dj ∧ heapPop ltInt a j dj = heapPop ltInt a n dk))
      case atStart => exact ⟨n, dk, rfl, Nat.le_refl _, rfl, H.out.1, H.out.2.1, rfl⟩
      case round =>
        obtain ⟨j, dj, hgj, hj, rfl, H2⟩ := hrel
        have HGJ : Hid (gk = j) := hgj
        clear hgj
        cases j with
        | zero =>
          go_wp2
          go_end0
          refine ⟨rfl, ?_⟩
          have e : heapSort ltInt d a b = dj := by
            rw [hn'.out, heapSort, Nat.add_sub_cancel_left, show (n - 1) / 2 = k0 from hk1.out.symm, ← H.out.2.2]
            show heapPop ltInt a n dk = dj
            rw [← H2.out.2.2]; rfl
          rw [e]
          exact H2.out.2.1
        | succ i =>
          obtain ⟨hs, hS, hP⟩ := H2.out
          obtain ⟨G, hG, c1, c2⟩ := hS.facts
          rw [hs] at c1 c2
          have HS : Hid (SA w wr blk off m dj) := hS
          clear hS hP hs
          have e1 : ((i + 1 : Nat) : Int) - 1 = (i : Int) := by omega
          rw [e1]
          rcases Nat.eq_zero_or_pos i with rfl | hi
          · go_wp2
            go_region
            all_goals
              go_wp2_with (go_at_call 55; refine (HSF.out 0 0 (swp dj a (a + 0)) _ (by rw [size_swp]; exact H2.out.1) (SA.drewN (HS.out.swap a (a + 0) (by have := H2.out.1; omega) (by have := H2.out.1; omega) 0 _ _ (hG.out _) (hG.out _)) 1) (by omega) (by omega)).mono ?_; rintro e W1 ⟨rfl, h1⟩)
              go_roundg 0
              case measure => have := HGJ.out; omega
              case rel => exact ⟨0, _, rfl, by omega, rfl, by rw [sift_size _ _ _ _ _ (Nat.le_refl _), size_swp]; exact H2.out.1, h1, H2.out.2.2⟩
          · go_wp2
            go_region
            all_goals
              go_wp2_with (go_at_call 55; refine (HSF.out 0 i (swp dj a (a + i)) _ (by rw [size_swp]; exact H2.out.1) (SA.drewN (HS.out.swap a (a + i) (by have := H2.out.1; omega) (by have := H2.out.1; omega) 0 _ _ (hG.out _) (hG.out _)) 1) (by omega) (by omega)).mono ?_; rintro e W1 ⟨rfl, h1⟩)
              go_roundg i
              case measure => have := HGJ.out; omega
              case rel => exact ⟨i, _, rfl, by omega, rfl, by rw [sift_size _ _ _ _ _ (Nat.le_refl _), size_swp]; exact H2.out.1, h1, H2.out.2.2⟩
    · obtain ⟨i, rfl⟩ : ∃ i, k = i + 1 := ⟨k - 1, by omega⟩
      have e1 : ((i + 1 : Nat) : Int) - 1 = (i : Int) := by omega
      rw [e1]
      have hi6 : (i : Int) < 1000000 := by have := hk1.out; have := hn'.out; omega
      go_wp2_with (go_at_call 55; refine (HSF.out i n dk _ H.out.1 H.out.2.1 (Nat.le_refl _) hi6).mono ?_; rintro e W1 ⟨rfl, h1⟩)
      go_roundg i
      case measure => have := HGK.out; omega
      case rel => exact ⟨i, _, rfl, by omega, rfl, by rw [sift_size _ _ _ _ _ (Nat.le_refl _)]; exact H.out.1, h1, H.out.2.2⟩
end Go.Proofs.Ybulkbxvu
