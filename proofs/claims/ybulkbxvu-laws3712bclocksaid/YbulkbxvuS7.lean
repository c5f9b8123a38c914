/-
  slices.Sort at []int32: breakPatterns.
-/
import Derived.Test.YbulkbxvuS2
import Derived.Test.YbulkbxvuLen
namespace Go.Proofs.Ybulkbxvu
open Go.RowKit
open Go.Sort
set_option linter.unusedVariables false

theorem bl_pow : ∀ (f x : Nat), x < 2 ^ f → x ≠ 0 → 2 ^ (Lib.bitLenAux f x) ≤ 2 * x
  | 0, x, h, h0 => by simp at h; omega
  | f + 1, x, h, h0 => by
    rw [Lib.bitLenAux, if_neg h0]
    by_cases h1 : x / 2 = 0
    · rw [h1]
      have : Lib.bitLenAux f 0 = 0 := by cases f <;> simp [Lib.bitLenAux]
      rw [this]; omega
    · have := bl_pow f (x / 2) (by rw [Nat.pow_succ] at h; omega) h1
      rw [Nat.pow_add]; omega

/-- .. beside the generator's state. -/
def SB (w W : World) (blk off m : Nat) (d : Array Int) (q : Nat) : Prop := SA w W blk off m d ∧ w.heap.size ≤ q ∧ ∃ v : Int, W.heap[q]? = some (.cells #[.int .u64 v] 136 (0, 0))
theorem SB.bump {w W : World} {blk off m : Nat} {d : Array Int} {q : Nat} (h : SB w W blk off m d q) (k : Nat) (x : Int) : SB w ((W.drewN k).setCell ⟨q, 0, none⟩ (.int .u64 x)) blk off m d q := by
  obtain ⟨⟨hR, hF, hl⟩, hq, v, hv⟩ := h
  refine ⟨⟨hR.same ?_, (hF.drewN k).set _ _ _ (.inr hq), hl⟩, hq, x, ?_⟩
  · exact heap_setCell_other (W.drewN k) ⟨q, 0, none⟩ blk _ (by simp; omega)
  · exact heap_setCell_same (W.drewN k) q 0 #[.int .u64 v] 136 _ hv
theorem SB.drewN {w W : World} {blk off m : Nat} {d : Array Int} {q : Nat} (h : SB w W blk off m d q) (k : Nat) : SB w (W.drewN k) blk off m d q := h
theorem SB.cell {w W : World} {blk off m : Nat} {d : Array Int} {q : Nat} (h : SB w W blk off m d q) : ∃ v : Int, W.cell? ⟨q, 0, none⟩ = some (.int .u64 v) ∧ W.frozen? ⟨q, 0, none⟩ = false := by
  obtain ⟨-, -, v, hv⟩ := h
  exact ⟨v, by simp [World.cell?, hv], by simp [World.frozen?, hv]⟩

set_option maxHeartbeats 2000000 in
set_option maxRecDepth 100000 in
theorem next_any (w W : World) (blk off m : Nat) (d : Array Int) (q : Nat) (h : SB w W blk off m d q) :
    Calls Yba.prog 57 #[pt q] W fun e W' => ∃ x : Int, e = .returned (.int .u64 x) ∧ SB w W' blk off m d q := by
  have HB : Hid (SB w W blk off m d q) := h
  clear h
  go_enter Yba.func57, Yba.ntmps57
  go_upto_region 1 with fail
  go_cut [] (fun wx => Hid (SB w wx blk off m d q))
  case first => as_aux_lemma =>
    obtain ⟨v, v1, v2⟩ := HB.out.cell
    go_region
    all_goals
      go_wp2
      go_meet
      case rel => exact SB.drewN (HB.out.bump 0 _) 1
  case rest =>
    clear HB
    have HB : Hid (SB w wc blk off m d q) := hcut
    clear hcut
    go_upto_region 2 with fail
    go_cut [] (fun wx => Hid (SB w wx blk off m d q))
    case first => as_aux_lemma =>
      obtain ⟨v, v1, v2⟩ := HB.out.cell
      go_region
      all_goals
        go_wp2
        go_meet
        case rel => exact SB.drewN (HB.out.bump 0 _) 1
    case rest =>
      clear HB
      have HB : Hid (SB w wc blk off m d q) := hcut
      clear hcut
      go_upto_region 3 with fail
      go_cut [] (fun wx => Hid (SB w wx blk off m d q))
      case first => as_aux_lemma =>
        obtain ⟨v, v1, v2⟩ := HB.out.cell
        go_region
        all_goals
          go_wp2
          go_meet
          case rel => exact SB.drewN (HB.out.bump 0 _) 1
      case rest =>
        clear HB
        have HB : Hid (SB w wc blk off m d q) := hcut
        clear hcut
        obtain ⟨v, v1, v2⟩ := HB.out.cell
        go_wp2
        go_ret
        exact ⟨_, rfl, HB.out⟩

set_option maxHeartbeats 2000000 in
set_option maxRecDepth 100000 in
theorem pow2_any (W : World) (n : Nat) (hn : (n : Int) < 1000000) (h0 : 0 < n) :
    Calls Yba.prog 56 #[.int .i64 (n : Int)] W fun e W' => ∃ M : Nat, e = .returned (.int .u64 (M : Int)) ∧ 1 ≤ M ∧ M ≤ 2 * n ∧ W' = W := by
  have e0 : IntKind.u64.wrap (n : Int) = (n : Int) := by rw [IntKind.wrap_u64]; omega
  have hp : 2 ^ (Lib.bitLen n) ≤ 2 * n := bl_pow 64 n (by omega) (by omega)
  have hp0 : 1 ≤ 2 ^ (Lib.bitLen n) := Nat.one_le_two_pow
  have hm : min (Lib.bitLen n) 64 = Lib.bitLen n := by
    apply Nat.min_eq_left
    rcases Nat.lt_or_ge 64 (Lib.bitLen n) with h | h
    · have := Nat.pow_le_pow_right (show 0 < 2 by omega) (Nat.le_of_lt h)
      omega
    · exact h
  have e1 : IntKind.u64.wrap (2 ^ (Lib.bitLen n)) = ((2 ^ (Lib.bitLen n) : Nat) : Int) := by
    have e : ((2 : Int) ^ (Lib.bitLen n)) = ((2 ^ (Lib.bitLen n) : Nat) : Int) := by push_cast; rfl
    rw [e, IntKind.wrap_u64]; omega
  have HP : Hid (2 ^ (Lib.bitLen n) ≤ 2 * n ∧ 1 ≤ 2 ^ (Lib.bitLen n)) := ⟨hp, hp0⟩
  clear hp hp0
  go_enter Yba.func56, Yba.ntmps56
  go_wp2_with (go_at_call 29; refine (Yba.bits_Len _ _ (by omega) (by omega)).mono ?_; rintro e w' ⟨rfl, rfl⟩)
  go_ret
  exact ⟨2 ^ (Lib.bitLen n), by simp, HP.out.2, HP.out.1, rfl⟩

theorem and_small (x : Int) (M : Nat) (hM : 1 ≤ M) (hM2 : (M : Int) < 2000000) : ∃ y : Nat, bits BinOp.and IntKind.u64 x ((M : Int) - 1) = (y : Int) ∧ y < M := by
  have h : (BitVec.ofInt 64 x &&& BitVec.ofInt 64 ((M : Int) - 1)).toNat ≤ M - 1 := by
    rw [BitVec.toNat_and]
    refine Nat.le_trans Nat.and_le_right ?_
    rw [BitVec.toNat_ofInt]
    omega
  refine ⟨(BitVec.ofInt 64 x &&& BitVec.ofInt 64 ((M : Int) - 1)).toNat, ?_, by omega⟩
  show IntKind.u64.wrap (((BitVec.ofInt 64 x &&& BitVec.ofInt 64 ((M : Int) - 1)).toNat : Nat) : Int) = _
  rw [IntKind.wrap_u64]
  omega
theorem SB.make {w W : World} {blk off m : Nat} {A : Array Int} (h : SA w W blk off m A) (x : Int) : SB w (W.alloc (.cells #[.int .u64 x] 136)) blk off m A W.heap.size :=
  ⟨h.alloc _, h.2.1.2.2.2.1, x, heap_alloc_new W _⟩
theorem SB.swap {w W : World} {blk off m : Nat} {d : Array Int} {q : Nat} (h : SB w W blk off m d q) (i j : Nat) (hi : i < d.size) (hj : j < d.size) (k : Nat) (x y : Int) (hx : x = d[j]!) (hy : y = d[i]!) :
    SB w (((W.drewN k).setCell ⟨blk, off + i, none⟩ (.int .i32 x)).setCell ⟨blk, off + j, none⟩ (.int .i32 y)) blk off m (swp d i j) q := by
  refine ⟨h.1.swap i j hi hj k x y hx hy, h.2.1, ?_⟩
  obtain ⟨h1, h2, v, hv⟩ := h
  refine ⟨v, ?_⟩
  have hne : q ≠ blk := by have := h1.2.2; omega
  rw [heap_setCell_other _ _ q _ (by simpa using hne), heap_setCell_other _ _ q _ (by simpa using hne)]
  exact hv

set_option maxHeartbeats 4000000 in
set_option maxRecDepth 100000 in
theorem break_any (w W : World) (blk off m c a b : Nat) (d : Array Int) (h : SA w W blk off m d) (hab : a + 8 ≤ b) (hb : b ≤ d.size) (hsz : (d.size : Int) < 1000000) :
    Calls Yba.prog 41 #[sl blk off d.size c, .int .i64 a, .int .i64 b] W fun e W' => e = .returned (.tuple #[]) ∧ ∃ d', PermIn a b d d' ∧ SA w W' blk off m d' := by
  obtain ⟨l, hl⟩ : ∃ l : Nat, (b : Int) - (a : Int) = (l : Int) := ⟨b - a, by omega⟩
  have hl8 : 8 ≤ (l : Int) := by omega
  obtain ⟨q4, hq4⟩ : ∃ q4 : Nat, (l : Int).tdiv 4 = (q4 : Int) := ⟨l / 4, by rw [Int.tdiv_eq_ediv_of_nonneg (by omega)]; omega⟩
  have hq : q4 * 4 ≤ l ∧ l < q4 * 4 + 4 := by rw [Int.tdiv_eq_ediv_of_nonneg (by omega)] at hq4; omega
  have hq6 : (q4 : Int) < 1000000 := by omega
  have HB : Hid (SB w (W.alloc (.cells #[.int .u64 (l : Int)] 136)) blk off m d W.heap.size) := SB.make h _
  have eu : IntKind.u64.wrap (l : Int) = (l : Int) := by rw [IntKind.wrap_u64]; omega
  clear h
  go_enter Yba.func41, Yba.ntmps41
  go_wp2_with (go_at_call 56; refine (pow2_any _ l (by omega) (by omega)).mono ?_; rintro e W1 ⟨M, rfl, hM1, hM2, rfl⟩)
  have HM : Hid (1 ≤ M ∧ M ≤ 2 * l) := ⟨hM1, hM2⟩
  have hM3 : (M : Int) < 2000000 := by omega
  have eM : IntKind.u64.wrap ((M : Int) - 1) = (M : Int) - 1 := by rw [IntKind.wrap_u64]; omega
  clear hM2
  go_loopg [9] 3 (fun g v wx => ∃ (i : Nat) (dk : Array Int), g + i = a + q4 * 2 + 2 ∧ v = .int .i64 (i : Int) ∧ a ≤ i ∧ Hid (dk.size = d.size ∧ SB w wx blk off m dk W.heap.size ∧ PermIn a b d dk))
  case atStart => exact ⟨a + q4 * 2 - 1, d, by omega, by congr 1; omega, by omega, rfl, HB.out, permIn_refl _ _ _⟩
  case round =>
    clear HB
    obtain ⟨i, dk, hg, rfl, hai, H⟩ := hrel
    by_cases hle : (i : Int) ≤ (a : Int) + (q4 : Int) * 2 + 1
    · go_upto_region 8 with (go_at_call 57; refine (next_any w wr blk off m dk W.heap.size H.out.2.1).mono ?_; rintro e W2 ⟨x, rfl, hB2⟩; obtain ⟨y, hy, hyM⟩ := and_small x M hM1 hM3; have hy6 : (y : Int) < 2000000 := by omega)
      have hy2 : y < 2 * l := by have := HM.out; omega
      by_cases hyl : (l : Int) ≤ (y : Int)
      · obtain ⟨z, hz⟩ : ∃ z : Nat, (y : Int) - (l : Int) = (z : Int) := ⟨y - l, by omega⟩
        have hzl : z < l := by omega
        have HB2 : Hid (SB w W2 blk off m dk W.heap.size) := hB2
        obtain ⟨G, hG, c1, c2⟩ := hB2.1.facts
        rw [H.out.1] at c1 c2
        have HPs : Hid (PermIn a b d (swp dk i (a + z))) := permIn_trans _ _ _ _ _ H.out.2.2 (swp_permIn dk a b i (a + z) (by omega) (by omega) (by omega) (by omega) (by have := H.out.1; omega))
        clear hB2
        by_cases hne : i = a + z
        · subst hne
          go_wp2
          go_region
          all_goals
            go_wp2
            go_roundg (a + q4 * 2 + 1 - (a + z))
            case measure => omega
            case rel => exact ⟨a + z + 1, swp dk (a + z) (a + z), by omega, by go_num, by omega, by rw [size_swp]; exact H.out.1, SB.drewN (HB2.out.swap (a + z) (a + z) (by have := H.out.1; omega) (by have := H.out.1; omega) 0 _ _ (hG.out _) (hG.out _)) 1, HPs.out⟩
        · go_wp2
          go_region
          all_goals
            go_wp2
            go_roundg (a + q4 * 2 + 1 - i)
            case measure => omega
            case rel => exact ⟨i + 1, swp dk i (a + z), by omega, by go_num, by omega, by rw [size_swp]; exact H.out.1, SB.drewN (HB2.out.swap i (a + z) (by have := H.out.1; omega) (by have := H.out.1; omega) 0 _ _ (hG.out _) (hG.out _)) 1, HPs.out⟩
      · obtain ⟨z, hz⟩ : ∃ z : Nat, (y : Int) = (z : Int) := ⟨y, rfl⟩
        obtain rfl : y = z := by omega
        have hzl : y < l := by omega
        have HB2 : Hid (SB w W2 blk off m dk W.heap.size) := hB2
        obtain ⟨G, hG, c1, c2⟩ := hB2.1.facts
        rw [H.out.1] at c1 c2
        have HPs : Hid (PermIn a b d (swp dk i (a + y))) := permIn_trans _ _ _ _ _ H.out.2.2 (swp_permIn dk a b i (a + y) (by omega) (by omega) (by omega) (by omega) (by have := H.out.1; omega))
        clear hB2
        by_cases hne : i = a + y
        · subst hne
          go_wp2
          go_region
          all_goals
            go_wp2
            go_roundg (a + q4 * 2 + 1 - (a + y))
            case measure => omega
            case rel => exact ⟨a + y + 1, swp dk (a + y) (a + y), by omega, by go_num, by omega, by rw [size_swp]; exact H.out.1, SB.drewN (HB2.out.swap (a + y) (a + y) (by have := H.out.1; omega) (by have := H.out.1; omega) 0 _ _ (hG.out _) (hG.out _)) 1, HPs.out⟩
        · go_wp2
          go_region
          all_goals
            go_wp2
            go_roundg (a + q4 * 2 + 1 - i)
            case measure => omega
            case rel => exact ⟨i + 1, swp dk i (a + y), by omega, by go_num, by omega, by rw [size_swp]; exact H.out.1, SB.drewN (HB2.out.swap i (a + y) (by have := H.out.1; omega) (by have := H.out.1; omega) 0 _ _ (hG.out _) (hG.out _)) 1, HPs.out⟩
    · go_wp2
      go_end0
      exact ⟨rfl, dk, H.out.2.2, H.out.2.1.1⟩
end Go.Proofs.Ybulkbxvu
