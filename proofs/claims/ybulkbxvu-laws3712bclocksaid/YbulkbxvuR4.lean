/-
  slices.Compact at []int32.
-/
import Derived.Test.YbulkbxvuR3
namespace Go.Proofs.Ybulkbxvu
open Go.RowKit
set_option linter.unusedVariables false

/-- The same values on [0, a) and [0, b), the same last. -/
def SameUp (a b : Nat) (H G : Nat → Int) : Prop := (∀ x, (∃ j, j < a ∧ H j = x) ↔ ∃ j, j < b ∧ G j = x) ∧ H (a - 1) = G (b - 1)

/-- The inner loop's state. -/
structure CI (n k k' k2 : Nat) (G H : Nat → Int) : Prop where
  h1 : 1 ≤ k
  h2 : k ≤ k'
  h3 : k' + 1 ≤ k + k2
  h4 : k + k2 ≤ n
  tail : ∀ j, k + k2 - 1 ≤ j → j < n → H j = G j
  same : SameUp k' (k + k2) H G
theorem CI.start (n k : Nat) (G : Nat → Int) (h1 : 1 ≤ k) (hk : k < n) (he : G k = G (k - 1)) : CI n k k 1 G G := by
  refine ⟨h1, Nat.le_refl _, by omega, by omega, fun j _ _ => rfl, ?_, ?_⟩
  · intro x
    constructor
    · rintro ⟨j, hj, e⟩; exact ⟨j, by omega, e⟩
    · rintro ⟨j, hj, e⟩
      by_cases h : j = k
      · exact ⟨k - 1, by omega, by rw [← he, ← h]; exact e⟩
      · exact ⟨j, by omega, e⟩
  · rw [show k + 1 - 1 = k by omega]; exact he.symm
theorem CI.skip {n k k' k2 : Nat} {G H : Nat → Int} (h : CI n k k' k2 G H) (hk : k + k2 < n) (he : G (k + k2) = G (k + k2 - 1)) : CI n k k' (k2 + 1) G H := by
  have h1 := h.h1
  have h2 := h.h2
  have h3 := h.h3
  refine ⟨h1, h2, by omega, by omega, fun j j1 j2 => h.tail j (by omega) j2, ?_, ?_⟩
  · intro x
    rw [h.same.1 x]
    constructor
    · rintro ⟨j, hj, e⟩; exact ⟨j, by omega, e⟩
    · rintro ⟨j, hj, e⟩
      by_cases h : j = k + k2
      · exact ⟨k + k2 - 1, by omega, by rw [← he, ← h]; exact e⟩
      · exact ⟨j, by omega, e⟩
  · rw [h.same.2, show k + (k2 + 1) - 1 = k + k2 by omega]; exact he.symm
theorem CI.put {n k k' k2 : Nat} {G H : Nat → Int} (h : CI n k k' k2 G H) (hk : k + k2 < n) : CI n k (k' + 1) (k2 + 1) G (fun t => if t = k' then G (k + k2) else H t) := by
  have h1 := h.h1
  have h2 := h.h2
  have h3 := h.h3
  refine ⟨h1, by omega, by omega, by omega, fun j j1 j2 => ?_, ?_, ?_⟩
  · rw [if_neg (by omega)]; exact h.tail j (by omega) j2
  · intro x
    constructor
    · rintro ⟨j, hj, e⟩
      by_cases e1 : j = k'
      · simp only [if_pos e1] at e; exact ⟨k + k2, by omega, e⟩
      · simp only [if_neg e1] at e
        obtain ⟨i, hi, ei⟩ := (h.same.1 x).mp ⟨j, by omega, e⟩
        exact ⟨i, by omega, ei⟩
    · rintro ⟨j, hj, e⟩
      by_cases e1 : j = k + k2
      · exact ⟨k', by omega, by simp only [if_true]; rw [← e1]; exact e⟩
      · obtain ⟨i, hi, ei⟩ := (h.same.1 x).mpr ⟨j, by omega, e⟩
        exact ⟨i, by omega, by simp only [if_neg (show ¬ i = k' by omega)]; exact ei⟩
  · simp only [show k' + 1 - 1 = k' by omega, if_true, show k + (k2 + 1) - 1 = k + k2 by omega]

/-- clear of a row's tail. -/
theorem clear_tail (W : World) (g m n o c : Nat) (G : Nat → Int) (ho : o < n) (hR : RowG W g 0 m n G) : ∃ W2, (Builtin.clear_ #[28] 0 #[sl g o (n - o) c]).run Yba.prog W = .ok (.tuple #[]) W2 ∧ RowG W2 g 0 m n (fun t => if o ≤ t then 0 else G t) ∧ ∀ w, Fr w W g → Fr w W2 g := by
  obtain ⟨c1, c2⟩ := hR.cells
  simp only [Nat.zero_add] at c1 c2
  have h := Lib.run_clear_slice (P := Yba.prog) W 28 21 0 (.int .i32 0) Yba.underlying28 (fun w => Yba.zeroValue21 w) rfl rfl g o (n - o) c (by omega) (fun j hj => by rw [c1 (o + j) (by omega)]; rfl) (fun j hj => c2 (o + j) (by omega))
  obtain ⟨h1, h2⟩ := clear_row g m n (n - o) o W G (by omega) hR
  refine ⟨_, h, h1.congr fun t ht => ?_, h2⟩
  by_cases e : o ≤ t
  · rw [if_pos (by omega), if_pos e]
  · rw [if_neg (by omega), if_neg e]
theorem RowG.less {W : World} {blk off m n n' : Nat} {G : Nat → Int} (h : RowG W blk off m n G) (hn : n' ≤ n) : RowG W blk off m n' G := by
  obtain ⟨C, h1, h2, h3, h4⟩ := h
  exact ⟨C, h1, h2, by omega, fun j hj => h4 j (by omega)⟩

/-- What Compact hands back. -/
def CompOut (W : World) (g m n c : Nat) (G : Nat → Int) (e : Ending) (W' : World) : Prop := ∃ (n' : Nat) (H : Nat → Int), e = .returned (sl g 0 n' c) ∧ 1 ≤ n' ∧ n' ≤ n ∧ SameUp n' n H G ∧ RowG W' g 0 m n' H ∧ Fr W W' g

set_option maxHeartbeats 4000000 in
set_option maxRecDepth 100000 in
theorem compact_any (W : World) (g m n c : Nat) (G : Nat → Int) (hR : RowG W g 0 m n G) (hn : 1 ≤ n) (hsz : (n : Int) < 1000000) (hc : n ≤ c) (hc2 : (c : Int) ≤ 9223372036854775807) :
    Calls Yba.prog 19 #[sl g 0 n c] W fun e W' => CompOut W g m n c G e W' := by
  have HR : Hid (RowG W g 0 m n G) := hR
  clear hR
  by_cases h2 : (n : Int) < 2
  · go_enter Yba.func19, Yba.ntmps19
    go_wp2
    go_ret
    exact (show CompOut W g m n c G _ _ from ⟨n, G, rfl, hn, Nat.le_refl _, ⟨fun _ => Iff.rfl, rfl⟩, HR.out, Fr.refl _ _⟩)
  · go_enter Yba.func19, Yba.ntmps19
    go_wp2
    go_loopg [3] n (fun gh v wx => ∃ k : Nat, gh + k = n + 1 ∧ 1 ≤ k ∧ v = .int .i64 (k : Int) ∧ Hid (RowG wx g 0 m n G ∧ Fr W wx g))
    case atStart => exact ⟨1, by omega, Nat.le_refl _, rfl, HR.out, Fr.refl _ _⟩
    case round =>
      obtain ⟨k, hg, hk1, rfl, H0⟩ := hrel
      by_cases hk : (k : Int) < (n : Int)
      · obtain ⟨c1, c2⟩ := H0.out.1.cells
        simp only [Nat.zero_add] at c1 c2
        have a1 := c1 k (by omega)
        have a2 := c1 (k - 1) (by omega)
        clear c1 c2
        go_wp2
        go_quiet (fail)
        obtain ⟨o, ho⟩ : ∃ o, (G k == G (k - 1)) = o := ⟨_, rfl⟩
        have HO : Hid ((G k == G (k - 1)) = o) := ho
        rw [ho]
        clear ho
        cases o
        · go_wp2
          go_roundg (n + 1 - (k + 1))
          case measure => omega
          case rel => exact ⟨k + 1, by omega, by omega, by go_num, H0.out.1.drewN nq, H0.out.2.drewN nq⟩
        · have HC0 : Hid (CI n k k 1 G G) := CI.start n k G hk1 (by omega) (by have := HO.out; rw [beq_iff_eq] at this; exact this)
          clear a1 a2
          go_wp2
          go_loopg [3, 5] (n - k) (fun gh v3 v5 wx => ∃ (k' k2 : Nat) (H : Nat → Int), v3 = .int .i64 (k' : Int) ∧ v5 = .int .i64 (k2 : Int) ∧ gh + k2 = n - k + 1 ∧ 1 ≤ k2 ∧ Hid (CI n k k' k2 G H ∧ RowG wx g 0 m n H ∧ Fr W wx g))
          case atStart => exact ⟨k, 1, G, rfl, rfl, by omega, Nat.le_refl _, HC0.out, H0.out.1.drewN nq, H0.out.2.drewN nq⟩
          case round =>
            clear HC0 H0
            obtain ⟨k', k2, H, rfl, rfl, hg2, hk2, HI⟩ := hrel
            have q1 := HI.out.1.h2
            have q2 := HI.out.1.h3
            have q3 := HI.out.1.h4
            by_cases hlt : (k2 : Int) < ((n - k : Nat) : Int)
            · obtain ⟨c1, c2⟩ := HI.out.2.1.cells
              simp only [Nat.zero_add] at c1 c2
              have a1 := c1 (k + k2) (by omega)
              have a2 := c1 (k + (k2 - 1)) (by omega)
              have a3 := c1 k' (by omega)
              have a4 := c2 k' (by omega)
              rw [HI.out.1.tail (k + k2) (by omega) (by omega)] at a1
              rw [HI.out.1.tail (k + (k2 - 1)) (by omega) (by omega)] at a2
              clear c1 c2
              go_wp2
              go_quiet (fail)
              obtain ⟨o, ho⟩ : ∃ o, (G (k + k2) != G (k + (k2 - 1))) = o := ⟨_, rfl⟩
              have HO2 : Hid ((G (k + k2) != G (k + (k2 - 1))) = o) := ho
              rw [ho]
              clear ho
              cases o
              · have hsk : Hid (CI n k k' (k2 + 1) G H) := HI.out.1.skip (by omega) (by
                  have := HO2.out
                  rw [bne_eq_false_iff_eq] at this
                  rw [show k + k2 - 1 = k + (k2 - 1) by omega]; exact this)
                go_wp2
                go_roundg (n - k + 1 - (k2 + 1))
                case measure => omega
                case rel => exact ⟨k', k2 + 1, H, rfl, by go_num, by omega, by omega, hsk.out, HI.out.2.1.drewN nq, HI.out.2.2.drewN nq⟩
              · have hpt : Hid (CI n k (k' + 1) (k2 + 1) G (fun t => if t = k' then G (k + k2) else H t)) := HI.out.1.put (by omega)
                go_wp2
                go_roundg (n - k + 1 - (k2 + 1))
                case measure => omega
                case rel =>
                  have r := (HI.out.2.1.drewN nq).set k' (by omega) (G (k + k2))
                  rw [Nat.zero_add] at r
                  exact ⟨k' + 1, k2 + 1, _, by go_num, by go_num, by omega, by omega, hpt.out, r, (HI.out.2.2.drewN nq).set _ _ _ (.inl rfl)⟩
            · obtain ⟨W2, hcl, hR2, hfr⟩ := clear_tail wr g m n k' (c - k') H (by omega) HI.out.2.1
              have hend : k + k2 = n := by omega
              have HE : Hid (SameUp k' n H G) := by have := HI.out.1.same; rw [hend] at this; exact this
              have HW : Hid (RowG W2 g 0 m k' H ∧ Fr W W2 g) := ⟨(hR2.less (by omega)).congr fun t ht => by rw [if_neg (by omega)], hfr W HI.out.2.2⟩
              have hk'0 : 1 ≤ k' := by omega
              have hk'n : k' ≤ n := by omega
              clear hR2 hfr hend
              go_wp2
              go_ret
              exact (show CompOut W g m n c G _ _ from ⟨k', H, rfl, hk'0, hk'n, HE.out, HW.out⟩)
      · go_wp2
        go_ret
        exact (show CompOut W g m n c G _ _ from ⟨n, G, rfl, hn, Nat.le_refl _, ⟨fun _ => Iff.rfl, rfl⟩, H0.out.1, H0.out.2⟩)
end Go.Proofs.Ybulkbxvu
