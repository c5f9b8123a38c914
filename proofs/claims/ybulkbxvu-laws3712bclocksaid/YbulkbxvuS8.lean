/-
  slices.Sort at []int32: pdqsort's invariant, with no Go in sight.
-/
import Derived.Test.YbulkbxvuS5
import Derived.Test.YbulkbxvuS6
import Derived.Test.YbulkbxvuS7
import Derived.Test.YbulkbxvuS1
namespace Go.Proofs.Ybulkbxvu
open Go.RowKit
open Go.Sort
set_option linter.unusedVariables false

/-- Ascending. -/
def Srt (lo hi : Nat) (d : Array Int) : Prop := ∀ i j, lo ≤ i → i ≤ j → j < hi → d[i]! ≤ d[j]!
theorem Srt.of {lo hi : Nat} {d : Array Int} (h : SortedIn ltInt lo hi d) : Srt lo hi d := by
  intro i j h1 h2 h3
  rcases Nat.lt_or_eq_of_le h2 with h4 | rfl
  · have := h i j h1 h4 h3
    simp [ltInt] at this; exact this
  · exact Int.le_refl _
theorem swoI : SWO ltInt := ⟨fun x => by simp [ltInt], fun x y z => by simp only [ltInt, decide_eq_true_eq]; omega, fun x y z => by simp only [ltInt, decide_eq_false_iff_not]; omega⟩
/-- What lies left is no greater. -/
def Bel (a b : Nat) (d : Array Int) : Prop := a = 0 ∨ ∀ j, a ≤ j → j < b → d[a - 1]! ≤ d[j]!
theorem Bel.below {a b : Nat} {d : Array Int} (h : Bel a b d) : Sort.Below ltInt a b d := by
  rcases h with h | h
  · exact .inl h
  · exact .inr fun i h1 h2 => by have := h i h1 h2; simp [ltInt]; exact this

theorem pout {a b : Nat} {d d' : Array Int} (h : PermIn a b d d') {k : Nat} (hk : k < a ∨ b ≤ k) : d'[k]! = d[k]! := h.2.1 k hk
theorem pall {a b : Nat} {d d' : Array Int} (h : PermIn a b d d') (hb : b ≤ d.size) (p : Int → Prop) (hp : ∀ i, a ≤ i → i < b → p d[i]!) {k : Nat} (h1 : a ≤ k) (h2 : k < b) : p d'[k]! :=
  permIn_all d d' a b p hb h hp k h1 h2

/-- pdqsort's loop. -/
structure QI (d0 : Array Int) (a0 b0 a b : Nat) (dk : Array Int) : Prop where
  perm : PermIn a0 b0 d0 dk
  ha : a0 ≤ a
  hab : a ≤ b
  hb : b ≤ b0
  hs : b0 ≤ d0.size
  left : Srt a0 a dk
  right : Srt b b0 dk
  ca : ∀ i j, a0 ≤ i → i < a → a ≤ j → j < b0 → dk[i]! ≤ dk[j]!
  cb : ∀ i j, a0 ≤ i → i < b → b ≤ j → j < b0 → dk[i]! ≤ dk[j]!
  bel : Bel a b dk

section
variable {d0 : Array Int} {a0 b0 a b : Nat} {dk : Array Int}
theorem QI.size (h : QI d0 a0 b0 a b dk) : dk.size = d0.size := h.perm.1
theorem QI.start (h : Bel a0 b0 d0) (hab : a0 ≤ b0) (hs : b0 ≤ d0.size) : QI d0 a0 b0 a0 b0 d0 :=
  ⟨permIn_refl _ _ _, Nat.le_refl _, hab, Nat.le_refl _, hs, fun i j _ _ _ => by omega, fun i j _ _ _ => by omega, fun i j _ _ _ _ => by omega, fun i j _ _ _ _ => by omega, h⟩
theorem QI.go (h : QI d0 a0 b0 a b dk) {d' : Array Int} (hp : PermIn a b dk d') : QI d0 a0 b0 a b d' := by
  have hs : b ≤ dk.size := by have := h.size; have := h.hb; have := h.hs; omega
  have ha := h.ha
  have hb := h.hb
  refine ⟨permIn_trans _ _ _ _ _ h.perm (permIn_mono _ _ a b a0 b0 ha hb (by have := h.size; have := h.hs; omega) hp), h.ha, h.hab, h.hb, h.hs, ?_, ?_, ?_, ?_, ?_⟩
  · intro i j h1 h2 h3
    rw [pout hp (.inl (by omega)), pout hp (.inl (by omega))]
    exact h.left i j h1 h2 h3
  · intro i j h1 h2 h3
    rw [pout hp (.inr (by omega)), pout hp (.inr (by omega))]
    exact h.right i j h1 h2 h3
  · intro i j h1 h2 h3 h4
    rw [pout hp (k := i) (.inl (by omega))]
    by_cases h5 : j < b
    · exact pall hp hs (fun x => dk[i]! ≤ x) (fun t t1 t2 => h.ca i t h1 h2 t1 (by omega)) h3 h5
    · rw [pout hp (.inr (by omega))]; exact h.ca i j h1 h2 h3 h4
  · intro i j h1 h2 h3 h4
    rw [pout hp (k := j) (.inr (by omega))]
    by_cases h5 : i < a
    · rw [pout hp (.inl (by omega))]; exact h.cb i j h1 h2 h3 h4
    · exact pall hp hs (fun x => x ≤ dk[j]!) (fun t t1 t2 => h.cb t j (by omega) t2 h3 h4) (by omega) h2
  · rcases h.bel with h1 | h1
    · exact .inl h1
    · by_cases h0 : a = 0
      · exact .inl h0
      · refine .inr fun j j1 j2 => ?_
        rw [pout hp (k := a - 1) (.inl (by omega))]
        exact pall hp hs (fun x => dk[a - 1]! ≤ x) h1 j1 j2
/-- The end. -/
theorem QI.fin (h : QI d0 a0 b0 a b dk) (hs : Srt a b dk) : PermIn a0 b0 d0 dk ∧ Srt a0 b0 dk := by
  refine ⟨h.perm, fun i j h1 h2 h3 => ?_⟩
  by_cases i1 : i < a
  · by_cases j1 : j < a
    · exact h.left i j h1 h2 j1
    · exact h.ca i j h1 i1 (by omega) h3
  · by_cases i2 : i < b
    · by_cases j2 : j < b
      · exact hs i j (by omega) h2 j2
      · exact h.cb i j h1 i2 (by omega) h3
    · exact h.right i j (by omega) h2 h3
/-- Many equals. -/
theorem QI.eq (h : QI d0 a0 b0 a b dk) {p mid : Nat} {d' : Array Int} (he : EqPost dk a b p mid d') (ha0 : 0 < a) (hp1 : a ≤ p) (hp2 : p < b) (hle : dk[p]! ≤ dk[a - 1]!) : QI d0 a0 b0 mid b d' := by
  obtain ⟨e1, e2, e3, e4, e5, e6⟩ := he
  have h' := h.go e3
  have hv : ∀ x, a ≤ x → x < mid → d'[x]! = d'[a]! := by
    intro x x1 x2
    have l1 := e4 x x1 x2
    have l2 : d'[a - 1]! ≤ d'[x]! := by
      rcases h'.bel with b1 | b1
      · omega
      · exact b1 x x1 (by omega)
    have l3 : d'[a - 1]! = dk[a - 1]! := pout e3 (.inl (by omega))
    omega
  have ha := h.ha
  have hb := h.hb
  have hge : ∀ j, mid ≤ j → j < b0 → d'[a]! ≤ d'[j]! := by
    intro j j1 j2
    by_cases j3 : j < b
    · have := e5 j j1 j3; omega
    · exact h'.cb a j ha (by omega) (by omega) j2
  refine ⟨h'.perm, by omega, by omega, hb, h.hs, ?_, h'.right, ?_, h'.cb, .inr ?_⟩
  · intro i j i1 i2 i3
    by_cases c1 : i < a
    · by_cases c2 : j < a
      · exact h'.left i j i1 i2 c2
      · exact h'.ca i j i1 c1 (by omega) (by omega)
    · rw [hv i (by omega) (by omega), hv j (by omega) i3]; exact Int.le_refl _
  · intro i j i1 i2 j1 j2
    by_cases c1 : i < a
    · exact h'.ca i j i1 c1 (by omega) j2
    · rw [hv i (by omega) i2]; exact hge j j1 j2
  · intro j j1 j2
    rw [hv (mid - 1) (by omega) (by omega)]
    exact hge j j1 (by omega)
/-- The left part sorted: on with the right. -/
theorem QI.goRight (h : QI d0 a0 b0 a b dk) {mid : Nat} {d1 d' : Array Int} (he : PtPost dk a b mid d1) (hp : PermIn a mid d1 d') (hs : Srt a mid d') : QI d0 a0 b0 (mid + 1) b d' := by
  obtain ⟨e1, e2, e3, e4, e5⟩ := he
  have h1 := h.go e3
  have ha := h.ha
  have hb := h.hb
  have hs1 : mid ≤ d1.size := by have := h1.size; have := h1.hs; omega
  have h' := h1.go (permIn_mono _ _ a mid a b (Nat.le_refl _) (by omega) (by have := h1.size; have := h1.hs; omega) hp)
  have hm : d'[mid]! = d1[mid]! := pout hp (.inr (Nat.le_refl _))
  have f4 : ∀ x, a ≤ x → x ≤ mid → d'[x]! ≤ d'[mid]! := by
    intro x x1 x2
    rcases Nat.lt_or_eq_of_le x2 with x3 | rfl
    · rw [hm]; exact pall hp hs1 (fun y => y ≤ d1[mid]!) (fun t t1 t2 => e4 t t1 t2) x1 x3
    · exact Int.le_refl _
  have f5 : ∀ j, mid < j → j < b0 → d'[mid]! ≤ d'[j]! := by
    intro j j1 j2
    by_cases j3 : j < b
    · rw [hm, pout hp (k := j) (.inr (by omega))]; exact e5 j j1 j3
    · exact h'.cb mid j (by omega) e2 (by omega) j2
  have low : ∀ i, a0 ≤ i → i < mid + 1 → d'[i]! ≤ d'[mid]! := by
    intro i i1 i2
    by_cases c1 : i < a
    · exact h'.ca i mid i1 c1 e1 (by omega)
    · exact f4 i (by omega) (by omega)
  refine ⟨h'.perm, by omega, by omega, hb, h.hs, ?_, h'.right, ?_, h'.cb, .inr ?_⟩
  · intro i j i1 i2 i3
    by_cases c1 : i < a
    · by_cases c2 : j < a
      · exact h'.left i j i1 i2 c2
      · exact h'.ca i j i1 c1 (by omega) (by omega)
    · by_cases c3 : j < mid
      · exact hs i j (by omega) i2 c3
      · obtain rfl : j = mid := by omega
        exact low i i1 (by omega)
  · intro i j i1 i2 j1 j2
    exact Int.le_trans (low i i1 i2) (f5 j (by omega) j2)
  · intro j j1 j2
    exact f5 j (by omega) (by omega)
/-- The right part sorted: on with the left. -/
theorem QI.goLeft (h : QI d0 a0 b0 a b dk) {mid : Nat} {d1 d' : Array Int} (he : PtPost dk a b mid d1) (hp : PermIn (mid + 1) b d1 d') (hs : Srt (mid + 1) b d') : QI d0 a0 b0 a mid d' := by
  obtain ⟨e1, e2, e3, e4, e5⟩ := he
  have h1 := h.go e3
  have ha := h.ha
  have hb := h.hb
  have hs1 : b ≤ d1.size := by have := h1.size; have := h1.hs; omega
  have h' := h1.go (permIn_mono _ _ (mid + 1) b a b (by omega) (Nat.le_refl _) hs1 hp)
  have hm : d'[mid]! = d1[mid]! := pout hp (.inl (by omega))
  have f5 : ∀ j, mid ≤ j → j < b0 → d'[mid]! ≤ d'[j]! := by
    intro j j1 j2
    rcases Nat.lt_or_eq_of_le j1 with j3 | rfl
    · by_cases j4 : j < b
      · rw [hm]; exact pall hp hs1 (fun y => d1[mid]! ≤ y) (fun t t1 t2 => e5 t (by omega) t2) (by omega) j4
      · exact h'.cb mid j (by omega) e2 (by omega) j2
    · exact Int.le_refl _
  have f4 : ∀ x, a0 ≤ x → x < mid → d'[x]! ≤ d'[mid]! := by
    intro x x1 x2
    by_cases c1 : x < a
    · exact h'.ca x mid x1 c1 e1 (by omega)
    · rw [hm, pout hp (k := x) (.inl (by omega))]; exact e4 x (by omega) x2
  refine ⟨h'.perm, ha, e1, by omega, h.hs, h'.left, ?_, h'.ca, ?_, ?_⟩
  · intro i j i1 i2 i3
    rcases Nat.lt_or_eq_of_le i1 with i4 | rfl
    · by_cases j4 : j < b
      · exact hs i j (by omega) i2 j4
      · by_cases i5 : i < b
        · exact h'.cb i j (by omega) i5 (by omega) i3
        · exact h'.right i j (by omega) i2 i3
    · exact f5 j i2 i3
  · intro i j i1 i2 j1 j2
    exact Int.le_trans (f4 i i1 i2) (f5 j j1 j2)
  · rcases h'.bel with b1 | b1
    · exact .inl b1
    · exact .inr fun j j1 j2 => b1 j j1 (by omega)
end
/-- The contract's end. -/
def Sorted (w W : World) (blk off m a b : Nat) (d : Array Int) : Prop := ∃ d', PermIn a b d d' ∧ Srt a b d' ∧ SA w W blk off m d'
end Go.Proofs.Ybulkbxvu
