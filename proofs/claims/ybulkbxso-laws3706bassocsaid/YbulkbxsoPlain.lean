/-
  The plain law of Canonical: the six associates of a + bω.
-/
import Derived.Test.YbulkbxsoEis2
namespace Go.Proofs.Ybulkbxso
set_option linter.unusedVariables false

/-- The way that Canonical takes, as the number of the unit. -/
def kP (a b : Int) : Nat :=
  if (a = 0 ∧ b = 0) ∨ (0 ≤ b ∧ b < a) then 0
  else if 0 < a ∧ a ≤ b then 3
  else if a ≤ 0 ∧ 0 < b then 4
  else if a < 0 ∧ b ≤ a then 2
  else if a < 0 then 1 else 5

theorem kP_lt (a b : Int) : kP a b < 6 := by unfold kP; repeat' split <;> try omega

/-- 0 ≤ q < p. -/
def Good (k : Nat) (a b : Int) : Prop := 0 ≤ (mulP k a b).2 ∧ (mulP k a b).2 < (mulP k a b).1

theorem kP_way (a b : Int) : (kP a b = 0 ∧ ((a = 0 ∧ b = 0) ∨ (0 ≤ b ∧ b < a))) ∨ (kP a b = 3 ∧ 0 < a ∧ a ≤ b) ∨ (kP a b = 4 ∧ a ≤ 0 ∧ 0 < b) ∨ (kP a b = 2 ∧ a < 0 ∧ b ≤ a) ∨ (kP a b = 1 ∧ a < b ∧ b ≤ 0) ∨ (kP a b = 5 ∧ b < 0 ∧ 0 ≤ a) := by
  unfold kP
  split
  · exact .inl ⟨rfl, by assumption⟩
  · split
    · exact .inr (.inl ⟨rfl, by assumption⟩)
    · split
      · exact .inr (.inr (.inl ⟨rfl, by assumption⟩))
      · split
        · exact .inr (.inr (.inr (.inl ⟨rfl, by assumption⟩)))
        · split
          · exact .inr (.inr (.inr (.inr (.inl ⟨rfl, by omega, by omega⟩))))
          · exact .inr (.inr (.inr (.inr (.inr ⟨rfl, by omega, by omega⟩))))

theorem good_kP (a b : Int) (h : ¬ (a = 0 ∧ b = 0)) : Good (kP a b) a b := by
  rcases kP_way a b with ⟨e, h'⟩ | ⟨e, h'⟩ | ⟨e, h'⟩ | ⟨e, h'⟩ | ⟨e, h'⟩ | ⟨e, h'⟩ <;> rw [e] <;> simp only [Good, mulP] <;> omega

theorem good_only (a b : Int) (k : Nat) (hk : k < 6) (h : Good k a b) : k = kP a b := by
  rcases kP_way a b with ⟨e, h'⟩ | ⟨e, h'⟩ | ⟨e, h'⟩ | ⟨e, h'⟩ | ⟨e, h'⟩ | ⟨e, h'⟩ <;> rw [e] <;>
    (match k, hk with
     | 0, _ => simp only [Good, mulP] at h; omega
     | 1, _ => simp only [Good, mulP] at h; omega
     | 2, _ => simp only [Good, mulP] at h; omega
     | 3, _ => simp only [Good, mulP] at h; omega
     | 4, _ => simp only [Good, mulP] at h; omega
     | 5, _ => simp only [Good, mulP] at h; omega)

theorem kP_zero : kP 0 0 = 0 := rfl

/-- Twice a unit times x is a unit times x. -/
theorem mul_mul (a b : Int) (j k : Nat) (hj : j < 6) (hk : k < 6) : ∃ i, i < 6 ∧ ∀ a b : Int, mulP j (mulP k a b).1 (mulP k a b).2 = mulP i a b := by
  have ej : j = 0 ∨ j = 1 ∨ j = 2 ∨ j = 3 ∨ j = 4 ∨ j = 5 := by omega
  have ek : k = 0 ∨ k = 1 ∨ k = 2 ∨ k = 3 ∨ k = 4 ∨ k = 5 := by omega
  rcases ej with rfl | rfl | rfl | rfl | rfl | rfl <;> rcases ek with rfl | rfl | rfl | rfl | rfl | rfl <;>
    first
    | (refine ⟨0, by decide, ?_⟩; intro a b; simp only [mulP]; first | done | rfl | (rw [Prod.mk.injEq]; constructor <;> omega))
    | (refine ⟨1, by decide, ?_⟩; intro a b; simp only [mulP]; first | done | rfl | (rw [Prod.mk.injEq]; constructor <;> omega))
    | (refine ⟨2, by decide, ?_⟩; intro a b; simp only [mulP]; first | done | rfl | (rw [Prod.mk.injEq]; constructor <;> omega))
    | (refine ⟨3, by decide, ?_⟩; intro a b; simp only [mulP]; first | done | rfl | (rw [Prod.mk.injEq]; constructor <;> omega))
    | (refine ⟨4, by decide, ?_⟩; intro a b; simp only [mulP]; first | done | rfl | (rw [Prod.mk.injEq]; constructor <;> omega))
    | (refine ⟨5, by decide, ?_⟩; intro a b; simp only [mulP]; first | done | rfl | (rw [Prod.mk.injEq]; constructor <;> omega))

theorem mulP_zero (k : Nat) (hk : k < 6) : mulP k 0 0 = (0, 0) := by
  match k, hk with
  | 0, _ | 1, _ | 2, _ | 3, _ | 4, _ | 5, _ => rfl

/-- Only zero goes to zero. -/
theorem mulP_nz (k : Nat) (hk : k < 6) (a b : Int) (h : ¬ (a = 0 ∧ b = 0)) : ¬ ((mulP k a b).1 = 0 ∧ (mulP k a b).2 = 0) := by
  match k, hk with
  | 0, _ | 1, _ | 2, _ | 3, _ | 4, _ | 5, _ => simp only [mulP]; omega

/-- All six associates have one canonical associate. -/
theorem canon_assoc (k : Nat) (hk : k < 6) (a b : Int) : mulP (kP (mulP k a b).1 (mulP k a b).2) (mulP k a b).1 (mulP k a b).2 = mulP (kP a b) a b := by
  by_cases h : a = 0 ∧ b = 0
  · obtain ⟨rfl, rfl⟩ := h
    rw [mulP_zero k hk, kP_zero]
  · obtain ⟨i, hi, e⟩ := mul_mul a b (kP (mulP k a b).1 (mulP k a b).2) k (kP_lt _ _) hk
    have e := e a b
    have g := good_kP _ _ (mulP_nz k hk a b h)
    rw [e]
    rw [Good, e] at g
    rw [good_only a b i hi g]

/-- The units differ. -/
theorem unitP_inj (i j : Nat) (hi : i < 6) (hj : j < 6) (h1 : (unitP i).1 = (unitP j).1) (h2 : (unitP i).2 = (unitP j).2) : i = j := by
  have : ∀ i : Fin 6, ∀ j : Fin 6, (unitP i.1).1 = (unitP j.1).1 → (unitP i.1).2 = (unitP j.1).2 → i = j := by decide
  exact congrArg Fin.val (this ⟨i, hi⟩ ⟨j, hj⟩ h1 h2)

/-- How great. -/
theorem mulP_bound (k : Nat) (hk : k < 6) (a b M : Int) (h1 : -M ≤ a) (h2 : a ≤ M) (h3 : -M ≤ b) (h4 : b ≤ M) : -(2 * M) ≤ (mulP k a b).1 ∧ (mulP k a b).1 ≤ 2 * M ∧ -(2 * M) ≤ (mulP k a b).2 ∧ (mulP k a b).2 ≤ 2 * M := by
  match k, hk with
  | 0, _ | 1, _ | 2, _ | 3, _ | 4, _ | 5, _ => simp only [mulP]; omega
end Go.Proofs.Ybulkbxso
