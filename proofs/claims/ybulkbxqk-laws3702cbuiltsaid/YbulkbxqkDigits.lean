/-
  Plain: the digits of base 128, the greatest first, as ParseObjectID reads them.
-/
import Derived.Test.YbulkbxqkB128
namespace Go.Proofs.Ybulkbxqk

/-- The last j bytes of v's digits. -/
def td (v : Nat) : Nat → List Int
  | 0 => []
  | j + 1 => ((v / 128 ^ j % 128 + (if j = 0 then 0 else 128) : Nat) : Int) :: td v j
/-- The same with the top bit on every byte. -/
def tt (v : Nat) : Nat → List Int
  | 0 => []
  | j + 1 => ((v / 128 ^ j % 128 + 128 : Nat) : Int) :: tt v j
theorem td_length (v j : Nat) : (td v j).length = j := by induction j with
  | zero => rfl
  | succ j ih => simp [td, ih]
theorem div_pow_succ (x j : Nat) : x / 128 ^ (j + 1) = x / 128 / 128 ^ j := by rw [Nat.pow_succ, Nat.mul_comm, Nat.div_div_eq_div_mul]
theorem tt_snoc (x L : Nat) : tt x (L + 1) = tt (x / 128) L ++ [((x % 128 + 128 : Nat) : Int)] := by
  induction L with
  | zero => simp [tt]
  | succ L ih => rw [tt, ih, tt, div_pow_succ]; rfl
theorem td_snoc (v L : Nat) : td v (L + 1) = tt (v / 128) L ++ [((v % 128 : Nat) : Int)] := by
  induction L with
  | zero => simp [td, tt]
  | succ L ih => rw [td, ih, tt, div_pow_succ, if_neg (by omega)]; rfl
theorem le_tt : ∀ n x, x < n → ∃ L, (le x).reverse = tt x L ∧ x < 128 ^ L ∧ (L = 0 ∨ 128 ^ (L - 1) ≤ x) := by
  intro n
  induction n with
  | zero => intro x h; omega
  | succ n ih =>
    intro x h
    by_cases hx : x = 0
    · subst hx; exact ⟨0, by rw [le_zero]; rfl, by decide, .inl rfl⟩
    · obtain ⟨L, h1, h2, h3⟩ := ih (x / 128) (by omega)
      refine ⟨L + 1, ?_, ?_, .inr ?_⟩
      · rw [le_pos x hx, List.reverse_cons, h1, tt_snoc]
      · rw [Nat.pow_succ]; omega
      · rcases h3 with rfl | h3
        · simp; omega
        · match L, h3 with
          | 0, h3 => simp; omega
          | L + 1, h3 => simp at h3 ⊢; rw [Nat.pow_succ]; omega
theorem b128_td (v : Nat) : ∃ L, b128 v = td v (L + 1) ∧ v < 128 ^ (L + 1) ∧ (L = 0 ∨ 128 ^ L ≤ v) := by
  obtain ⟨L, h1, h2, h3⟩ := le_tt (v / 128 + 1) (v / 128) (by omega)
  refine ⟨L, ?_, ?_, ?_⟩
  · rw [b128, lo128, List.reverse_cons, h1, td_snoc]
  · rw [Nat.pow_succ]; omega
  · rcases h3 with rfl | h3
    · exact .inl rfl
    · match L, h3 with
      | 0, _ => exact .inl rfl
      | L + 1, h3 => right; simp at h3; rw [Nat.pow_succ]; omega
/-- The first byte is no bare top bit. -/
theorem td_head (v L : Nat) (h : v < 128 ^ (L + 1)) (h' : L = 0 ∨ 128 ^ L ≤ v) : v / 128 ^ L % 128 + (if L = 0 then 0 else 128) ≠ 128 := by
  have hp : 0 < 128 ^ L := Nat.pow_pos (by decide)
  have hlt : v / 128 ^ L < 128 := by rw [Nat.div_lt_iff_lt_mul hp, Nat.mul_comm, ← Nat.pow_succ]; exact h
  rw [Nat.mod_eq_of_lt hlt]
  rcases h' with rfl | h'
  · simp at hlt ⊢; omega
  · have h1 : 1 ≤ v / 128 ^ L := (Nat.le_div_iff_mul_le hp).2 (by omega)
    split <;> omega
theorem div_step (v j : Nat) : v / 128 ^ (j + 1) * 128 + v / 128 ^ j % 128 = v / 128 ^ j := by
  rw [Nat.pow_succ, ← Nat.div_div_eq_div_mul]; omega
theorem td_byte (v j : Nat) : v / 128 ^ j % 128 + (if j = 0 then 0 else 128) < 256 := by split <;> omega

/-- The arcs' bytes, one behind the other. -/
def flat (vs : List Nat) : List Int := (vs.map b128).flatten
theorem flat_cons (v : Nat) (vs : List Nat) : flat (v :: vs) = b128 v ++ flat vs := by simp [flat]
theorem flat_snoc (vs : List Nat) (v : Nat) : flat (vs ++ [v]) = flat vs ++ b128 v := by simp [flat]
theorem flat_le (vs : List Nat) (h : ∀ v ∈ vs, v < 4294967296) : (flat vs).length ≤ 5 * vs.length := by
  induction vs with
  | nil => simp [flat]
  | cons v vs ih =>
    rw [flat_cons, List.length_append]
    have := b128_length v (h v (by simp))
    have := ih (fun u hu => h u (by simp [hu]))
    simp; omega
theorem flat_ge (vs : List Nat) : vs.length ≤ (flat vs).length := by
  induction vs with
  | nil => simp [flat]
  | cons v vs ih =>
    rw [flat_cons, List.length_append]
    have := b128_pos v
    simp; omega
end Go.Proofs.Ybulkbxqk
