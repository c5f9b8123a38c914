/-
  races: the list of one object, read from its end.
-/
import Derived.Test.YbulkbxvuP2
namespace Go.Proofs.Ybulkbxvu
open Go.RowKit
set_option linter.unusedVariables false

def L4P (E : EvD) (ne : Nat) (Pj : Nat → Prop) (o : Nat) (wv : Bool) (q : Nat) (x : Nat) : Prop := Pj x ∨ ((∃ jj, q ≤ jj ∧ (obL E o ne)[jj]? = some x) ∧ HitO (fun k => E.ce o k % 3) ne wv x)
def L4N (E : EvD) (ne o q : Nat) : Prop := ∀ jj x : Nat, q ≤ jj → (obL E o ne)[jj]? = some x → E.ce o x % 3 ≠ 2
section
variable {E : EvD} {ne o q k : Nat} {Pj : Nat → Prop} {wv : Bool}
theorem L4N.later (hN : L4N E ne o (q + 1)) (hk : (obL E o ne)[q]? = some k) : ∀ k', k < k' → k' < ne → E.ce o k' % 3 ≠ 2 := fun k' h1 h2 h3 => by
  obtain ⟨jj, h4, h5⟩ := obL_later hk h2 (by omega) h1
  exact hN jj k' (by omega) h5 h3
theorem L4P.skip (hk : (obL E o ne)[q]? = some k) (hm : E.ce o k % 3 ≠ 2) (x : Nat) : L4P E ne Pj o false q x ↔ L4P E ne Pj o false (q + 1) x := by
  constructor
  · rintro (h | ⟨⟨jj, h1, h2⟩, h3⟩)
    · exact .inl h
    · by_cases e : jj = q
      · subst e
        rw [hk] at h2
        injection h2 with h2
        subst h2
        rcases h3.2.2 with h | h
        · exact absurd h hm
        · cases h
      · exact .inr ⟨⟨jj, by omega, h2⟩, h3⟩
  · rintro (h | ⟨⟨jj, h1, h2⟩, h3⟩)
    · exact .inl h
    · exact .inr ⟨⟨jj, by omega, h2⟩, h3⟩
theorem L4P.push (hk : (obL E o ne)[q]? = some k) (hN : L4N E ne o (q + 1)) (hm : E.ce o k % 3 = 2 ∨ wv = true) (x : Nat) : L4P E ne Pj o wv q x ↔ (x = k ∨ L4P E ne Pj o wv (q + 1) x) := by
  constructor
  · rintro (h | ⟨⟨jj, h1, h2⟩, h3⟩)
    · exact .inr (.inl h)
    · by_cases e : jj = q
      · subst e
        rw [hk] at h2
        injection h2 with h2
        exact .inl h2.symm
      · exact .inr (.inr ⟨⟨jj, by omega, h2⟩, h3⟩)
  · rintro (h | h | ⟨⟨jj, h1, h2⟩, h3⟩)
    · subst h
      exact .inr ⟨⟨q, by omega, hk⟩, (obL_at hk).2, hN.later hk, hm⟩
    · exact .inl h
    · exact .inr ⟨⟨jj, by omega, h2⟩, h3⟩
theorem L4N.nxt (hN : L4N E ne o (q + 1)) (hk : (obL E o ne)[q]? = some k) (hm : E.ce o k % 3 ≠ 2) : L4N E ne o q := by
  intro jj x h1 h2
  by_cases e : jj = q
  · subst e
    rw [hk] at h2
    injection h2 with h2
    rw [← h2]; exact hm
  · exact hN jj x (by omega) h2
theorem L4P.zero (x : Nat) (hx : x < ne) : (Pj x ∨ HitO (fun k => E.ce o k % 3) ne wv x) ↔ L4P E ne Pj o wv 0 x := by
  constructor
  · rintro (h | h)
    · exact .inl h
    · obtain ⟨j, hj⟩ := List.mem_iff_getElem?.mp ((mem_obL E o ne x).mpr ⟨hx, h.1⟩)
      exact .inr ⟨⟨j, Nat.zero_le _, hj⟩, h⟩
  · rintro (h | ⟨_, h⟩)
    · exact .inl h
    · exact .inr h
theorem L4P.brk (hk : (obL E o ne)[q]? = some k) (hN : L4N E ne o (q + 1)) (hm : E.ce o k % 3 = 2) (x : Nat) (hx : x < ne) : (Pj x ∨ HitO (fun k => E.ce o k % 3) ne wv x) ↔ (x = k ∨ L4P E ne Pj o wv (q + 1) x) := by
  constructor
  · rintro (h | h)
    · exact .inr (.inl h)
    · obtain ⟨j, hj⟩ := List.mem_iff_getElem?.mp ((mem_obL E o ne x).mpr ⟨hx, h.1⟩)
      rcases Nat.lt_trichotomy j q with h1 | h1 | h1
      · exact absurd hm (h.2.1 k (obL_lt hj hk h1) (obL_at hk).1)
      · subst h1
        rw [hk] at hj
        injection hj with hj
        exact .inl hj.symm
      · exact .inr (.inr ⟨⟨j, h1, hj⟩, h⟩)
  · rintro (h | h | ⟨_, h⟩)
    · subst h
      exact .inr ⟨(obL_at hk).2, hN.later hk, .inl hm⟩
    · exact .inl h
    · exact .inr h
/-- One byte more. -/
theorem hitB_succ {ne N st : Nat} {last : Nat → Int} {su : Nat → Nat} {j : Nat} {H : Nat → Prop} (hB : ∀ x, HitB E ne N st last (su j) x ↔ H x) (x : Nat) : (∃ i, i < j + 1 ∧ HitB E ne N st last (su i) x) ↔ ((∃ i, i < j ∧ HitB E ne N st last (su i) x) ∨ H x) := by
  constructor
  · rintro ⟨i, h1, h2⟩
    by_cases e : i = j
    · subst e; exact .inr ((hB x).mp h2)
    · exact .inl ⟨i, by omega, h2⟩
  · rintro (⟨i, h1, h2⟩ | h)
    · exact ⟨i, by omega, h2⟩
    · exact ⟨j, by omega, (hB x).mpr h⟩
end
end Go.Proofs.Ybulkbxvu
