/-
  From what build leaves to what races is given: the lists.
-/
import Derived.Test.YbulkbxvuP28
namespace Go.Proofs.Ybulkbxvu
open Go.RowKit
set_option linter.unusedVariables false

section
variable {α : Type} {L c : Nat → List α}
theorem cat_len (h0 : L 0 = []) (hs : ∀ n, L (n + 1) = L n ++ c n) {s : Nat} (hl : ∀ n, (c n).length = s) : ∀ n, (L n).length = n * s
  | 0 => by rw [h0]; simp
  | n + 1 => by rw [hs, List.length_append, cat_len h0 hs hl n, hl, Nat.succ_mul]
theorem cat_mono (hs : ∀ n, L (n + 1) = L n ++ c n) : ∀ n k, k ≤ n → (L k).length ≤ (L n).length
  | 0, k, h => by have e : k = 0 := (by omega); subst e; exact Nat.le_refl _
  | n + 1, k, h => by
    by_cases e : k = n + 1
    · subst e; exact Nat.le_refl _
    · have := cat_mono hs n k (by omega)
      rw [hs, List.length_append]; omega
theorem cat_get (hs : ∀ n, L (n + 1) = L n ++ c n) : ∀ n k i, k < n → i < (c k).length → (L n)[(L k).length + i]? = (c k)[i]?
  | 0, k, i, h, _ => by omega
  | n + 1, k, i, h, hi => by
    rw [hs]
    by_cases e : k = n
    · subst e
      rw [List.getElem?_append_right (by omega), show (L k).length + i - (L k).length = i by omega]
    · have h1 := cat_mono hs n (k + 1) (by omega)
      rw [hs, List.length_append] at h1
      rw [List.getElem?_append_left (by omega)]
      exact cat_get hs n k i (by omega) hi
end
theorem evL_get (E : EvD) (n k i : Nat) (hk : k < n) (hi : i < 4) : (evL E n)[k * 4 + i]? = [Value.int .i32 0, .int .i32 ((k : Int) + 1), .int .i32 ((ckL k).length : Int), .int .i32 ((useL E k).length : Int)][i]? := by
  have := cat_get (L := evL E) (c := fun k => [Value.int .i32 0, .int .i32 ((k : Int) + 1), .int .i32 ((ckL k).length : Int), .int .i32 ((useL E k).length : Int)]) (fun n => rfl) n k i hk hi
  rw [cat_len (L := evL E) rfl (fun n => rfl) (s := 4) (fun n => rfl) k] at this
  exact this
theorem paL_get (E : EvD) (n k i : Nat) (hk : k < n) (hi : i < 9) : (paL E n)[k * 9 + i]? = [Value.int .i32 0, .int .i32 0, .int .i32 0, .int .i32 0, .int .i32 0, .int .i32 ((rnL E k).length : Int), .bool false, .slice none 0 0, .pointer none][i]? := by
  have := cat_get (L := paL E) (c := fun k => [Value.int .i32 0, .int .i32 0, .int .i32 0, .int .i32 0, .int .i32 0, .int .i32 ((rnL E k).length : Int), .bool false, .slice none 0 0, .pointer none]) (fun n => rfl) n k i hk hi
  rw [cat_len (L := paL E) rfl (fun n => rfl) (s := 9) (fun n => rfl) k] at this
  exact this
def ckV (j : Nat) : Int := if j % 2 = 0 then ((j / 2 : Nat) : Int) + 1 else 0
theorem ckL_get (n j : Nat) (hj : j < n * 2) : (ckL n)[j]? = some (.int .i32 (ckV j)) := by
  have := cat_get (L := ckL) (c := fun k => ckC k 2) (fun n => rfl) n (j / 2) (j % 2) (by omega) (by rw [ckC_len]; omega)
  rw [ckL_len, show 2 * (j / 2) + j % 2 = j by omega] at this
  rw [this]
  unfold ckV
  rcases Nat.mod_two_eq_zero_or_one j with h | h
  · rw [h, if_pos rfl]; rfl
  · rw [h, if_neg (by decide)]; rfl
theorem rnL_step (E : EvD) (k : Nat) : (rnL E (k + 1)).length = (rnL E k).length + (if E.ru k then 2 else 1) := by
  rw [rnL, List.length_append]; cases E.ru k <;> rfl
theorem rnL_get0 (E : EvD) (n k : Nat) (hk : k < n) : (rnL E n)[(rnL E k).length]? = some (.int .i32 0) :=
  cat_get (L := rnL E) (fun n => rfl) n k 0 hk (by cases E.ru k <;> simp)
theorem rnL_get1 (E : EvD) (n k : Nat) (hk : k < n) (hr : E.ru k = true) : (rnL E n)[(rnL E k).length + 1]? = some (.int .i32 1) := by
  have := cat_get (L := rnL E) (c := fun k => [.int .i32 0] ++ if E.ru k then [.int .i32 1] else []) (fun n => rfl) n k 1 hk (by simp [hr])
  rw [this]; simp [hr]
theorem rnL_pos (E : EvD) : ∀ n, n ≤ (rnL E n).length
  | 0 => Nat.zero_le _
  | n + 1 => by rw [rnL_step]; have := rnL_pos E n; split <;> omega
theorem flat_get : ∀ (us : List Use4) (j i : Nat) (u : Use4), us[j]? = some u → i < 4 → (us.flatMap Use4.cs)[j * 4 + i]? = u.cs[i]?
  | [], j, i, u, h, _ => by simp at h
  | x :: us, 0, i, u, h, hi => by
    simp only [List.getElem?_cons_zero, Option.some.injEq] at h
    subst h
    rw [List.flatMap_cons, List.getElem?_append_left (by simp; omega)]
    simp
  | x :: us, j + 1, i, u, h, hi => by
    simp only [List.getElem?_cons_succ] at h
    rw [List.flatMap_cons, List.getElem?_append_right (by simp; omega), ← flat_get us j i u h hi]
    congr 1
    simp; omega
theorem mem_chTo (E : EvD) (k : Nat) : ∀ (o : Nat) (x : Use4), x ∈ chTo E k o ↔ ∃ o', o' < o ∧ E.ce o' k % 3 ≠ 0 ∧ x = ⟨objK o', objI o', 0, E.ce o' k % 3 == 2⟩
  | 0, x => by simp [chTo]
  | o + 1, x => by
    rw [chTo, List.mem_append, mem_chTo E k o x]
    constructor
    · rintro (⟨o', h1, h2⟩ | h)
      · exact ⟨o', by omega, h2⟩
      · split at h
        · simp at h
        · rename_i hne; simp at h; exact ⟨o, by omega, hne, h⟩
    · rintro ⟨o', h1, h2, h3⟩
      by_cases e : o' = o
      · subst e; rw [if_neg h2]; exact .inr (by simp [h3])
      · exact .inl ⟨o', by omega, h2, h3⟩
theorem mem_chunk (E : EvD) (k : Nat) (x : Use4) : x ∈ chunk E k ↔ (∃ o', o' < 3 ∧ E.ce o' k % 3 ≠ 0 ∧ x = ⟨objK o', objI o', 0, E.ce o' k % 3 == 2⟩) ∨ (E.en k = true ∧ x = ⟨7, 0, 0, true⟩) := by
  rw [chunk, List.mem_append, mem_chTo]
  cases E.en k <;> simp
theorem use_eq (a b : Use4) : Use4.eq a b = true ↔ a = b := by
  obtain ⟨a1, a2, a3, a4⟩ := a
  obtain ⟨b1, b2, b3, b4⟩ := b
  simp [Use4.eq, and_assoc]
theorem obj_inj {a b : Nat} (ha : a < 3) (hb : b < 3) (h1 : objK a = objK b) (h2 : objI a = objI b) : a = b := by
  match a, b, ha, hb with
  | 0, 0, _, _ | 1, 1, _, _ | 2, 2, _, _ => rfl
  | 0, 1, _, _ | 1, 0, _, _ => exact absurd h2 (by decide)
  | 0, 2, _, _ | 2, 0, _, _ | 1, 2, _, _ | 2, 1, _, _ => exact absurd h1 (by decide)
theorem objK_ne7 (o : Nat) : objK o ≠ 7 := by unfold objK; split <;> decide
theorem chunk_writes (E : EvD) (k o : Nat) (ho : o < 3) : (∃ x ∈ chunk E k, Use4.eq ⟨objK o, objI o, 0, true⟩ x = true) ↔ E.ce o k % 3 = 2 := by
  constructor
  · rintro ⟨x, hx, he⟩
    have he' := (use_eq _ _).mp he
    rcases (mem_chunk E k x).mp hx with ⟨o', h1, h2, h3⟩ | ⟨_, h3⟩
    · rw [h3] at he'
      injection he' with e1 e2 e3 e4
      obtain rfl := obj_inj ho h1 e1 e2
      simpa using e4.symm
    · rw [h3] at he'
      injection he' with e1 _ _ _
      exact absurd e1 (objK_ne7 o)
  · intro h
    exact ⟨⟨objK o, objI o, 0, true⟩, (mem_chunk E k _).mpr (.inl ⟨o, ho, by omega, by rw [h]; rfl⟩), (use_eq _ _).mpr rfl⟩
theorem chunk_end (E : EvD) (k : Nat) : (∃ x ∈ chunk E k, x.k = 7) ↔ E.en k = true := by
  constructor
  · rintro ⟨x, hx, he⟩
    rcases (mem_chunk E k x).mp hx with ⟨o', h1, h2, h3⟩ | ⟨h, _⟩
    · rw [h3] at he; exact absurd he (objK_ne7 o')
    · exact h
  · intro h
    exact ⟨⟨7, 0, 0, true⟩, (mem_chunk E k _).mpr (.inr ⟨h, rfl⟩), rfl⟩
/-- The j-th use. -/
def usAt (E : EvD) (ne j : Nat) : Use4 := ((useL E ne)[j]?).getD ⟨0, 0, 0, false⟩
theorem usAt_range (E : EvD) (ne k : Nat) (hk : k < ne) (P : Use4 → Prop) : (∃ j, (useL E k).length ≤ j ∧ j < (useL E (k + 1)).length ∧ P (usAt E ne j)) ↔ ∃ x ∈ chunk E k, P x := by
  have hl : (useL E (k + 1)).length = (useL E k).length + (chunk E k).length := by rw [useL, List.length_append]
  have hg : ∀ i, i < (chunk E k).length → usAt E ne ((useL E k).length + i) = ((chunk E k)[i]?).getD ⟨0, 0, 0, false⟩ := fun i hi => by
    unfold usAt; rw [cat_get (L := useL E) (c := chunk E) (fun n => rfl) ne k i hk hi]
  constructor
  · rintro ⟨j, h1, h2, h3⟩
    have hi : j - (useL E k).length < (chunk E k).length := by omega
    have := hg _ hi
    rw [show (useL E k).length + (j - (useL E k).length) = j by omega, List.getElem?_eq_getElem hi] at this
    exact ⟨_, List.getElem_mem hi, by rw [this] at h3; exact h3⟩
  · rintro ⟨x, hx, hP⟩
    obtain ⟨i, hi, rfl⟩ := List.mem_iff_getElem.mp hx
    refine ⟨(useL E k).length + i, by omega, by omega, ?_⟩
    rw [hg i hi, List.getElem?_eq_getElem hi]; exact hP
end Go.Proofs.Ybulkbxvu
