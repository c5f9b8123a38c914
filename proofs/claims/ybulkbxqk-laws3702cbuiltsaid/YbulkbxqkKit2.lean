/-
  append onto an owned row, with what it leaves of the other rows; the fields' cells behind a pointer.
-/
import Derived.Test.YbulkbxqkSig
namespace Go.Proofs.Ybulkbxqk
open Go.RowKit

/-- The fields' cells behind a pointer. -/
def Box (w : World) (p : Nat) (vals : Array Value) : Prop := ∀ j v, vals[j]? = some v → w.cell? ⟨p, j, none⟩ = some v
theorem Box.below {w w' : World} {p b0 : Nat} {vals : Array Value} (h : Box w p vals) (hb : Below b0 w w') (hp : p < b0) : Box w' p vals := fun j v hj => (hb.cell (p := ⟨p, j, none⟩) hp).trans (h j v hj)

theorem own_ne {w : World} {base base' : Nat} {e e' : TypeId} {g n cap g' n' cap' : Nat} {xs xs' : List Value} (h : w.ownsRow base e 1 (.slice (some ⟨g, 0, none⟩) n cap) n xs) (h' : w.ownsRow base' e' 1 (.slice (some ⟨g', 0, none⟩) n' cap') n' xs') (hne : e ≠ e') : g ≠ g' := by
  intro hg
  subst hg
  rcases h.2 with ⟨h1, _⟩ | ⟨g1, cap1, cur, h1, _, hh, _⟩
  · simp at h1
  · rcases h'.2 with ⟨h2, _⟩ | ⟨g2, cap2, cur2, h2, _, hh2, _⟩
    · simp at h2
    · have e1 : g1 = g := by simp at h1; exact h1.1.symm
      have e2 : g2 = g := by simp at h2; exact h2.1.symm
      subst e1; subst e2
      rw [hh] at hh2
      simp at hh2
      exact hne hh2.2

theorem own_kept {w w' : World} {base : Nat} {e : TypeId} {g n cap k : Nat} {xs : List Value} (h : w.ownsRow base e 1 (.slice (some ⟨g, 0, none⟩) n cap) n xs) (hg : w.grownBy w' (some k)) (hne : g ≠ k) : w'.ownsRow base e 1 (.slice (some ⟨g, 0, none⟩) n cap) n xs :=
  h.kept hg (.inr (by simpa [Value.ownBlock] using hne))

theorem wp_appg {P : Program} (w : World) {ops : Array Oper} {rest : List Oper} {o : Oper} {a : Act} {Q : Exit → Act → World → Prop} (hgd : o.guard = none) (s x : Operand) (t : TypeId)
    (ho : o.op = .call { callee := .builtin .append, args := #[s, x], argTypes := #[t, t] })
    (base : Nat) (e : TypeId) (i : TypeInfo) (z : Value) (bytes : Nat) (ht : P.underlying t = some (.slice e)) (hi : P.info? e = some i) (hz : i.zero = some z)
    (hsize : i.size = 1) (hby : i.bytes = bytes) (hzs : z.cells.size = 1)
    (g n cap : Nat) (xs : List Value) (hs : a.eval s = .slice (some ⟨g, 0, none⟩) n cap) (hown : w.ownsRow base e 1 (.slice (some ⟨g, 0, none⟩) n cap) n xs)
    (ao : Option Addr) (m c : Nat) (news : List Value) (hx : a.eval x = .slice ao m c) (hsrc : Src1 w ao m c news)
    (hbytes : (n + m) * bytes ≤ 140737488355328) (hb1 : 1 ≤ bytes) (hbase : base ≤ w.heap.size)
    (h : ∀ g' cap' w', base ≤ g' → w'.ownsRow base e 1 (.slice (some ⟨g', 0, none⟩) (n + m) cap') (n + m) (xs ++ news) → w.grownBy w' (some g) → wpList P ops Q rest (a.put o.dst (.slice (some ⟨g', 0, none⟩) (n + m) cap')) w') :
    wpList P ops Q (o :: rest) a w := by
  obtain ⟨hl, h1, h3⟩ := hsrc
  have hm : n + m ≤ maxLen := by
    have : (n + m) * 1 ≤ (n + m) * bytes := Nat.mul_le_mul_left _ hb1
    unfold maxLen; omega
  rcases h3 with ⟨rfl, rfl, rfl⟩ | ⟨ad, rfl, hc⟩
  · have hn : news = [] := List.eq_nil_of_length_eq_zero hl
    subst hn
    refine wpList_plain hgd fun K hK' => ?_
    have hrun := run_append_owned_none (P := P) w base t o.type e i 1 ht hi _ n xs hown
    unfold Oper.wp
    simp [execOp, ho, resolve, invoke, builtin, hs, hx, hrun, Result.andThen]
    have hh := h g cap w (own_lt hown).1 (by simpa using hown) (World.grownBy.refl _ _)
    simp only [Nat.add_zero] at hh
    exact hK' _ _ hh
  · refine wpList_append_own w hgd s x t ho base e i z 1 bytes ht hi hz hsize hby hzs (by decide) _ n xs hs hown ad m c news hx (by simpa using hl) ?_ h1 hm hbytes hbase ?_
    · intro j u hj
      have hjl : j < news.length := (List.getElem?_eq_some_iff.1 hj).1
      rw [hc j (by omega)]
      exact hj
    · intro v' w' hown' hgrow hnil
      have hne : ¬ v' = .slice none 0 0 := fun hv => by simp at hnil; exact hnil hv
      rcases hown'.2 with ⟨h', _⟩ | ⟨g', cap', cur, hv', hb', r⟩
      · exact absurd h' hne
      · subst hv'
        exact h g' cap' w' hb' hown' hgrow

theorem wp_app28g (w : World) {ops : Array Oper} {rest : List Oper} {o : Oper} {a : Act} {Q : Exit → Act → World → Prop} (hgd : o.guard = none) (s x : Operand)
    (ho : o.op = .call { callee := .builtin .append, args := #[s, x], argTypes := #[28, 28] })
    (base g n cap : Nat) (l : List Int) (hs : a.eval s = .slice (some ⟨g, 0, none⟩) n cap) (hown : w.ownsRow base 5 1 (.slice (some ⟨g, 0, none⟩) n cap) n (B l))
    (ao : Option Addr) (m c : Nat) (l' : List Int) (hx : a.eval x = .slice ao m c) (hsrc : Src1 w ao m c (B l'))
    (hbytes : n + m ≤ 140737488355328) (hbase : base ≤ w.heap.size)
    (h : ∀ g' cap' w', base ≤ g' → w'.ownsRow base 5 1 (.slice (some ⟨g', 0, none⟩) (n + m) cap') (n + m) (B (l ++ l')) → w.grownBy w' (some g) → wpList Yba.prog ops Q rest (a.put o.dst (.slice (some ⟨g', 0, none⟩) (n + m) cap')) w') :
    wpList Yba.prog ops Q (o :: rest) a w := by
  obtain ⟨i0, hi, hz0, hz1, hz2⟩ := info_parts info5
  refine wp_appg w hgd s x 28 ho base 5 i0 (.int .u8 0) 1 Yba.underlying28 hi hz0 hz1 hz2 rfl g n cap (B l) hs hown ao m c (B l') hx hsrc (by omega) (by decide) hbase ?_
  rw [B_append]
  exact h

theorem wp_appIg (t : TypeId) (ht : Yba.prog.underlying t = some (.slice 3)) (w : World) {ops : Array Oper} {rest : List Oper} {o : Oper} {a : Act} {Q : Exit → Act → World → Prop} (hgd : o.guard = none) (s x : Operand)
    (ho : o.op = .call { callee := .builtin .append, args := #[s, x], argTypes := #[t, t] })
    (base g n cap : Nat) (l : List Int) (hs : a.eval s = .slice (some ⟨g, 0, none⟩) n cap) (hown : w.ownsRow base 3 1 (.slice (some ⟨g, 0, none⟩) n cap) n (I l))
    (ao : Option Addr) (m c : Nat) (l' : List Int) (hx : a.eval x = .slice ao m c) (hsrc : Src1 w ao m c (I l'))
    (hbytes : n + m ≤ 1000000000) (hbase : base ≤ w.heap.size)
    (h : ∀ g' cap' w', base ≤ g' → w'.ownsRow base 3 1 (.slice (some ⟨g', 0, none⟩) (n + m) cap') (n + m) (I (l ++ l')) → w.grownBy w' (some g) → wpList Yba.prog ops Q rest (a.put o.dst (.slice (some ⟨g', 0, none⟩) (n + m) cap')) w') :
    wpList Yba.prog ops Q (o :: rest) a w := by
  obtain ⟨i0, hi, hz0, hz1, hz2⟩ := info_parts info3
  refine wp_appg w hgd s x t ho base 3 i0 (.int .i64 0) 8 ht hi hz0 hz1 hz2 rfl g n cap (I l) hs hown ao m c (I l') hx hsrc (by omega) (by decide) hbase ?_
  rw [I_append]
  exact h
theorem own_two (w : World) (x y : Int) (base : Nat) (h : base ≤ w.heap.size) : (w.alloc (.cells #[.int .i64 x, .int .i64 y] 3)).ownsRow base 3 1 (.slice (some ⟨w.heap.size, 0, none⟩) 2 2) 2 (I [x, y]) :=
  World.ownsRow_lit w #[.int .i64 x, .int .i64 y] 2 h (by decide) rfl
/-- A slice of uint32 that came in. -/
def Src32 (w : World) (ao : Option Addr) (m : Nat) (l : List Nat) : Prop := l.length = m ∧ ∀ j, j < m → ∃ b off, ao = some ⟨b, off, none⟩ ∧ w.cell? ⟨b, off + j, none⟩ = some (.int .u32 ((l.getD j 0 : Nat) : Int))
theorem Src32.at {w w' : World} {ao : Option Addr} {m : Nat} {l : List Nat} (h : Src32 w ao m l) (hb : Below w.heap.size w w') (j : Nat) (hj : j < m) : ∃ b off, ao = some ⟨b, off, none⟩ ∧ w'.cell? ⟨b, off + j, none⟩ = some (.int .u32 ((l.getD j 0 : Nat) : Int)) := by
  obtain ⟨b, off, h1, h2⟩ := h.2 j hj
  exact ⟨b, off, h1, (hb.cell (p := ⟨b, off + j, none⟩) (World.block_lt_of_cell? w ⟨b, off + j, none⟩ h2)).trans h2⟩
theorem u32_and31 (x : Int) (h0 : 0 ≤ x) (h1 : x < 4294967296) : bits .and .u32 x 2147483647 = x % 2147483648 := bits_mask .u32 32 (by decide) wraps_u32 31 (by decide) x h0 h1
end Go.Proofs.Ybulkbxqk
