/-
  The words in which the walks of this seat speak of slices: an owned row that is appended to, whatever is appended ('Src1'), a view of bytes ('Vw').
-/
import Derived.Test.YbulkbxqkRows
import Derived.WalkKit
import Derived.WalkSpells
import Derived.Handy
namespace Go.Proofs.Ybulkbxqk
open Go.RowKit

theorem info5 : (Yba.prog.info? 5).map (fun i => (i.zero, i.size, i.bytes)) = some (some (.int .u8 0), 1, 1) := by kernel_rfl
theorem info3 : (Yba.prog.info? 3).map (fun i => (i.zero, i.size, i.bytes)) = some (some (.int .i64 0), 1, 8) := by kernel_rfl

/-- Bytes as cells. -/
def B (l : List Int) : List Value := l.map (Value.int .u8)
theorem B_length (l : List Int) : (B l).length = l.length := by simp [B]
theorem B_one (l : List Int) : ∀ u ∈ B l, u.oneCell' = true := ints_oneCell .u8 l
theorem B_append (l m : List Int) : B l ++ B m = B (l ++ m) := by simp [B]
theorem B_get (l : List Int) (j : Nat) (h : j < l.length) : (B l)[j]? = some (.int .u8 (l.getD j 0)) := by simp [B, h]

theorem addr_add (b off j : Nat) : (⟨b, off, none⟩ : Addr).add j = ⟨b, off + j, none⟩ := by
  unfold Addr.add
  split
  · simp
  · rfl
theorem add_block (a : Addr) (j : Nat) : (a.add j).block = a.block := by unfold Addr.add; split <;> rfl

/-- What an append takes: the slice '.slice ao m c' reads as the cells 'news' (a nil slice as none). -/
def Src1 (w : World) (ao : Option Addr) (m c : Nat) (news : List Value) : Prop :=
  news.length = m ∧ (∀ u ∈ news, u.oneCell' = true) ∧ ((ao = none ∧ m = 0 ∧ c = 0) ∨ ∃ a : Addr, ao = some a ∧ ∀ j, j < m → w.cell? (a.add j) = news[j]?)

theorem Src1.nil (w : World) : Src1 w none 0 0 [] := ⟨rfl, fun u h => absurd h (by simp), Or.inl ⟨rfl, rfl, rfl⟩⟩

theorem Src1.own {w : World} {base : Nat} {e : TypeId} {g n cap : Nat} {xs : List Value} (h : w.ownsRow base e 1 (.slice (some ⟨g, 0, none⟩) n cap) n xs) (h1 : ∀ u ∈ xs, u.oneCell' = true) :
    Src1 w (some ⟨g, 0, none⟩) n cap xs := by
  refine ⟨by simpa using h.1, h1, .inr ⟨_, rfl, fun j hj => ?_⟩⟩
  rw [addr_add, Nat.zero_add]; exact h.cellAt j (by omega)

/-- A source stays a source where its blocks are as they were. -/
theorem Src1.below {w w' : World} {ao : Option Addr} {m c : Nat} {news : List Value} {b0 : Nat} (h : Src1 w ao m c news) (hb : Below b0 w w') (hlt : ∀ a, ao = some a → 0 < m → a.block < b0) : Src1 w' ao m c news := by
  obtain ⟨h1, h2, h3⟩ := h
  refine ⟨h1, h2, ?_⟩
  rcases h3 with h3 | ⟨a, rfl, hc⟩
  · exact .inl h3
  · exact .inr ⟨a, rfl, fun j hj => (hb.cell (p := a.add j) (by rw [add_block]; exact hlt a rfl (by omega))).trans (hc j hj)⟩

/-- A source's block lies in the world that it is read in. -/
theorem Src1.lt {w : World} {ao : Option Addr} {m c : Nat} {news : List Value} (h : Src1 w ao m c news) : ∀ a, ao = some a → 0 < m → a.block < w.heap.size := by
  obtain ⟨h1, _, h3⟩ := h
  intro a ha hm
  rcases h3 with ⟨h3, _⟩ | ⟨a', h3, hc⟩
  · rw [h3] at ha; cases ha
  · rw [h3] at ha; cases ha
    have h0 := hc 0 hm
    rw [List.getElem?_eq_getElem (by omega)] at h0
    have h1 := World.block_lt_of_cell? w (a.add 0) h0
    rwa [add_block] at h1

theorem Src1.all {w w' : World} {ao : Option Addr} {m c : Nat} {news : List Value} (h : Src1 w ao m c news) (hb : Below w.heap.size w w') : Src1 w' ao m c news := h.below hb h.lt

section
variable {w : World} {base : Nat} {e : TypeId}

/-- An owned row's block. -/
theorem own_lt {g n cap : Nat} {xs : List Value} (h : w.ownsRow base e 1 (.slice (some ⟨g, 0, none⟩) n cap) n xs) : base ≤ g ∧ g < w.heap.size := h.lt g rfl
theorem own_len {v : Value} {n : Nat} {xs : List Value} (h : w.ownsRow base e 1 v n xs) : xs.length = n := by simpa using h.1
theorem own_cap {g n cap : Nat} {xs : List Value} (h : w.ownsRow base e 1 (.slice (some ⟨g, 0, none⟩) n cap) n xs) : n ≤ cap := by
  rcases h.2 with ⟨h', _⟩ | ⟨g', cap', cur, h', _, _, hnc, _⟩
  · simp at h'
  · simp only [Value.slice.injEq, Option.some.injEq, Addr.mk.injEq, and_true, true_and] at h'
    obtain ⟨rfl, rfl⟩ := h'
    exact hnc

/-- An owned row is owned behind whatever leaves the blocks below b0 alone, if it lies there. -/
theorem own_below {w' : World} {g n cap b0 : Nat} {xs : List Value} (h : w.ownsRow base e 1 (.slice (some ⟨g, 0, none⟩) n cap) n xs) (hb : Below b0 w w') (hg : g < b0) :
    w'.ownsRow base e 1 (.slice (some ⟨g, 0, none⟩) n cap) n xs := by
  refine ⟨h.1, ?_⟩
  rcases h.2 with ⟨h', _⟩ | ⟨g', cap', cur, h', hb', hh, r⟩
  · simp at h'
  · have hg' : g' = g := by simp at h'; exact h'.1.symm
    subst hg'
    exact .inr ⟨g', cap', cur, h', hb', (hb.block g' hg).trans hh, r⟩

theorem own_all {w' : World} {g n cap : Nat} {xs : List Value} (h : w.ownsRow base e 1 (.slice (some ⟨g, 0, none⟩) n cap) n xs) (hb : Below w.heap.size w w') :
    w'.ownsRow base e 1 (.slice (some ⟨g, 0, none⟩) n cap) n xs := own_below h hb (own_lt h).2

/-- The base may be taken lower. -/
theorem own_base {g n cap base' : Nat} {xs : List Value} (h : w.ownsRow base e 1 (.slice (some ⟨g, 0, none⟩) n cap) n xs) (hb : base' ≤ g) :
    w.ownsRow base' e 1 (.slice (some ⟨g, 0, none⟩) n cap) n xs := by
  refine ⟨h.1, ?_⟩
  rcases h.2 with ⟨h', _⟩ | ⟨g', cap', cur, h', hb', hh, r⟩
  · simp at h'
  · have hg' : g' = g := by simp at h'; exact h'.1.symm
    subst hg'
    exact .inr ⟨g', cap', cur, h', hb, hh, r⟩
end

/-- THE LAW OF append(dst, src...), dst an owned row that is not nil, src whatever: elements of one cell. -/
theorem wp_app {P : Program} (w : World) {ops : Array Oper} {rest : List Oper} {o : Oper} {a : Act} {Q : Exit → Act → World → Prop} (hgd : o.guard = none) (s x : Operand) (t : TypeId)
    (ho : o.op = .call { callee := .builtin .append, args := #[s, x], argTypes := #[t, t] })
    (base : Nat) (e : TypeId) (i : TypeInfo) (z : Value) (bytes : Nat) (ht : P.underlying t = some (.slice e)) (hi : P.info? e = some i) (hz : i.zero = some z)
    (hsize : i.size = 1) (hby : i.bytes = bytes) (hzs : z.cells.size = 1)
    (g n cap : Nat) (xs : List Value) (hs : a.eval s = .slice (some ⟨g, 0, none⟩) n cap) (hown : w.ownsRow base e 1 (.slice (some ⟨g, 0, none⟩) n cap) n xs)
    (ao : Option Addr) (m c : Nat) (news : List Value) (hx : a.eval x = .slice ao m c) (hsrc : Src1 w ao m c news)
    (hbytes : (n + m) * bytes ≤ 140737488355328) (hb1 : 1 ≤ bytes) (hbase : base ≤ w.heap.size)
    (h : ∀ g' cap' w', base ≤ g' → w'.ownsRow base e 1 (.slice (some ⟨g', 0, none⟩) (n + m) cap') (n + m) (xs ++ news) → Below base w w' → wpList P ops Q rest (a.put o.dst (.slice (some ⟨g', 0, none⟩) (n + m) cap')) w') :
    wpList P ops Q (o :: rest) a w := by
  obtain ⟨hl, h1, h3⟩ := hsrc
  have hm : n + m ≤ maxLen := by
    have : (n + m) * 1 ≤ (n + m) * bytes := Nat.mul_le_mul_left _ hb1
    unfold maxLen; omega
  rcases h3 with ⟨rfl, rfl, rfl⟩ | ⟨ad, rfl, hc⟩
  · have hn : news = [] := List.eq_nil_of_length_eq_zero hl
    subst hn
    refine wpList_plain hgd fun K hK' => ?_
    have hrun := run_append_owned_none (P := P) w base t o.type e i 1 ht hi _ n xs hown
    unfold Oper.wp
    simp [execOp, ho, resolve, invoke, builtin, hs, hx, hrun, Result.andThen]
    have hh := h g cap w (own_lt hown).1 (by simpa using hown) (Below.refl _ _)
    simp only [Nat.add_zero] at hh
    exact hK' _ _ hh
  · refine wpList_append_own w hgd s x t ho base e i z 1 bytes ht hi hz hsize hby hzs (by decide) _ n xs hs hown ad m c news hx (by simpa using hl) ?_ h1 hm hbytes hbase ?_
    · intro j u hj
      have hjl : j < news.length := (List.getElem?_eq_some_iff.1 hj).1
      rw [hc j (by omega)]
      exact hj
    · intro v' w' hown' hgrow hnil
      have hne : ¬ v' = .slice none 0 0 := fun hv => by simp at hnil; exact hnil hv
      have hbel : Below base w w' := (Below.refl base w).grown hgrow hbase (fun k hk => by simp [Value.ownBlock] at hk; subst hk; exact (own_lt hown).1)
      rcases hown'.2 with ⟨h', _⟩ | ⟨g', cap', cur, hv', hb', r⟩
      · exact absurd h' hne
      · subst hv'
        exact h g' cap' w' hb' hown' hbel

/-- The same at []byte (type 28 over 5). -/
theorem wp_app28 (w : World) {ops : Array Oper} {rest : List Oper} {o : Oper} {a : Act} {Q : Exit → Act → World → Prop} (hgd : o.guard = none) (s x : Operand)
    (ho : o.op = .call { callee := .builtin .append, args := #[s, x], argTypes := #[28, 28] })
    (base g n cap : Nat) (l : List Int) (hs : a.eval s = .slice (some ⟨g, 0, none⟩) n cap) (hown : w.ownsRow base 5 1 (.slice (some ⟨g, 0, none⟩) n cap) n (B l))
    (ao : Option Addr) (m c : Nat) (l' : List Int) (hx : a.eval x = .slice ao m c) (hsrc : Src1 w ao m c (B l'))
    (hbytes : n + m ≤ 140737488355328) (hbase : base ≤ w.heap.size)
    (h : ∀ g' cap' w', base ≤ g' → w'.ownsRow base 5 1 (.slice (some ⟨g', 0, none⟩) (n + m) cap') (n + m) (B (l ++ l')) → Below base w w' → wpList Yba.prog ops Q rest (a.put o.dst (.slice (some ⟨g', 0, none⟩) (n + m) cap')) w') :
    wpList Yba.prog ops Q (o :: rest) a w := by
  obtain ⟨i0, hi, hz0, hz1, hz2⟩ := info_parts info5
  refine wp_app w hgd s x 28 ho base 5 i0 (.int .u8 0) 1 Yba.underlying28 hi hz0 hz1 hz2 rfl g n cap (B l) hs hown ao m c (B l') hx hsrc (by omega) (by decide) hbase ?_
  rw [B_append]
  exact h

/-- A view of bytes: the cells from offset 'off' of block b on hold l. -/
def Vw (w : World) (b off : Nat) (l : List Int) : Prop := ∀ j, j < l.length → w.cell? ⟨b, off + j, none⟩ = some (.int .u8 (l.getD j 0))

theorem Vw.left {w : World} {b off : Nat} {l m : List Int} (h : Vw w b off (l ++ m)) : Vw w b off l := fun j hj => by
  rw [h j (by simp; omega)]
  simp [List.getElem?_append_left hj]
theorem Vw.right {w : World} {b off : Nat} {l m : List Int} (h : Vw w b off (l ++ m)) : Vw w b (off + l.length) m := fun j hj => by
  have := h (l.length + j) (by simp; omega)
  rw [Nat.add_assoc, this]
  simp [List.getElem?_append_right]
theorem Vw.below {w w' : World} {b off b0 : Nat} {l : List Int} (h : Vw w b off l) (hb : Below b0 w w') (hlt : 0 < l.length → b < b0) : Vw w' b off l := fun j hj =>
  (hb.cell (p := ⟨b, off + j, none⟩) (hlt (by omega))).trans (h j hj)
theorem Vw.lt {w : World} {b off : Nat} {l : List Int} (h : Vw w b off l) : 0 < l.length → b < w.heap.size := fun hl =>
  World.block_lt_of_cell? w ⟨b, off + 0, none⟩ (h 0 hl)
theorem Vw.all {w w' : World} {b off : Nat} {l : List Int} (h : Vw w b off l) (hb : Below w.heap.size w w') : Vw w' b off l := h.below hb h.lt
theorem Vw.nil (w : World) (b off : Nat) : Vw w b off [] := fun j hj => by simp at hj
theorem Vw.own {w : World} {base g n cap : Nat} {l : List Int} (h : w.ownsRow base 5 1 (.slice (some ⟨g, 0, none⟩) n cap) n (B l)) : Vw w g 0 l := fun j hj => by
  have hn := own_len h
  rw [B_length] at hn
  rw [Nat.zero_add, h.cellAt j (by omega), B_get l j hj]
theorem Src1.ofVw {w : World} {b off m c : Nat} {l : List Int} (h : Vw w b off l) (hm : l.length = m) : Src1 w (some ⟨b, off, none⟩) m c (B l) :=
  ⟨by rw [B_length]; exact hm, B_one l, .inr ⟨_, rfl, fun j hj => by rw [addr_add, h j (by omega), B_get l j (by omega)]⟩⟩
theorem src_one (w : World) (x : Int) : Src1 (w.alloc (.cells #[.int .u8 x] 5)) (some ⟨w.heap.size, 0, none⟩) 1 1 (B [x]) := by
  refine Src1.own (base := 0) (e := 5) ?_ (B_one _)
  exact World.ownsRow_lit w #[.int .u8 x] 1 (Nat.zero_le _) (by decide) rfl
theorem own_one (w : World) (x : Int) (base : Nat) (h : base ≤ w.heap.size) : (w.alloc (.cells #[.int .u8 x] 5)).ownsRow base 5 1 (.slice (some ⟨w.heap.size, 0, none⟩) 1 1) 1 (B [x]) :=
  World.ownsRow_lit w #[.int .u8 x] 1 h (by decide) rfl
theorem own_eq {w : World} {base : Nat} {e : TypeId} {g n m cap : Nat} {xs : List Value} (h : w.ownsRow base e 1 (.slice (some ⟨g, 0, none⟩) n cap) n xs) (hn : n = m) :
    w.ownsRow base e 1 (.slice (some ⟨g, 0, none⟩) m cap) m xs := by subst hn; exact h
/-- make([]byte, 0, n). -/
theorem wp_make28 (w : World) {ops : Array Oper} {rest : List Oper} {o : Oper} {a : Act} {Q : Exit → Act → World → Prop} (hgd : o.guard = none) (l c : Operand) (ho : o.op = Op.makeSlice 28 l c)
    (C : Int) (n : Nat) (hl : a.eval l = .int .i64 0) (hc : a.eval c = .int .i64 C) (hC : C = (n : Int)) (hn : n ≤ 140737488355328)
    (h : ∀ w', w'.ownsRow w.heap.size 5 1 (.slice (some ⟨w.heap.size, 0, none⟩) 0 n) 0 (B []) → Below w.heap.size w w' → wpList Yba.prog ops Q rest (a.put o.dst (.slice (some ⟨w.heap.size, 0, none⟩) 0 n)) w') :
    wpList Yba.prog ops Q (o :: rest) a w := by
  obtain ⟨i0, hi, hz0, hz1, hz2⟩ := info_parts info5
  refine wpList_make_own w hgd l c 28 ho w.heap.size 5 i0 (.int .u8 0) 1 Yba.underlying28 hi hz0 hz1 .i64 .i64 C n hl hc hC (by rw [hz2]; omega) (by unfold maxLen; omega) (Nat.le_refl _) ?_
  intro w' h1 h2
  exact h w' h1 ((Below.refl _ _).grown h2 (Nat.le_refl _) (fun k hk => by cases hk))
end Go.Proofs.Ybulkbxqk
