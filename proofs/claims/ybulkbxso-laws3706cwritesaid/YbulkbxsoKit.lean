/-
  cmd.zzs3706cbuild: the tuple that the laws build from their strings.
-/
import Derived.Test.YbulkbxsoRows
import Derived.WalkKit
import Derived.WalkSpells
import Derived.Handy
import Derived.Deep.QuietTactic
import Derived.BigQuiet
import Derived.Deep.Light
namespace Go.Proofs.Ybulkbxso
open Go.RowKit

theorem info45 : (Yba.prog.info? 45).map (fun i => (i.zero, i.size, i.bytes)) = some (some .nilIface, 1, 16) := by kernel_rfl
theorem info9 : (Yba.prog.info? 9).map (fun i => (i.zero, i.size, i.bytes)) = some (some (.string ByteArray.empty), 1, 16) := by kernel_rfl

section
variable {w : World} {base : Nat} {e : TypeId}
theorem own_lt {g n cap : Nat} {xs : List Value} (h : w.ownsRow base e 1 (.slice (some ⟨g, 0, none⟩) n cap) n xs) : base ≤ g ∧ g < w.heap.size := h.lt g rfl
theorem own_len {v : Value} {n : Nat} {xs : List Value} (h : w.ownsRow base e 1 v n xs) : xs.length = n := by simpa using h.1
theorem own_below {w' : World} {g n cap b0 : Nat} {xs : List Value} (h : w.ownsRow base e 1 (.slice (some ⟨g, 0, none⟩) n cap) n xs) (hb : Below b0 w w') (hg : g < b0) :
    w'.ownsRow base e 1 (.slice (some ⟨g, 0, none⟩) n cap) n xs := by
  refine ⟨h.1, ?_⟩
  rcases h.2 with ⟨h', _⟩ | ⟨g', cap', cur, h', hb', hh, r⟩
  · simp at h'
  · have hg' : g' = g := by simp at h'; exact h'.1.symm
    subst hg'
    exact .inr ⟨g', cap', cur, h', hb', (hb.block g' hg).trans hh, r⟩
theorem own_all {w' : World} {g n cap : Nat} {xs : List Value} (h : w.ownsRow base e 1 (.slice (some ⟨g, 0, none⟩) n cap) n xs) (hb : Below w.heap.size w w') :
    w'.ownsRow base e 1 (.slice (some ⟨g, 0, none⟩) n cap) n xs := own_below h hb (own_lt h).2
theorem own_base {g n cap base' : Nat} {xs : List Value} (h : w.ownsRow base e 1 (.slice (some ⟨g, 0, none⟩) n cap) n xs) (hb : base' ≤ g) :
    w.ownsRow base' e 1 (.slice (some ⟨g, 0, none⟩) n cap) n xs := by
  refine ⟨h.1, ?_⟩
  rcases h.2 with ⟨h', _⟩ | ⟨g', cap', cur, h', hb', hh, r⟩
  · simp at h'
  · have hg' : g' = g := by simp at h'; exact h'.1.symm
    subst hg'
    exact .inr ⟨g', cap', cur, h', hb, hh, r⟩
end

/-- make([]T, n), elements of one cell. -/
theorem wp_make (t e : TypeId) (z : Value) (bytes : Nat) (ht : Yba.prog.underlying t = some (.slice e)) (hinfo : (Yba.prog.info? e).map (fun i => (i.zero, i.size, i.bytes)) = some (some z, 1, bytes)) (hz : z.cells = #[z])
    (w : World) {ops : Array Oper} {rest : List Oper} {o : Oper} {a : Act} {Q : Exit → Act → World → Prop} (hgd : o.guard = none) (l c : Operand) (ho : o.op = Op.makeSlice t l c)
    (C : Int) (n : Nat) (hl : a.eval l = .int .i64 C) (hc : a.eval c = .int .i64 C) (hC : C = (n : Int)) (hn : bytes * n ≤ 281474976710656) (hn' : n ≤ 281474976710656)
    (h : ∀ w', w'.ownsRow w.heap.size e 1 (.slice (some ⟨w.heap.size, 0, none⟩) n n) n (List.replicate n z) → Below w.heap.size w w' → wpList Yba.prog ops Q rest (a.put o.dst (.slice (some ⟨w.heap.size, 0, none⟩) n n)) w') :
    wpList Yba.prog ops Q (o :: rest) a w := by
  obtain ⟨i0, hi, hz0, hz1, hz2⟩ := info_parts hinfo
  refine wpList_make_full w hgd l c t ho w.heap.size e i0 z 1 ht hi hz0 hz1 .i64 .i64 C C n hl hc hC hC (by rw [hz2]; exact hn) (by unfold maxLen; omega) (Nat.le_refl _) ?_
  intro w' h1 h2
  rw [hz, Nat.mul_one, toList_madeCells_one] at h1
  exact h w' h1 ((Below.refl _ _).grown h2 (Nat.le_refl _) (fun k hk => by cases hk))

/-- A row filled up to k. -/
def upto (n : Nat) (f : Nat → Value) (z : Value) (k : Nat) : List Value := (List.range n).map fun j => if j < k then f j else z
theorem upto_zero (n : Nat) (f : Nat → Value) (z : Value) : upto n f z 0 = List.replicate n z := by
  unfold upto
  apply List.ext_getElem
  · simp
  · intro j h1 h2; simp
theorem upto_succ (n : Nat) (f : Nat → Value) (z : Value) (k : Nat) : (upto n f z k).set k (f k) = upto n f z (k + 1) := by
  unfold upto
  apply List.ext_getElem
  · simp
  · intro j h1 h2
    simp only [List.getElem_set, List.getElem_map, List.getElem_range]
    by_cases h : k = j
    · subst h; simp
    · rw [if_neg h]
      by_cases hj : j < k
      · rw [if_pos hj, if_pos (by omega)]
      · rw [if_neg hj, if_neg (by omega)]
theorem upto_full (n : Nat) (f : Nat → Value) (z : Value) : upto n f z n = (List.range n).map f := by
  unfold upto
  apply List.ext_getElem
  · simp
  · intro j h1 h2
    simp at h1 ⊢
    omega
theorem upto_get (n : Nat) (f : Nat → Value) (z : Value) (k j : Nat) (hj : j < n) : (upto n f z k)[j]? = some (if j < k then f j else z) := by
  simp [upto, hj]

/-- The strings that came in. -/
def Strs (w : World) (ao : Option Addr) (n : Nat) (ss : Nat → ByteArray) : Prop := ∀ j, j < n → ∃ b off, ao = some ⟨b, off, none⟩ ∧ w.cell? ⟨b, off + j, none⟩ = some (.string (ss j))
theorem Strs.at {w w' : World} {ao : Option Addr} {n : Nat} {ss : Nat → ByteArray} (h : Strs w ao n ss) (hb : Below w.heap.size w w') (j : Nat) (hj : j < n) : ∃ b off, ao = some ⟨b, off, none⟩ ∧ w'.cell? ⟨b, off + j, none⟩ = some (.string (ss j)) := by
  obtain ⟨b, off, h1, h2⟩ := h j hj
  exact ⟨b, off, h1, (hb.cell (p := ⟨b, off + j, none⟩) (World.block_lt_of_cell? w ⟨b, off + j, none⟩ h2)).trans h2⟩
theorem Strs.all {w w' : World} {ao : Option Addr} {n : Nat} {ss : Nat → ByteArray} (h : Strs w ao n ss) (hb : Below w.heap.size w w') : Strs w' ao n ss := fun j hj => h.at hb j hj

/-- The tuple's k-th value. -/
def val (ss : Nat → ByteArray) (j : Nat) : Value := .iface 47 (.agg #[.int .i64 (j : Int), .string (ss j)])

set_option maxHeartbeats 1000000 in
set_option maxRecDepth 100000 in
theorem build_any (ao : Option Addr) (n c : Nat) (ss : Nat → ByteArray) (w : World) (hs : Strs w ao n ss) (hn : (n : Int) ≤ 1024) :
    Calls Yba.prog 16 #[.slice ao n c] w fun e w' => ∃ g, e = .returned (.slice (some ⟨g, 0, none⟩) n n) ∧ w'.ownsRow w.heap.size 45 1 (.slice (some ⟨g, 0, none⟩) n n) n ((List.range n).map (val ss)) ∧ Below w.heap.size w w' := by
  have HS : Hid (Strs w ao n ss) := hs
  clear hs
  go_enter Yba.func16, Yba.ntmps16
  go_wp2_with (at_make; refine wp_make 41 45 .nilIface 16 Yba.underlying41 info45 rfl _ rfl _ _ rfl _ n rfl rfl rfl (by omega) (by omega) ?_; intro w1 hown1 hbel1)
  go_loopw [4] (fun ix wr => ∃ k : Nat, k ≤ n ∧ ix = .int .i64 k ∧ wr.ownsRow w.heap.size 45 1 (.slice (some ⟨w.heap.size, 0, none⟩) n n) n (upto n (val ss) .nilIface k) ∧ Below w.heap.size w wr) (fun ix _ => n - (intOf ix).toNat)
  case atStart => exact ⟨0, Nat.zero_le _, rfl, by rw [upto_zero]; exact hown1, hbel1⟩
  case round =>
    clear hown1 hbel1
    obtain ⟨k, hk, rfl, hown, hbel⟩ := hrel
    by_cases hlt : (k : Int) < (n : Int)
    · obtain ⟨b, off, rfl, hcell⟩ := HS.out.at hbel k (by omega)
      have hc : wr.cell? ⟨w.heap.size, k, none⟩ = some .nilIface := by
        rw [hown.cellAt k (by omega), upto_get _ _ _ _ _ (by omega), if_neg (by omega)]
      have hf : wr.frozen? ⟨w.heap.size, k, none⟩ = false := hown.frozenAt k
      have hst := (hown.stored k (val ss k)).1
      rw [upto_succ] at hst
      have HB : Hid (Below w.heap.size w (wr.setCell ⟨w.heap.size, k, none⟩ (val ss k))) := hbel.setCell (p := ⟨w.heap.size, k, none⟩) (Nat.le_refl _) _
      have HO : Hid ((wr.setCell ⟨w.heap.size, k, none⟩ (val ss k)).ownsRow w.heap.size 45 1 (.slice (some ⟨w.heap.size, 0, none⟩) n n) n (upto n (val ss) .nilIface (k + 1))) := hst
      clear hown hbel hst
      go_wp2
      go_roundw
      case rel => exact ⟨k + 1, by omega, by go_num, HO.out, HB.out⟩
      case measure => simp [intOf]; omega
    · obtain rfl : k = n := by omega
      go_wp2
      go_ret
      rw [upto_full] at hown
      exact ⟨w.heap.size, rfl, hown, hbel⟩
end Go.Proofs.Ybulkbxso
