/-
  The closure of cmd.LawS3706CWrite, and (tuple).each over it.
-/
import Derived.Test.YbulkbxsoForms
import Derived.OneCell
namespace Go.Proofs.Ybulkbxso
open Go.RowKit

theorem info3 : (Yba.prog.info? 3).map (fun i => (i.zero, i.size, i.bytes)) = some (some (.int .i64 0), 1, 8) := by kernel_rfl
def I (l : List Int) : List Value := l.map (Value.int .i64)
theorem I_length (l : List Int) : (I l).length = l.length := by simp [I]
theorem I_get (l : List Int) (j : Nat) (h : j < l.length) : (I l)[j]? = some (.int .i64 (l.getD j 0)) := by simp [I, h]

/-- append(log, x), log nil or an owned row. -/
theorem wp_app43 (w : World) {ops : Array Oper} {rest : List Oper} {o : Oper} {a : Act} {Q : Exit → Act → World → Prop} (hgd : o.guard = none) (s x : Operand)
    (ho : o.op = .call { callee := .builtin .append, args := #[s, x], argTypes := #[43, 43] })
    (base : Nat) (v : Value) (n : Nat) (l : List Int) (hs : a.eval s = v) (hown : w.ownsRow base 3 1 v n (I l)) (b : Nat) (y : Int) (hx : a.eval x = .slice (some ⟨b, 0, none⟩) 1 1) (hc : w.cell? ⟨b, 0, none⟩ = some (.int .i64 y))
    (hbytes : n + 1 ≤ 1000000000) (hbase : base ≤ w.heap.size)
    (h : ∀ g' cap' w', base ≤ g' → w'.ownsRow base 3 1 (.slice (some ⟨g', 0, none⟩) (n + 1) cap') (n + 1) (I (l ++ [y])) → w.grownBy w' v.ownBlock → wpList Yba.prog ops Q rest (a.put o.dst (.slice (some ⟨g', 0, none⟩) (n + 1) cap')) w') :
    wpList Yba.prog ops Q (o :: rest) a w := by
  obtain ⟨i0, hi, hz0, hz1, hz2⟩ := info_parts info3
  refine wpList_append_own w hgd s x 43 ho base 3 i0 (.int .i64 0) 1 8 Yba.underlying43 hi hz0 hz1 hz2 rfl (by decide) v n (I l) hs hown ⟨b, 0, none⟩ 1 1 [.int .i64 y] hx rfl ?_ (ints_oneCell .i64 [y]) (by unfold maxLen; omega) (by omega) hbase ?_
  · intro j u hj
    match j, hj with
    | 0, hj => simp at hj; subst hj; simpa [Addr.add] using hc
    | j + 1, hj => simp at hj
  · intro v' w' hown' hgrow hnil
    have e : I l ++ [.int .i64 y] = I (l ++ [y]) := by simp [I]
    rw [e] at hown'
    rcases hown'.2 with ⟨_, h'⟩ | ⟨g', cap', cur, hv', hb', r⟩
    · omega
    · subst hv'
      exact h g' cap' w' hb' hown' hgrow

/-- What a call of the closure leaves: all old blocks but the variable's and the log's row. -/
structure Keeps (w w' : World) (L : Nat) (row : Option Nat) : Prop where
  os : w'.os = w.os
  tape : w'.tape = w.tape
  output : w'.output = w.output
  size : w.heap.size ≤ w'.heap.size
  block : ∀ k, k < w.heap.size → k ≠ L → some k ≠ row → w'.heap[k]? = w.heap[k]?

theorem after_app {w w1 : World} {L base : Nat} {lv : Value} {n : Nat} {l : List Int} {o1 o2 : Array Value} {t1 t2 : TypeId} (hL : w.heap[L]? = some (.cells #[lv] 43 (0, 0))) (hown : w.ownsRow base 3 1 lv n (I l)) (hLb : L < base) (hb : base ≤ w.heap.size)
    (hg : ((w.alloc (.cells o1 t1)).alloc (.cells o2 t2)).grownBy w1 lv.ownBlock) :
    w1.heap[L]? = some (.cells #[lv] 43 (0, 0)) ∧ w1.heap[w.heap.size]? = some (.cells o1 t1 (0, 0)) ∧ w.heap.size + 2 ≤ w1.heap.size ∧ (∀ k, k < w.heap.size → some k ≠ lv.ownBlock → w1.heap[k]? = w.heap[k]?) := by
  have hlt := hown.lt
  have hs := hg.size
  simp only [World.size_alloc] at hs
  have old : ∀ k, k < w.heap.size → some k ≠ lv.ownBlock → w1.heap[k]? = w.heap[k]? := fun k hk hne => by
    rw [hg.block k (by simp only [World.size_alloc]; omega) hne, Below.heap_alloc _ _ _ (by simp only [World.size_alloc]; omega), Below.heap_alloc _ _ _ hk]
  refine ⟨?_, ?_, by omega, old⟩
  · rw [old L (by omega) (fun e => by have := (hlt L e.symm).1; omega)]; exact hL
  · rw [hg.block w.heap.size (by simp only [World.size_alloc]; omega) (fun e => by have := (hlt _ e.symm).2; omega), Below.heap_alloc _ _ _ (by simp only [World.size_alloc]; omega)]
    exact heap_alloc_new w _

set_option maxHeartbeats 1000000 in
set_option maxRecDepth 100000 in
theorem write_any (L k : Nat) (s : ByteArray) (lv : Value) (n : Nat) (l : List Int) (base : Nat) (w : World) (hL : w.heap[L]? = some (.cells #[lv] 43 (0, 0))) (hown : w.ownsRow base 3 1 lv n (I l)) (hb : base ≤ w.heap.size) (hLb : L < base)
    (hs : ((s.size : Nat) : Int) ≤ 140737488355328) (hn : (n : Int) ≤ 1024) :
    Calls Yba.prog 17 #[.iface 47 (.agg #[.int .i64 (k : Int), .string s]), .pointer (some ⟨L, 0, none⟩)] w fun e w' => e = .returned (.string ((⟨#[60]⟩ : ByteArray) ++ s)) ∧
      ∃ lv', w'.heap[L]? = some (.cells #[lv'] 43 (0, 0)) ∧ w'.ownsRow base 3 1 lv' (n + 1) (I (l ++ [(k : Int)])) ∧ Keeps w w' L lv.ownBlock := by
  have ha := assert47 (k : Int) s
  have hcL : w.cell? ⟨L, 0, none⟩ = some lv := cell_of_one hL
  have hLw : L < w.heap.size := by omega
  have HL : Hid (w.heap[L]? = some (.cells #[lv] 43 (0, 0))) := hL
  have HO : Hid (w.ownsRow base 3 1 lv n (I l)) := hown
  clear hL hown
  go_enter Yba.func17, Yba.ntmps17
  go_wp2_with (at_builtin; refine wp_app43 _ rfl (.tmp 16) (.tmp 19) rfl base lv n l rfl ((HO.out.alloc _).alloc _) (w.heap.size + 1) k rfl (by simp [go_sem]) (by omega) (by simp only [World.size_alloc]; omega) ?_; intro g' cap' w1 hg' hown' hgrow; obtain ⟨hL1, hW1, hs1, hold⟩ := after_app HL.out HO.out hLb hb hgrow; have hc1 := cell_of_one hL1; have hf1 := free_of_one hL1; have hcs : w1.cell? ⟨w.heap.size, 1, none⟩ = some (.string s) := (by simp [World.cell?, hW1]); have hne : ¬ L = w.heap.size := (by omega); clear hL1 hW1)
  go_ret
  obtain ⟨hL1, hW1, hs1, hold⟩ := after_app HL.out HO.out hLb hb hgrow
  refine ⟨rfl, _, one_setCell hL1, ownsRow_setCell_other hown' (by simp [Value.ownBlock]; omega) _, ?_⟩
  exact ⟨hgrow.os, hgrow.tape, hgrow.output, by simp only [World.size_setCell]; omega, fun k hk hkL hkr => by rw [Below.heap_setCell _ _ _ _ hkL]; exact hold k hk hkr⟩
end Go.Proofs.Ybulkbxso
