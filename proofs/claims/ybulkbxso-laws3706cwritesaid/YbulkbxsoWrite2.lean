/-
  (tuple).each over the closure of cmd.LawS3706CWrite.
-/
import Derived.Test.YbulkbxsoWrite
namespace Go.Proofs.Ybulkbxso
open Go.RowKit

def ints (k : Nat) : List Int := (List.range k).map fun j : Nat => (j : Int)
theorem ints_succ (k : Nat) : ints (k + 1) = ints k ++ [(k : Int)] := by simp [ints, List.range_succ]
theorem ints_length (k : Nat) : (ints k).length = k := by simp [ints]

/-- Rows of different element types lie apart. -/
theorem row_ne {w : World} {base base' T n cap : Nat} {xs ys : List Value} {v : Value} {m : Nat} (h : w.ownsRow base 9 1 (.slice (some ⟨T, 0, none⟩) n cap) n xs) (h' : w.ownsRow base' 3 1 v m ys) : some T ≠ v.ownBlock := by
  intro e
  rcases h'.2 with ⟨hv, _⟩ | ⟨g, c, cur, hv, _, hh, _⟩
  · rw [hv] at e; simp [Value.ownBlock] at e
  · rw [hv] at e
    simp [Value.ownBlock] at e
    subst e
    rcases h.2 with ⟨h1, _⟩ | ⟨g2, c2, cur2, h1, _, hh2, _⟩
    · simp at h1
    · have e2 : g2 = T := by simp at h1; exact h1.1.symm
      subst e2
      rw [hh] at hh2
      simp at hh2

/-- What the loop of 'each' holds at round k. -/
structure AtK (w wr : World) (L n : Nat) (ss : Nat → ByteArray) (lv : Value) (k : Nat) : Prop where
  texts : wr.ownsRow w.heap.size 9 1 (.slice (some ⟨w.heap.size, 0, none⟩) n n) n (upto n (fun j => .string ((⟨#[60]⟩ : ByteArray) ++ ss j)) (.string ByteArray.empty) k)
  var : wr.heap[L]? = some (.cells #[lv] 43 (0, 0))
  log : wr.ownsRow (L + 1) 3 1 lv k (I (ints k))
  bel : Below L w wr
  lt : L < w.heap.size
  size : w.heap.size < wr.heap.size

theorem AtK.behind {w wr w2 : World} {L n : Nat} {ss : Nat → ByteArray} {lv lv' : Value} {k : Nat} (h : AtK w wr L n ss lv k) (hv : w2.heap[L]? = some (.cells #[lv'] 43 (0, 0))) (hl : w2.ownsRow (L + 1) 3 1 lv' (k + 1) (I (ints k ++ [(k : Int)]))) (hk : Keeps wr w2 L lv.ownBlock) :
    w2.ownsRow w.heap.size 9 1 (.slice (some ⟨w.heap.size, 0, none⟩) n n) n (upto n (fun j => .string ((⟨#[60]⟩ : ByteArray) ++ ss j)) (.string ByteArray.empty) k) ∧
    AtK w (w2.setCell ⟨w.heap.size, k, none⟩ (.string ((⟨#[60]⟩ : ByteArray) ++ ss k))) L n ss lv' (k + 1) := by
  have ht := (own_lt h.texts).2
  have hlt := h.lt
  have t2 : w2.ownsRow w.heap.size 9 1 (.slice (some ⟨w.heap.size, 0, none⟩) n n) n (upto n (fun j => .string ((⟨#[60]⟩ : ByteArray) ++ ss j)) (.string ByteArray.empty) k) := by
    have hb : w2.heap[w.heap.size]? = wr.heap[w.heap.size]? := hk.block _ ht (by omega) (row_ne h.texts h.log)
    refine ⟨h.texts.1, ?_⟩
    rcases h.texts.2 with ⟨h', _⟩ | ⟨g', cap', cur, h', hb', hh, r⟩
    · simp at h'
    · have hg' : g' = w.heap.size := by simp at h'; exact h'.1.symm
      subst hg'
      exact .inr ⟨_, cap', cur, h', hb', hb.trans hh, r⟩
  refine ⟨t2, ?_, ?_, ?_, ?_, hlt, ?_⟩
  · have := (t2.stored k (.string ((⟨#[60]⟩ : ByteArray) ++ ss k))).1
    rw [upto_succ n (fun j => .string ((⟨#[60]⟩ : ByteArray) ++ ss j))] at this
    exact this
  · rw [Below.heap_setCell _ _ _ _ (by show L ≠ w.heap.size; omega)]; exact hv
  · rw [ints_succ]
    exact ownsRow_setCell_other hl (a := ⟨w.heap.size, k, none⟩) (fun e => row_ne t2 hl e.symm) _
  · refine (h.bel.trans ⟨hk.os, hk.tape, hk.output, hk.size, fun j hj => hk.block j (by omega) (by omega) (fun e => ?_)⟩).setCell (p := ⟨w.heap.size, k, none⟩) (by show L ≤ w.heap.size; omega) _
    have := (h.log.lt j e.symm).1
    omega
  · simp only [World.size_setCell]
    have := hk.size
    have := h.size
    omega

set_option maxHeartbeats 1000000 in
set_option maxRecDepth 100000 in
theorem each_write (base g n L : Nat) (ss : Nat → ByteArray) (w : World) (hn : (n : Int) ≤ 1024) (hz : ∀ j, j < n → (((ss j).size : Nat) : Int) ≤ 140737488355328) (hown : w.ownsRow base 45 1 (.slice (some ⟨g, 0, none⟩) n n) n ((List.range n).map (val ss))) (hgL : g < L)
    (hL : w.heap[L]? = some (.cells #[.slice none 0 0] 43 (0, 0))) :
    Calls Yba.prog 18 #[.slice (some ⟨g, 0, none⟩) n n, .func (Fn.func 17) #[] #[.pointer (some ⟨L, 0, none⟩)]] w fun e w' => e = .returned (.slice (some ⟨w.heap.size, 0, none⟩) n n) ∧ ∃ lv, AtK w w' L n ss lv n := by
  have hLw : L < w.heap.size := lt_of_block hL
  have HO : Hid (w.ownsRow base 45 1 (.slice (some ⟨g, 0, none⟩) n n) n ((List.range n).map (val ss))) := hown
  have HZ : Hid (∀ j, j < n → (((ss j).size : Nat) : Int) ≤ 140737488355328) := hz
  have HL : Hid (w.heap[L]? = some (.cells #[.slice none 0 0] 43 (0, 0))) := hL
  clear hown hz hL
  go_enter Yba.func18, Yba.ntmps18
  go_wp2_with (at_make; refine wp_make 39 9 (.string ByteArray.empty) 16 Yba.underlying39 info9 rfl _ rfl _ _ rfl _ n rfl rfl rfl (by omega) (by omega) ?_; intro w1 hown1 hbel1)
  go_loopw [13] (fun ix wr => ∃ (k : Nat) (lv : Value), k ≤ n ∧ ix = .int .i64 k ∧ AtK w wr L n ss lv k) (fun ix _ => n - (intOf ix).toNat)
  case atStart =>
    refine ⟨0, .slice none 0 0, Nat.zero_le _, rfl, ?_, ?_, World.ownsRow_nil _ _ _ _, hbel1.mono (by omega), hLw, (own_lt hown1).2⟩
    · rw [upto_zero]; exact hown1
    · rw [hbel1.block L hLw]; exact HL.out
  case round =>
    clear hown1 hbel1
    obtain ⟨k, lv, hk, rfl, hat⟩ := hrel
    by_cases hlt : (k : Int) < (n : Int)
    · have hc : wr.cell? ⟨g, k, none⟩ = some (.iface 47 (.agg #[.int .i64 (k : Int), .string (ss k)])) := by
        rw [(own_below HO.out hat.bel hgL).cellAt k (by omega)]
        simp [val, show k < n from by omega]
      have HC := write_any L k (ss k) lv k (ints k) (L + 1) wr hat.var hat.log (by have := hat.size; have := hat.lt; omega) (by omega) (HZ.out k (by omega)) (by omega)
      have HA : Hid (AtK w wr L n ss lv k) := hat
      clear hat
      go_wp2_with (go_at_call 17; refine HC.mono ?_; rintro e w2 ⟨rfl, lv', hv2, hl2, hk2⟩; have hB := HA.out.behind hv2 hl2 hk2; have ht1 : w2.cell? ⟨w.heap.size, k, none⟩ = some (.string ByteArray.empty) := (by rw [hB.1.cellAt k (by omega), upto_get _ _ _ _ _ (by omega), if_neg (by omega)]); have ht2 : w2.frozen? ⟨w.heap.size, k, none⟩ = false := hB.1.frozenAt k; clear hB)
      go_roundw
      case rel => exact ⟨k + 1, lv', by omega, by go_num, (HA.out.behind hv2 hl2 hk2).2⟩
      case measure => simp [intOf]; omega
    · obtain rfl : k = n := by omega
      go_wp2
      go_ret
      exact ⟨rfl, lv, hat⟩
end Go.Proofs.Ybulkbxso
