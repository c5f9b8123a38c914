/-
  (tuple).each over a method expression: plain, cas, json.
-/
import Derived.Test.YbulkbxsoKit
namespace Go.Proofs.Ybulkbxso
open Go.RowKit
set_option linter.unusedVariables false

/-- A cell of the tuple, behind whatever leaves old blocks alone. -/
theorem tuple_cell {w wr : World} {base g n : Nat} {ss : Nat → ByteArray} (h : w.ownsRow base 45 1 (.slice (some ⟨g, 0, none⟩) n n) n ((List.range n).map (val ss))) (hb : Below w.heap.size w wr) (k : Nat) (hk : (k : Int) < (n : Int)) :
    wr.cell? ⟨g, k, none⟩ = some (.iface 47 (.agg #[.int .i64 (k : Int), .string (ss k)])) := by
  rw [(own_all h hb).cellAt k (by omega)]
  simp [val, show k < n from by omega]

/-- The row of texts behind a call and a store. -/
theorem texts_step {w wr w2 : World} {n k : Nat} {f : Nat → Value} {z : Value} (h : wr.ownsRow w.heap.size 9 1 (.slice (some ⟨w.heap.size, 0, none⟩) n n) n (upto n f z k)) (hb : Below w.heap.size w wr) (hb2 : Below wr.heap.size wr w2) :
    (w2.setCell ⟨w.heap.size, k, none⟩ (f k)).ownsRow w.heap.size 9 1 (.slice (some ⟨w.heap.size, 0, none⟩) n n) n (upto n f z (k + 1)) ∧ Below w.heap.size w (w2.setCell ⟨w.heap.size, k, none⟩ (f k)) := by
  have h2 := own_all h hb2
  have hst := (h2.stored k (f k)).1
  rw [upto_succ] at hst
  exact ⟨hst, (hb.trans (hb2.mono hb.size)).setCell (p := ⟨w.heap.size, k, none⟩) (Nat.le_refl _) _⟩
theorem texts_cell {w wr w2 : World} {n k : Nat} {f : Nat → Value} {z : Value} (h : wr.ownsRow w.heap.size 9 1 (.slice (some ⟨w.heap.size, 0, none⟩) n n) n (upto n f z k)) (hb2 : Below wr.heap.size wr w2) (hk : (k : Int) < (n : Int)) :
    w2.cell? ⟨w.heap.size, k, none⟩ = some z ∧ w2.frozen? ⟨w.heap.size, k, none⟩ = false := by
  have h2 := own_all h hb2
  exact ⟨by rw [h2.cellAt k (by omega), upto_get _ _ _ _ _ (by omega), if_neg (by omega)], h2.frozenAt k⟩

set_option maxHeartbeats 1000000 in
set_option maxRecDepth 100000 in
theorem plain_any (i : Int) (s : ByteArray) (w : World) (hs : ((s.size : Nat) : Int) ≤ 140737488355328) :
    Calls Yba.prog 81 #[.agg #[.int .i64 i, .string s]] w fun e w' => e = .returned (.string (s)) ∧ Below w.heap.size w w' := by
  go_enter Yba.func81, Yba.ntmps81
  go_wp2
  go_ret
  exact ⟨rfl, (Below.refl _ _).alloc (Nat.le_refl _) _⟩

set_option maxHeartbeats 1000000 in
set_option maxRecDepth 100000 in
theorem each_plain (name : String) (hm : ∀ (i : Int) (s : ByteArray) (w : World), (method 211 47 (.agg #[.int .i64 i, .string s]) name).run Yba.prog w = .ok (81, .agg #[.int .i64 i, .string s]) w)
    (base g n : Nat) (ss : Nat → ByteArray) (w : World) (hn : (n : Int) ≤ 1024) (hz : ∀ j, j < n → (((ss j).size : Nat) : Int) ≤ 140737488355328) (hown : w.ownsRow base 45 1 (.slice (some ⟨g, 0, none⟩) n n) n ((List.range n).map (val ss))) :
    Calls Yba.prog 18 #[.slice (some ⟨g, 0, none⟩) n n, .func (Fn.methodOf 45 name) #[] #[]] w fun e w' => ∃ g', e = .returned (.slice (some ⟨g', 0, none⟩) n n) ∧
      w'.ownsRow w.heap.size 9 1 (.slice (some ⟨g', 0, none⟩) n n) n ((List.range n).map fun j => .string (ss j)) ∧ Below w.heap.size w w' := by
  have HO : Hid (w.ownsRow base 45 1 (.slice (some ⟨g, 0, none⟩) n n) n ((List.range n).map (val ss))) := hown
  have HZ : Hid (∀ j, j < n → (((ss j).size : Nat) : Int) ≤ 140737488355328) := hz
  clear hown hz
  go_enter Yba.func18, Yba.ntmps18
  go_wp2_with (at_make; refine wp_make 39 9 (.string ByteArray.empty) 16 Yba.underlying39 info9 rfl _ rfl _ _ rfl _ n rfl rfl rfl (by omega) (by omega) ?_; intro w1 hown1 hbel1)
  go_loopw [13] (fun ix wr => ∃ k : Nat, k ≤ n ∧ ix = .int .i64 k ∧ wr.ownsRow w.heap.size 9 1 (.slice (some ⟨w.heap.size, 0, none⟩) n n) n (upto n (fun j => .string (ss j)) (.string ByteArray.empty) k) ∧ Below w.heap.size w wr) (fun ix _ => n - (intOf ix).toNat)
  case atStart => exact ⟨0, Nat.zero_le _, rfl, by rw [upto_zero]; exact hown1, hbel1⟩
  case round =>
    clear hown1 hbel1
    obtain ⟨k, hk, rfl, hown, hbel⟩ := hrel
    by_cases hlt : (k : Int) < (n : Int)
    · have hc := tuple_cell HO.out hbel k hlt
      have HC : Hid (∀ w, Calls Yba.prog 81 #[.agg #[.int .i64 (k : Int), .string (ss k)]] w fun e w' => e = .returned (.string (ss k)) ∧ Below w.heap.size w w') := fun w => plain_any _ _ w (HZ.out k (by omega))
      have HK : Hid (wr.ownsRow w.heap.size 9 1 (.slice (some ⟨w.heap.size, 0, none⟩) n n) n (upto n (fun j => .string (ss j)) (.string ByteArray.empty) k) ∧ Below w.heap.size w wr) := ⟨hown, hbel⟩
      clear hown hbel
      go_wp2_with (go_at_call 81; refine (HC.out _).mono ?_; rintro e w2 ⟨rfl, hb2⟩; obtain ⟨ht1, ht2⟩ := texts_cell HK.out.1 hb2 hlt)
      go_roundw
      case rel =>
        have hst := texts_step HK.out.1 HK.out.2 hb2
        exact ⟨k + 1, by omega, by go_num, hst.1, hst.2⟩
      case measure => simp [intOf]; omega
    · obtain rfl : k = n := by omega
      go_wp2
      go_ret
      rw [upto_full] at hown
      exact ⟨w.heap.size, rfl, hown, hbel⟩

set_option maxHeartbeats 1000000 in
set_option maxRecDepth 100000 in
theorem cas_any (i : Int) (s : ByteArray) (w : World) (hs : ((s.size : Nat) : Int) ≤ 140737488355328) :
    Calls Yba.prog 79 #[.agg #[.int .i64 i, .string s]] w fun e w' => e = .returned (.string ((⟨#[99]⟩ : ByteArray) ++ s)) ∧ Below w.heap.size w w' := by
  go_enter Yba.func79, Yba.ntmps79
  go_wp2
  go_ret
  exact ⟨rfl, (Below.refl _ _).alloc (Nat.le_refl _) _⟩

set_option maxHeartbeats 1000000 in
set_option maxRecDepth 100000 in
theorem each_cas (name : String) (hm : ∀ (i : Int) (s : ByteArray) (w : World), (method 211 47 (.agg #[.int .i64 i, .string s]) name).run Yba.prog w = .ok (79, .agg #[.int .i64 i, .string s]) w)
    (base g n : Nat) (ss : Nat → ByteArray) (w : World) (hn : (n : Int) ≤ 1024) (hz : ∀ j, j < n → (((ss j).size : Nat) : Int) ≤ 140737488355328) (hown : w.ownsRow base 45 1 (.slice (some ⟨g, 0, none⟩) n n) n ((List.range n).map (val ss))) :
    Calls Yba.prog 18 #[.slice (some ⟨g, 0, none⟩) n n, .func (Fn.methodOf 45 name) #[] #[]] w fun e w' => ∃ g', e = .returned (.slice (some ⟨g', 0, none⟩) n n) ∧
      w'.ownsRow w.heap.size 9 1 (.slice (some ⟨g', 0, none⟩) n n) n ((List.range n).map fun j => .string ((⟨#[99]⟩ : ByteArray) ++ ss j)) ∧ Below w.heap.size w w' := by
  have HO : Hid (w.ownsRow base 45 1 (.slice (some ⟨g, 0, none⟩) n n) n ((List.range n).map (val ss))) := hown
  have HZ : Hid (∀ j, j < n → (((ss j).size : Nat) : Int) ≤ 140737488355328) := hz
  clear hown hz
  go_enter Yba.func18, Yba.ntmps18
  go_wp2_with (at_make; refine wp_make 39 9 (.string ByteArray.empty) 16 Yba.underlying39 info9 rfl _ rfl _ _ rfl _ n rfl rfl rfl (by omega) (by omega) ?_; intro w1 hown1 hbel1)
  go_loopw [13] (fun ix wr => ∃ k : Nat, k ≤ n ∧ ix = .int .i64 k ∧ wr.ownsRow w.heap.size 9 1 (.slice (some ⟨w.heap.size, 0, none⟩) n n) n (upto n (fun j => .string ((⟨#[99]⟩ : ByteArray) ++ ss j)) (.string ByteArray.empty) k) ∧ Below w.heap.size w wr) (fun ix _ => n - (intOf ix).toNat)
  case atStart => exact ⟨0, Nat.zero_le _, rfl, by rw [upto_zero]; exact hown1, hbel1⟩
  case round =>
    clear hown1 hbel1
    obtain ⟨k, hk, rfl, hown, hbel⟩ := hrel
    by_cases hlt : (k : Int) < (n : Int)
    · have hc := tuple_cell HO.out hbel k hlt
      have HC : Hid (∀ w, Calls Yba.prog 79 #[.agg #[.int .i64 (k : Int), .string (ss k)]] w fun e w' => e = .returned (.string ((⟨#[99]⟩ : ByteArray) ++ ss k)) ∧ Below w.heap.size w w') := fun w => cas_any _ _ w (HZ.out k (by omega))
      have HK : Hid (wr.ownsRow w.heap.size 9 1 (.slice (some ⟨w.heap.size, 0, none⟩) n n) n (upto n (fun j => .string ((⟨#[99]⟩ : ByteArray) ++ ss j)) (.string ByteArray.empty) k) ∧ Below w.heap.size w wr) := ⟨hown, hbel⟩
      clear hown hbel
      go_wp2_with (go_at_call 79; refine (HC.out _).mono ?_; rintro e w2 ⟨rfl, hb2⟩; obtain ⟨ht1, ht2⟩ := texts_cell HK.out.1 hb2 hlt)
      go_roundw
      case rel =>
        have hst := texts_step HK.out.1 HK.out.2 hb2
        exact ⟨k + 1, by omega, by go_num, hst.1, hst.2⟩
      case measure => simp [intOf]; omega
    · obtain rfl : k = n := by omega
      go_wp2
      go_ret
      rw [upto_full] at hown
      exact ⟨w.heap.size, rfl, hown, hbel⟩

set_option maxHeartbeats 1000000 in
set_option maxRecDepth 100000 in
theorem json_any (i : Int) (s : ByteArray) (w : World) (hs : ((s.size : Nat) : Int) ≤ 140737488355328) :
    Calls Yba.prog 80 #[.agg #[.int .i64 i, .string s]] w fun e w' => e = .returned (.string ((⟨#[106]⟩ : ByteArray) ++ s)) ∧ Below w.heap.size w w' := by
  go_enter Yba.func80, Yba.ntmps80
  go_wp2
  go_ret
  exact ⟨rfl, (Below.refl _ _).alloc (Nat.le_refl _) _⟩

set_option maxHeartbeats 1000000 in
set_option maxRecDepth 100000 in
theorem each_json (name : String) (hm : ∀ (i : Int) (s : ByteArray) (w : World), (method 211 47 (.agg #[.int .i64 i, .string s]) name).run Yba.prog w = .ok (80, .agg #[.int .i64 i, .string s]) w)
    (base g n : Nat) (ss : Nat → ByteArray) (w : World) (hn : (n : Int) ≤ 1024) (hz : ∀ j, j < n → (((ss j).size : Nat) : Int) ≤ 140737488355328) (hown : w.ownsRow base 45 1 (.slice (some ⟨g, 0, none⟩) n n) n ((List.range n).map (val ss))) :
    Calls Yba.prog 18 #[.slice (some ⟨g, 0, none⟩) n n, .func (Fn.methodOf 45 name) #[] #[]] w fun e w' => ∃ g', e = .returned (.slice (some ⟨g', 0, none⟩) n n) ∧
      w'.ownsRow w.heap.size 9 1 (.slice (some ⟨g', 0, none⟩) n n) n ((List.range n).map fun j => .string ((⟨#[106]⟩ : ByteArray) ++ ss j)) ∧ Below w.heap.size w w' := by
  have HO : Hid (w.ownsRow base 45 1 (.slice (some ⟨g, 0, none⟩) n n) n ((List.range n).map (val ss))) := hown
  have HZ : Hid (∀ j, j < n → (((ss j).size : Nat) : Int) ≤ 140737488355328) := hz
  clear hown hz
  go_enter Yba.func18, Yba.ntmps18
  go_wp2_with (at_make; refine wp_make 39 9 (.string ByteArray.empty) 16 Yba.underlying39 info9 rfl _ rfl _ _ rfl _ n rfl rfl rfl (by omega) (by omega) ?_; intro w1 hown1 hbel1)
  go_loopw [13] (fun ix wr => ∃ k : Nat, k ≤ n ∧ ix = .int .i64 k ∧ wr.ownsRow w.heap.size 9 1 (.slice (some ⟨w.heap.size, 0, none⟩) n n) n (upto n (fun j => .string ((⟨#[106]⟩ : ByteArray) ++ ss j)) (.string ByteArray.empty) k) ∧ Below w.heap.size w wr) (fun ix _ => n - (intOf ix).toNat)
  case atStart => exact ⟨0, Nat.zero_le _, rfl, by rw [upto_zero]; exact hown1, hbel1⟩
  case round =>
    clear hown1 hbel1
    obtain ⟨k, hk, rfl, hown, hbel⟩ := hrel
    by_cases hlt : (k : Int) < (n : Int)
    · have hc := tuple_cell HO.out hbel k hlt
      have HC : Hid (∀ w, Calls Yba.prog 80 #[.agg #[.int .i64 (k : Int), .string (ss k)]] w fun e w' => e = .returned (.string ((⟨#[106]⟩ : ByteArray) ++ ss k)) ∧ Below w.heap.size w w') := fun w => json_any _ _ w (HZ.out k (by omega))
      have HK : Hid (wr.ownsRow w.heap.size 9 1 (.slice (some ⟨w.heap.size, 0, none⟩) n n) n (upto n (fun j => .string ((⟨#[106]⟩ : ByteArray) ++ ss j)) (.string ByteArray.empty) k) ∧ Below w.heap.size w wr) := ⟨hown, hbel⟩
      clear hown hbel
      go_wp2_with (go_at_call 80; refine (HC.out _).mono ?_; rintro e w2 ⟨rfl, hb2⟩; obtain ⟨ht1, ht2⟩ := texts_cell HK.out.1 hb2 hlt)
      go_roundw
      case rel =>
        have hst := texts_step HK.out.1 HK.out.2 hb2
        exact ⟨k + 1, by omega, by go_num, hst.1, hst.2⟩
      case measure => simp [intOf]; omega
    · obtain rfl : k = n := by omega
      go_wp2
      go_ret
      rw [upto_full] at hown
      exact ⟨w.heap.size, rfl, hown, hbel⟩
end Go.Proofs.Ybulkbxso
