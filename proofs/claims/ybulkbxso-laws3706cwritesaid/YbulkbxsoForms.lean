/-
  The walk of cmd.LawS3706CForms, one theorem a form.
-/
import Derived.Test.YbulkbxsoEach
namespace Go.Proofs.Ybulkbxso
open Go.RowKit
theorem assert47 (i : Int) (s : ByteArray) (w : World) : (Instr.typeAssert (.iface 47 (.agg #[.int .i64 i, .string s])) 45 47 true).run Yba.prog w = .ok (.tuple #[.agg #[.int .i64 i, .string s], .bool true]) w := by kernel_rfl
theorem cat_nil (s : ByteArray) : (⟨#[]⟩ : ByteArray) ++ s = s := by
  apply ByteArray.ext
  rw [ByteArray.data_append]
  simp
theorem text_cell {w wr : World} {base g n : Nat} {f : Nat → Value} (h : w.ownsRow base 9 1 (.slice (some ⟨g, 0, none⟩) n n) n ((List.range n).map f)) (hb : Below w.heap.size w wr) (k : Nat) (hk : (k : Int) < (n : Int)) :
    wr.cell? ⟨g, k, none⟩ = some (f k) := by
  rw [(own_all h hb).cellAt k (by omega)]
  simp [show k < n from by omega]
set_option maxHeartbeats 2000000 in
set_option maxRecDepth 100000 in
theorem forms0 (sel : Int) (h0 : 0 ≤ sel) (h1 : sel ≤ 255) (hsel : sel % 3 = 0) (ao : Option Addr) (n c : Nat) (ss : Nat → ByteArray) (w : World) (hs : Strs w ao n ss) (hn : (n : Int) ≤ 1024) (hz : ∀ j, j < n → (((ss j).size : Nat) : Int) ≤ 140737488355328) :
    Calls Yba.prog 6 #[.int .u8 sel, .slice ao n c] w fun e w' => e = .returned (.bool true) ∧ Below w.heap.size w w' := by
  have HC := build_any ao n c ss w hs hn
  have HS : Hid (Strs w ao n ss) := hs
  have HZ : Hid (∀ j, j < n → (((ss j).size : Nat) : Int) ≤ 140737488355328) := hz
  clear hs hz
  go_enter Yba.func6, Yba.ntmps6
  go_wp2_with (go_at_call 16; refine HC.mono ?_; rintro e w1 ⟨g, rfl, hown, hbel⟩)
  refine (each_plain _ ?hm w.heap.size g n ss w1 hn HZ.out hown).mono ?_
  case hm => intro i s w; kernel_rfl
  rintro e w2 ⟨g', rfl, hown2, hbel2⟩
  have q1 := fun w => Lib.run_eql_slice_nil (P := Yba.prog) w 39 9 (some ⟨g', 0, none⟩) n n 0 0 Yba.underlying39
  go_wp2
  have HT : Hid (w2.ownsRow w.heap.size 45 1 (.slice (some ⟨g, 0, none⟩) n n) n ((List.range n).map (val ss))) := own_all hown hbel2
  have HG : Hid (w2.ownsRow w1.heap.size 9 1 (.slice (some ⟨g', 0, none⟩) n n) n ((List.range n).map fun j => .string (ss j))) := hown2
  have HB : Hid (Below w.heap.size w w2) := hbel.trans (hbel2.mono hbel.size)
  clear hown hown2 hbel hbel2 HC q1
  go_loopw [9] (fun ix wr => ∃ k : Nat, k ≤ n ∧ ix = .int .i64 k ∧ Below w2.heap.size w2 wr) (fun ix _ => n - (intOf ix).toNat)
  case atStart => exact ⟨0, Nat.zero_le _, rfl, Below.refl _ _⟩
  case round =>
    obtain ⟨k, hk, rfl, hb⟩ := hrel
    by_cases hlt : (k : Int) < (n : Int)
    · obtain ⟨b, off, rfl, hci⟩ := HS.out.at (HB.out.trans (hb.mono HB.out.size)) k (by omega)
      have hct := tuple_cell HT.out hb k hlt
      have hcg := text_cell HG.out hb k hlt
      have HBr : Hid (Below w2.heap.size w2 wr) := hb
      have hzk := HZ.out k (by omega)
      have hcat := cat_nil (ss k)
      clear hb
      go_wp2
      go_quiet (fail)
      obtain ⟨wq, hwq⟩ : ∃ wq : World, wq = wr.drewN nq := ⟨_, rfl⟩
      rw [← hwq]
      have HBq : Hid (Below w2.heap.size w2 wq) := by rw [hwq]; exact HBr.out.trans ⟨rfl, rfl, rfl, Nat.le_refl _, fun _ _ => rfl⟩
      have hct2 : wq.cell? ⟨g, k, none⟩ = some (.iface 47 (.agg #[.int .i64 (k : Int), .string (ss k)])) := by rw [hwq]; exact hct
      have hci2 : wq.cell? ⟨b, off + k, none⟩ = some (.string (ss k)) := by rw [hwq]; exact hci
      have hbq : b < wq.heap.size := World.block_lt_of_cell? wq ⟨b, off + k, none⟩ hci2
      have ha := assert47 (k : Int) (ss k)
      clear hwq HBr hct hci hcg
      go_wp2
      go_quiet (fail)
      go_wp2
      go_roundw
      case rel => exact ⟨k + 1, by omega, by go_num, (HBq.out.alloc HBq.out.size _).trans ⟨rfl, rfl, rfl, Nat.le_refl _, fun _ _ => rfl⟩⟩
      case measure => simp [intOf]; omega
    · go_wp2
      go_ret
      exact ⟨rfl, HB.out.trans (hb.mono HB.out.size)⟩
set_option maxHeartbeats 2000000 in
set_option maxRecDepth 100000 in
theorem forms1 (sel : Int) (h0 : 0 ≤ sel) (h1 : sel ≤ 255) (hsel : sel % 3 = 1) (ao : Option Addr) (n c : Nat) (ss : Nat → ByteArray) (w : World) (hs : Strs w ao n ss) (hn : (n : Int) ≤ 1024) (hz : ∀ j, j < n → (((ss j).size : Nat) : Int) ≤ 140737488355328) :
    Calls Yba.prog 6 #[.int .u8 sel, .slice ao n c] w fun e w' => e = .returned (.bool true) ∧ Below w.heap.size w w' := by
  have HC := build_any ao n c ss w hs hn
  have HS : Hid (Strs w ao n ss) := hs
  have HZ : Hid (∀ j, j < n → (((ss j).size : Nat) : Int) ≤ 140737488355328) := hz
  clear hs hz
  go_enter Yba.func6, Yba.ntmps6
  go_wp2_with (go_at_call 16; refine HC.mono ?_; rintro e w1 ⟨g, rfl, hown, hbel⟩)
  refine (each_cas _ ?hm w.heap.size g n ss w1 hn HZ.out hown).mono ?_
  case hm => intro i s w; kernel_rfl
  rintro e w2 ⟨g', rfl, hown2, hbel2⟩
  have q1 := fun w => Lib.run_eql_slice_nil (P := Yba.prog) w 39 9 (some ⟨g', 0, none⟩) n n 0 0 Yba.underlying39
  go_wp2
  have HT : Hid (w2.ownsRow w.heap.size 45 1 (.slice (some ⟨g, 0, none⟩) n n) n ((List.range n).map (val ss))) := own_all hown hbel2
  have HG : Hid (w2.ownsRow w1.heap.size 9 1 (.slice (some ⟨g', 0, none⟩) n n) n ((List.range n).map fun j => .string ((⟨#[99]⟩ : ByteArray) ++ ss j))) := hown2
  have HB : Hid (Below w.heap.size w w2) := hbel.trans (hbel2.mono hbel.size)
  clear hown hown2 hbel hbel2 HC q1
  go_loopw [9] (fun ix wr => ∃ k : Nat, k ≤ n ∧ ix = .int .i64 k ∧ Below w2.heap.size w2 wr) (fun ix _ => n - (intOf ix).toNat)
  case atStart => exact ⟨0, Nat.zero_le _, rfl, Below.refl _ _⟩
  case round =>
    obtain ⟨k, hk, rfl, hb⟩ := hrel
    by_cases hlt : (k : Int) < (n : Int)
    · obtain ⟨b, off, rfl, hci⟩ := HS.out.at (HB.out.trans (hb.mono HB.out.size)) k (by omega)
      have hct := tuple_cell HT.out hb k hlt
      have hcg := text_cell HG.out hb k hlt
      have HBr : Hid (Below w2.heap.size w2 wr) := hb
      have hzk := HZ.out k (by omega)
      clear hb
      go_wp2
      go_quiet (fail)
      obtain ⟨wq, hwq⟩ : ∃ wq : World, wq = wr.drewN nq := ⟨_, rfl⟩
      rw [← hwq]
      have HBq : Hid (Below w2.heap.size w2 wq) := by rw [hwq]; exact HBr.out.trans ⟨rfl, rfl, rfl, Nat.le_refl _, fun _ _ => rfl⟩
      have hct2 : wq.cell? ⟨g, k, none⟩ = some (.iface 47 (.agg #[.int .i64 (k : Int), .string (ss k)])) := by rw [hwq]; exact hct
      have hci2 : wq.cell? ⟨b, off + k, none⟩ = some (.string (ss k)) := by rw [hwq]; exact hci
      have hbq : b < wq.heap.size := World.block_lt_of_cell? wq ⟨b, off + k, none⟩ hci2
      have ha := assert47 (k : Int) (ss k)
      clear hwq HBr hct hci hcg
      go_wp2
      go_quiet (fail)
      go_wp2
      go_roundw
      case rel => exact ⟨k + 1, by omega, by go_num, (HBq.out.alloc HBq.out.size _).trans ⟨rfl, rfl, rfl, Nat.le_refl _, fun _ _ => rfl⟩⟩
      case measure => simp [intOf]; omega
    · go_wp2
      go_ret
      exact ⟨rfl, HB.out.trans (hb.mono HB.out.size)⟩
set_option maxHeartbeats 2000000 in
set_option maxRecDepth 100000 in
theorem forms2 (sel : Int) (h0 : 0 ≤ sel) (h1 : sel ≤ 255) (hsel : sel % 3 = 2) (ao : Option Addr) (n c : Nat) (ss : Nat → ByteArray) (w : World) (hs : Strs w ao n ss) (hn : (n : Int) ≤ 1024) (hz : ∀ j, j < n → (((ss j).size : Nat) : Int) ≤ 140737488355328) :
    Calls Yba.prog 6 #[.int .u8 sel, .slice ao n c] w fun e w' => e = .returned (.bool true) ∧ Below w.heap.size w w' := by
  have HC := build_any ao n c ss w hs hn
  have HS : Hid (Strs w ao n ss) := hs
  have HZ : Hid (∀ j, j < n → (((ss j).size : Nat) : Int) ≤ 140737488355328) := hz
  clear hs hz
  go_enter Yba.func6, Yba.ntmps6
  go_wp2_with (go_at_call 16; refine HC.mono ?_; rintro e w1 ⟨g, rfl, hown, hbel⟩)
  refine (each_json _ ?hm w.heap.size g n ss w1 hn HZ.out hown).mono ?_
  case hm => intro i s w; kernel_rfl
  rintro e w2 ⟨g', rfl, hown2, hbel2⟩
  have q1 := fun w => Lib.run_eql_slice_nil (P := Yba.prog) w 39 9 (some ⟨g', 0, none⟩) n n 0 0 Yba.underlying39
  go_wp2
  have HT : Hid (w2.ownsRow w.heap.size 45 1 (.slice (some ⟨g, 0, none⟩) n n) n ((List.range n).map (val ss))) := own_all hown hbel2
  have HG : Hid (w2.ownsRow w1.heap.size 9 1 (.slice (some ⟨g', 0, none⟩) n n) n ((List.range n).map fun j => .string ((⟨#[106]⟩ : ByteArray) ++ ss j))) := hown2
  have HB : Hid (Below w.heap.size w w2) := hbel.trans (hbel2.mono hbel.size)
  clear hown hown2 hbel hbel2 HC q1
  go_loopw [9] (fun ix wr => ∃ k : Nat, k ≤ n ∧ ix = .int .i64 k ∧ Below w2.heap.size w2 wr) (fun ix _ => n - (intOf ix).toNat)
  case atStart => exact ⟨0, Nat.zero_le _, rfl, Below.refl _ _⟩
  case round =>
    obtain ⟨k, hk, rfl, hb⟩ := hrel
    by_cases hlt : (k : Int) < (n : Int)
    · obtain ⟨b, off, rfl, hci⟩ := HS.out.at (HB.out.trans (hb.mono HB.out.size)) k (by omega)
      have hct := tuple_cell HT.out hb k hlt
      have hcg := text_cell HG.out hb k hlt
      have HBr : Hid (Below w2.heap.size w2 wr) := hb
      have hzk := HZ.out k (by omega)
      clear hb
      go_wp2
      go_quiet (fail)
      obtain ⟨wq, hwq⟩ : ∃ wq : World, wq = wr.drewN nq := ⟨_, rfl⟩
      rw [← hwq]
      have HBq : Hid (Below w2.heap.size w2 wq) := by rw [hwq]; exact HBr.out.trans ⟨rfl, rfl, rfl, Nat.le_refl _, fun _ _ => rfl⟩
      have hct2 : wq.cell? ⟨g, k, none⟩ = some (.iface 47 (.agg #[.int .i64 (k : Int), .string (ss k)])) := by rw [hwq]; exact hct
      have hci2 : wq.cell? ⟨b, off + k, none⟩ = some (.string (ss k)) := by rw [hwq]; exact hci
      have hbq : b < wq.heap.size := World.block_lt_of_cell? wq ⟨b, off + k, none⟩ hci2
      have ha := assert47 (k : Int) (ss k)
      clear hwq HBr hct hci hcg
      go_wp2
      go_quiet (fail)
      go_wp2
      go_roundw
      case rel => exact ⟨k + 1, by omega, by go_num, (HBq.out.alloc HBq.out.size _).trans ⟨rfl, rfl, rfl, Nat.le_refl _, fun _ _ => rfl⟩⟩
      case measure => simp [intOf]; omega
    · go_wp2
      go_ret
      exact ⟨rfl, HB.out.trans (hb.mono HB.out.size)⟩
end Go.Proofs.Ybulkbxso
