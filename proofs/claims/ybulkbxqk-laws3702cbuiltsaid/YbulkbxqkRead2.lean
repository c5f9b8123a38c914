/-
  tlv.Read where the length takes two or three bytes.
-/
import Derived.Test.YbulkbxqkRead
namespace Go.Proofs.Ybulkbxqk
open Go.RowKit

theorem and_129 : bits .and .u32 129 127 = 1 := by decide
theorem and_130 : bits .and .u32 130 127 = 2 := by decide
theorem u32_or0 (y : Int) (h0 : 0 ≤ y) (h1 : y < 256) : bits .or .u32 0 y = y := by
  have h := bits_join .u32 32 (by decide) wraps_u32 8 0 y (by omega) (by decide) (by omega) h0 h1 (by omega)
  omega
theorem u32_or8 (x y : Int) (hx : 0 ≤ x) (hx1 : x < 256) (h0 : 0 ≤ y) (h1 : y < 256) : bits .or .u32 (x * 256) y = x * 256 + y :=
  bits_join .u32 32 (by decide) wraps_u32 8 (x * 256) y (by omega) (by omega) (by omega) h0 h1 (by omega)

set_option maxHeartbeats 2000000 in
set_option maxRecDepth 100000 in
theorem read2 (b off cap : Nat) (tag : Int) (n r : Nat) (w : World)
    (h0 : w.cell? ⟨b, off, none⟩ = some (.int .u8 tag)) (h1 : w.cell? ⟨b, off + 1, none⟩ = some (.int .u8 129)) (h2 : w.cell? ⟨b, off + 2, none⟩ = some (.int .u8 (n : Int)))
    (ht : (bits .and .u8 tag 31 == 31) = false) (hn0 : 128 ≤ (n : Int)) (hn : (n : Int) < 256) (hcap : ((n + r + 3 : Nat) : Int) ≤ (cap : Int)) (hw : IntKind.u64.wrap ((n : Int) + (r : Int)) = (n : Int) + (r : Int)) :
    Calls Yba.prog 16 #[.slice (some ⟨b, off, none⟩) (n + r + 3) cap] w fun e w' => Raw w b off cap tag 3 n r e w' := by
  have hc2 : ¬ cap = 2 := by omega
  have hc3 : ¬ cap - 2 = 1 := by omega
  have hd : decide (((n + r + 3 : Nat) : Int) < 2) = false := by simp; omega
  have hl1 : (1 : Int) < ((n + r + 3 : Nat) : Int) := by omega
  have hl0 : (0 : Int) < ((n + r + 3 : Nat) : Int) := by omega
  have a1 := and_129
  have a2 := u32_or0 n (by omega) hn
  have hq1 : decide ((n : Int) < 128) = false := by simp; omega
  have hq2 : ((n : Int) == 0) = false := by simp; omega
  by_cases hcn : cap - 3 = n
  · have hcn' : cap - 2 - 1 = n := by omega
    go_enter Yba.func16, Yba.ntmps16
    go_wp2
    go_quiet (fail)
    go_wp2
    refine wp_loop_rounds 2 ?_
    rw [rounds_succ]
    go_wp2
    rw [rounds_succ]
    go_wp2
    go_quiet (fail)
    go_wp2
    exact bodyPost_ret (v := .tuple #[.int .u8 tag, .slice (some ⟨b, off + 2 + 1, none⟩) n n, .slice (some ⟨b, off + 2 + 1, none⟩) r 0, .bool true]) (by simp [results, Yba.results16, go_sem]) rfl ⟨off + 2 + 1, off + 2 + 1, _, by rw [hcn, Nat.sub_self], by omega, by omega, drew2 _ _ _⟩
  · have hcn' : ¬ cap - 2 - 1 = n := by omega
    have hcc : cap - 2 - 1 = cap - 3 := by omega
    go_enter Yba.func16, Yba.ntmps16
    go_wp2
    go_quiet (fail)
    go_wp2
    refine wp_loop_rounds 2 ?_
    rw [rounds_succ]
    go_wp2
    rw [rounds_succ]
    go_wp2
    go_quiet (fail)
    go_wp2
    exact bodyPost_ret (v := .tuple #[.int .u8 tag, .slice (some ⟨b, off + 2 + 1, none⟩) n (cap - 3), .slice (some ⟨b, off + 2 + 1 + n, none⟩) r (cap - 3 - n), .bool true]) (by simp [results, Yba.results16, go_sem]) rfl ⟨off + 2 + 1, off + 2 + 1 + n, _, rfl, by omega, by omega, drew2 _ _ _⟩

set_option maxHeartbeats 4000000 in
set_option maxRecDepth 100000 in
theorem read3 (b off cap : Nat) (tag : Int) (q s n r : Nat) (w : World)
    (h0 : w.cell? ⟨b, off, none⟩ = some (.int .u8 tag)) (h1 : w.cell? ⟨b, off + 1, none⟩ = some (.int .u8 130)) (h2 : w.cell? ⟨b, off + 2, none⟩ = some (.int .u8 (q : Int))) (h3 : w.cell? ⟨b, off + 2 + 1, none⟩ = some (.int .u8 (s : Int)))
    (ht : (bits .and .u8 tag 31 == 31) = false) (hq0 : 1 ≤ (q : Int)) (hq : (q : Int) < 256) (hs : (s : Int) < 256) (hn : q * 256 + s = n) (hcap : ((n + r + 4 : Nat) : Int) ≤ (cap : Int)) (hw : IntKind.u64.wrap ((n : Int) + (r : Int)) = (n : Int) + (r : Int)) :
    Calls Yba.prog 16 #[.slice (some ⟨b, off, none⟩) (n + r + 4) cap] w fun e w' => Raw w b off cap tag 4 n r e w' := by
  have hc2 : ¬ cap = 2 := by omega
  have hc3 : ¬ cap - 2 = 2 := by omega
  have hd : decide (((n + r + 4 : Nat) : Int) < 2) = false := by simp; omega
  have hl1 : (1 : Int) < ((n + r + 4 : Nat) : Int) := by omega
  have hl0 : (0 : Int) < ((n + r + 4 : Nat) : Int) := by omega
  have a1 := and_130
  have a2 := u32_or0 q (by omega) hq
  have a3 : IntKind.u32.wrap ((q : Int) * 256) = (q : Int) * 256 := by rw [IntKind.wrap_u32]; omega
  have a4 : bits .or .u32 ((q : Int) * 256) (s : Int) = (n : Int) := by rw [u32_or8 q s (by omega) hq (by omega) hs]; omega
  have a5 : (n : Int) / 256 = (q : Int) := by omega
  have hq1 : decide ((n : Int) < 128) = false := by simp; omega
  have hq2 : ((q : Int) == 0) = false := by simp; omega
  have hb : IntKind.u64.wrap (n : Int) = (n : Int) := by rw [IntKind.wrap_u64]; omega
  have HN : Hid (q * 256 + s = n) := hn
  have hb0 : 256 ≤ (n : Int) := by omega
  clear hn
  by_cases hcn : cap - 4 = n
  · have hcn' : cap - 2 - 2 = n := by omega
    go_enter Yba.func16, Yba.ntmps16
    go_wp2
    go_quiet (fail)
    go_wp2
    refine wp_loop_rounds 3 ?_
    rw [rounds_succ]
    go_wp2
    rw [rounds_succ]
    go_wp2
    rw [rounds_succ]
    go_wp2
    go_quiet (fail)
    go_wp2
    exact bodyPost_ret (v := .tuple #[.int .u8 tag, .slice (some ⟨b, off + 2 + 2, none⟩) n n, .slice (some ⟨b, off + 2 + 2, none⟩) r 0, .bool true]) (by simp [results, Yba.results16, go_sem]) rfl ⟨off + 2 + 2, off + 2 + 2, _, by rw [hcn, Nat.sub_self], by omega, by omega, drew2 _ _ _⟩
  · have hcn' : ¬ cap - 2 - 2 = n := by omega
    have hcc : cap - 2 - 2 = cap - 4 := by omega
    go_enter Yba.func16, Yba.ntmps16
    go_wp2
    go_quiet (fail)
    go_wp2
    refine wp_loop_rounds 3 ?_
    rw [rounds_succ]
    go_wp2
    rw [rounds_succ]
    go_wp2
    rw [rounds_succ]
    go_wp2
    go_quiet (fail)
    go_wp2
    exact bodyPost_ret (v := .tuple #[.int .u8 tag, .slice (some ⟨b, off + 2 + 2, none⟩) n (cap - 4), .slice (some ⟨b, off + 2 + 2 + n, none⟩) r (cap - 4 - n), .bool true]) (by simp [results, Yba.results16, go_sem]) rfl ⟨off + 2 + 2, off + 2 + 2 + n, _, rfl, by omega, by omega, drew2 _ _ _⟩
end Go.Proofs.Ybulkbxqk
