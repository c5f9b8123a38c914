/-
  tlv.Read at the start of a well-formed element.
-/
import Derived.Test.YbulkbxqkLen
import Derived.Deep.QuietTactic
import Derived.BigQuiet
namespace Go.Proofs.Ybulkbxqk
open Go.RowKit

theorem u8_and31' (x : Int) (h0 : 0 ≤ x) (h1 : x < 256) : bits .and .u8 x 31 = x % 32 := u8_and31 x h0 h1

/-- What tlv.Read hands back where it reads an element. -/
def ReadOk (w : World) (b : Nat) (tag : Int) (body rest : List Int) (e : Ending) (w' : World) : Prop :=
  ∃ o1 c1 o2 c2 k, e = .returned (.tuple #[.int .u8 tag, .slice (some ⟨b, o1, none⟩) body.length c1, .slice (some ⟨b, o2, none⟩) rest.length c2, .bool true]) ∧
    body.length ≤ c1 ∧ rest.length ≤ c2 ∧ Vw w b o1 body ∧ Vw w b o2 rest ∧ w' = w.drewN k

theorem drew2 (w : World) (a b : Nat) : (w.drewN a).drewN b = w.drewN (a + b) := by simp [World.drewN_drewN]

/-- The same, in offsets and numbers alone: a header of h bytes, n bytes of contents, r behind them. -/
def Raw (w : World) (b off cap : Nat) (tag : Int) (h n r : Nat) (e : Ending) (w' : World) : Prop :=
  ∃ o1 o2 k, e = .returned (.tuple #[.int .u8 tag, .slice (some ⟨b, o1, none⟩) n (cap - h), .slice (some ⟨b, o2, none⟩) r (cap - h - n), .bool true]) ∧
    (0 < n + r → o1 = off + h) ∧ (0 < r → o2 = off + h + n) ∧ w' = w.drewN k

set_option maxHeartbeats 1000000 in
set_option maxRecDepth 100000 in
theorem read1 (b off cap : Nat) (tag : Int) (n r : Nat) (w : World)
    (h0 : w.cell? ⟨b, off, none⟩ = some (.int .u8 tag)) (h1 : w.cell? ⟨b, off + 1, none⟩ = some (.int .u8 (n : Int)))
    (ht : (bits .and .u8 tag 31 == 31) = false) (hn : (n : Int) < 128) (hcap : ((n + r + 2 : Nat) : Int) ≤ (cap : Int)) (hw : IntKind.u64.wrap ((n : Int) + (r : Int)) = (n : Int) + (r : Int)) :
    Calls Yba.prog 16 #[.slice (some ⟨b, off, none⟩) (n + r + 2) cap] w fun e w' => Raw w b off cap tag 2 n r e w' := by
  by_cases hc2 : cap = 2
  · subst hc2
    obtain rfl : n = 0 := by omega
    obtain rfl : r = 0 := by omega
    go_enter Yba.func16, Yba.ntmps16
    go_wp2
    go_quiet (fail)
    go_wp2
    go_quiet (fail)
    go_wp2
    exact bodyPost_ret (v := .tuple #[.int .u8 tag, .slice (some ⟨b, off, none⟩) 0 0, .slice (some ⟨b, off, none⟩) 0 0, .bool true]) (by simp [results, Yba.results16, go_sem]) rfl ⟨off, off, _, rfl, by omega, by omega, drew2 _ _ _⟩
  · have hd : decide (((n + r + 2 : Nat) : Int) < 2) = false := by simp; omega
    have hl1 : (1 : Int) < ((n + r + 2 : Nat) : Int) := by omega
    have hl0 : (0 : Int) < ((n + r + 2 : Nat) : Int) := by omega
    by_cases hcn : cap - 2 = n
    · go_enter Yba.func16, Yba.ntmps16
      go_wp2
      go_quiet (fail)
      go_wp2
      go_quiet (fail)
      go_wp2
      exact bodyPost_ret (v := .tuple #[.int .u8 tag, .slice (some ⟨b, off + 2, none⟩) n n, .slice (some ⟨b, off + 2, none⟩) r 0, .bool true]) (by simp [results, Yba.results16, go_sem]) rfl ⟨off + 2, off + 2, _, by rw [hcn, Nat.sub_self], by omega, by omega, drew2 _ _ _⟩
    · go_enter Yba.func16, Yba.ntmps16
      go_wp2
      go_quiet (fail)
      go_wp2
      go_quiet (fail)
      go_wp2
      exact bodyPost_ret (v := .tuple #[.int .u8 tag, .slice (some ⟨b, off + 2, none⟩) n (cap - 2), .slice (some ⟨b, off + 2 + n, none⟩) r (cap - 2 - n), .bool true]) (by simp [results, Yba.results16, go_sem]) rfl ⟨off + 2, off + 2 + n, _, rfl, by omega, by omega, drew2 _ _ _⟩
end Go.Proofs.Ybulkbxqk
