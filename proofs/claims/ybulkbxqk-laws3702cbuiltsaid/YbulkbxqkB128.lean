/-
  zzs3702cbase128: the digits of a number in base 128, the greatest first, the top bit on all but the last.
-/
import Derived.Test.YbulkbxqkKit
import Derived.Laws.BitsLemmas
namespace Go.Proofs.Ybulkbxqk
open Go.RowKit

/-- The digits that follow the lowest one, the lowest first. -/
def le (x : Nat) : List Int := if _h : x = 0 then [] else ((x % 128 + 128 : Nat) : Int) :: le (x / 128)
theorem le_zero : le 0 = [] := by rw [le]; simp
theorem le_pos (x : Nat) (h : x ≠ 0) : le x = ((x % 128 + 128 : Nat) : Int) :: le (x / 128) := by rw [le]; simp [h]
/-- All digits, the lowest first. -/
def lo128 (v : Nat) : List Int := ((v % 128 : Nat) : Int) :: le (v / 128)
def b128 (v : Nat) : List Int := (lo128 v).reverse
theorem le_small (x : Nat) : ∀ f, x < 128 ^ f → (le x).length ≤ f := by
  intro f
  induction f generalizing x with
  | zero => intro h; have : x = 0 := by simpa using h
            subst this; rw [le_zero]; simp
  | succ f ih =>
    intro h
    by_cases hx : x = 0
    · subst hx; rw [le_zero]; simp
    · rw [le_pos x hx]
      have := ih (x / 128) (by rw [Nat.pow_succ] at h; omega)
      simp; omega
theorem b128_length (v : Nat) (hv : v < 4294967296) : (b128 v).length ≤ 5 := by
  have := le_small (v / 128) 4 (by omega)
  simp [b128, lo128]; omega
theorem b128_pos (v : Nat) : 0 < (b128 v).length := by simp [b128, lo128]

theorem wraps_u32 (n : Int) (h₀ : 0 ≤ n) (h₁ : n < 2 ^ 32) : IntKind.u32.wrap n = n := by rw [IntKind.wrap_u32]; omega
theorem u32_and127 (x : Int) (h0 : 0 ≤ x) (h1 : x < 4294967296) : bits .and .u32 x 127 = x % 128 := bits_mask .u32 32 (by decide) wraps_u32 7 (by decide) x h0 h1
theorem u8_or128' (y : Int) (h0 : 0 ≤ y) (h1 : y < 128) : bits .or .u8 y 128 = y + 128 := by
  have h := u8_or y 128 h0 (by omega) (by omega) (by omega)
  rw [h]
  have e : y.toNat ||| (128 : Int).toNat = y.toNat + 128 := by
    rw [Nat.or_comm]
    have := nat_join 7 128 y.toNat (by decide) (by omega)
    rw [show ((128 : Int).toNat) = 128 from rfl, this]; omega
  rw [e]; omega

theorem rev_step (l : List Int) (j : Nat) (h : j < l.length) : l.reverse.take (l.length - (j + 1)) ++ [l.getD j 0] = l.reverse.take (l.length - j) := by
  have e : l.length - j = (l.length - (j + 1)) + 1 := by omega
  rw [e, List.take_succ_eq_append_getElem (by simp; omega)]
  congr 2
  rw [List.getElem_reverse]
  simp only [List.getD_eq_getElem?_getD]
  rw [List.getElem?_eq_getElem (by omega)]
  simp only [Option.getD_some]
  congr 1
  omega

set_option maxHeartbeats 1000000 in
theorem base128_any (v : Nat) (hv : v < 4294967296) (w : World) :
    Calls Yba.prog 9 #[.int .u32 v] w fun e w' => ∃ g cap, e = .returned (.slice (some ⟨g, 0, none⟩) (b128 v).length cap) ∧
      w'.ownsRow w.heap.size 5 1 (.slice (some ⟨g, 0, none⟩) (b128 v).length cap) (b128 v).length (B (b128 v)) ∧ Below w.heap.size w w' := by
  have e1 : bits .and .u32 (v : Int) 127 = ((v % 128 : Nat) : Int) := by rw [u32_and127 _ (by omega) (by omega)]; omega
  have e2 : (v : Int) / 128 = ((v / 128 : Nat) : Int) := by omega
  obtain ⟨d0, hd0⟩ : ∃ d0, d0 = v % 128 := ⟨_, rfl⟩
  obtain ⟨x0, hx0⟩ : ∃ x0, x0 = v / 128 := ⟨_, rfl⟩
  rw [← hd0] at e1
  rw [← hx0] at e2
  have b0 : d0 < 128 := by omega
  have b1 : x0 < 33554432 := by omega
  have HD : Hid (lo128 v = (d0 : Int) :: le x0) := by unfold Hid lo128; rw [hd0, hx0]
  clear hd0 hx0
  go_enter Yba.func9, Yba.ntmps9
  go_wp2
  go_loopw [0, 3] (fun a s wr => ∃ (x : Nat) (l : List Int) (gb cap : Nat), a = .int .u32 x ∧ x < 33554432 ∧ l ++ le x = lo128 v ∧ 1 ≤ l.length ∧ s = .slice (some ⟨gb, 0, none⟩) l.length cap ∧
      wr.ownsRow w.heap.size 5 1 (.slice (some ⟨gb, 0, none⟩) l.length cap) l.length (B l) ∧ Below w.heap.size w wr) (fun a _ _ => (intOf a).toNat)
  case atStart => exact ⟨x0, [(d0 : Int)], w.heap.size, 1, rfl, b1, by rw [HD.out]; rfl, by simp, rfl, own_one w d0 _ (Nat.le_refl _), (Below.refl _ _).alloc (Nat.le_refl _) _⟩
  case round =>
    obtain ⟨x, l, gb, cap, rfl, hx, hl, hl1, rfl, hown, hbel⟩ := hrel
    have hlen : l.length ≤ 5 := by
      have h1 := b128_length v hv
      have h2 := congrArg List.length hl
      simp [b128] at h1 h2
      omega
    have HL : Hid (l ++ le x = lo128 v) := hl
    clear hl
    have hsz := hbel.size
    by_cases h0 : 0 < x
    · have e3 : bits .and .u32 (x : Int) 127 = ((x % 128 : Nat) : Int) := by rw [u32_and127 _ (by omega) (by omega)]; omega
      have e4 : bits .or .u8 ((x % 128 : Nat) : Int) 128 = ((x % 128 + 128 : Nat) : Int) := by rw [u8_or128' _ (by omega) (by omega)]; omega
      have e5 : (x : Int) / 128 = ((x / 128 : Nat) : Int) := by omega
      have HX : Hid (le x = ((x % 128 + 128 : Nat) : Int) :: le (x / 128)) := le_pos x (by omega)
      have b3 : x / 128 < x := by omega
      obtain ⟨d, hd⟩ : ∃ d, d = x % 128 := ⟨_, rfl⟩
      obtain ⟨dd, hdd⟩ : ∃ dd, dd = x % 128 + 128 := ⟨_, rfl⟩
      obtain ⟨x1, hx1⟩ : ∃ x1, x1 = x / 128 := ⟨_, rfl⟩
      rw [← hdd] at HX e4
      rw [← hd] at e3 e4
      rw [← hx1] at e5 HX b3
      have b2 : d < 128 := by omega
      clear hd hdd hx1
      go_wp2_with (at_builtin; refine wp_app28 _ rfl (.tmp 14) (.tmp 19) rfl w.heap.size gb l.length cap l rfl (hown.alloc _) _ _ _ [(dd : Int)] rfl (src_one _ _) (by omega) (by simp; omega) ?_; intro g' cap' w1 hg' hown' hbel1)
      go_roundw
      case rel => exact ⟨x1, l ++ [(dd : Int)], g', cap', rfl, by omega, by rw [← HL.out, HX.out]; simp, by simp, by simp, own_eq hown' (by simp), (hbel.alloc hsz _).trans hbel1⟩
      case measure => simp [intOf]; omega
    · obtain rfl : x = 0 := by omega
      have HL2 : Hid (l = lo128 v) := by have := HL.out; rw [le_zero] at this; show l = lo128 v; simpa using this
      go_wp2_with (at_make; refine wp_make28 _ rfl _ (.tmp 24) rfl _ l.length rfl rfl rfl (by omega) ?_; intro w1 hown1 hbel1)
      obtain ⟨wo, rfl⟩ : ∃ wo : World, wo = wr := ⟨_, rfl⟩
      go_loopw [4, 5] (fun s a wr => ∃ (j g2 cap2 : Nat), j ≤ l.length ∧ a = .int .i64 ((j : Int) - 1) ∧ s = .slice (some ⟨g2, 0, none⟩) (l.length - j) cap2 ∧
        wr.ownsRow wo.heap.size 5 1 (.slice (some ⟨g2, 0, none⟩) (l.length - j) cap2) (l.length - j) (B (l.reverse.take (l.length - j))) ∧ Below wo.heap.size wo wr) (fun _ a _ => (intOf a + 1).toNat)
      case atStart => exact ⟨l.length, wo.heap.size, l.length, Nat.le_refl _, rfl, by simp, by simpa using hown1, hbel1⟩
      case round =>
        obtain ⟨j, g2, cap2, hj, rfl, rfl, hown2, hbel2⟩ := hrel
        have hsz2 := hbel2.size
        have hlt := (own_lt hown).2
        match j, hj with
        | 0, hj =>
          go_wp2
          go_ret
          have hfin := own_base hown2 (base' := w.heap.size) (by have := (own_lt hown2).1; omega)
          have hlr : (b128 v).length = l.length - 0 := by rw [b128, ← HL2.out]; simp
          have hbr : b128 v = l.reverse.take (l.length - 0) := by rw [b128, ← HL2.out, Nat.sub_zero, List.take_of_length_le (by simp)]
          exact ⟨g2, cap2, by rw [hlr]; rfl, by rw [hlr, hbr]; exact hfin, hbel.trans (hbel2.mono hsz)⟩
        | j + 1, hj =>
          have HS : Hid (l.reverse.take (l.length - (j + 1)) ++ [l.getD j 0] = l.reverse.take (l.length - j)) := rev_step l j (by omega)
          have hcell : wr.cell? ⟨gb, j, none⟩ = some (.int .u8 (l.getD j 0)) := by
            have := (own_below hown hbel2 hlt).cellAt j (by omega)
            rw [this, B_get l j (by omega)]
          obtain ⟨c, hc⟩ : ∃ c, c = l.getD j 0 := ⟨_, rfl⟩
          rw [← hc] at hcell HS
          clear hc
          rw [show (((j + 1 : Nat) : Int) - 1) = (j : Int) from by omega]
          go_wp2_with (at_builtin; refine wp_app28 _ rfl (.tmp 33) (.tmp 38) rfl wo.heap.size g2 (l.length - (j + 1)) cap2 _ rfl (hown2.alloc _) _ _ _ [c] rfl (src_one _ _) (by omega) (by simp; omega) ?_; intro g' cap' w3 hg' hown' hbel3)
          go_roundw
          case rel =>
            rw [HS.out] at hown'
            exact ⟨j, g', cap', by omega, by go_num, by rw [show l.length - (j + 1) + 1 = l.length - j from by omega], own_eq hown' (by omega), (hbel2.alloc hsz2 _).trans hbel3⟩
          case measure => simp [intOf]
end Go.Proofs.Ybulkbxqk
