/-
  zzs3702clen, zzs3702celem: a DER length, a DER element.
-/
import Derived.Test.YbulkbxqkB128
namespace Go.Proofs.Ybulkbxqk
open Go.RowKit

def lenEnc (n : Nat) : List Int := if n < 128 then [(n : Int)] else if n < 256 then [129, (n : Int)] else [130, ((n / 256 : Nat) : Int), ((n % 256 : Nat) : Int)]
theorem lenEnc1 {n : Nat} (h : n < 128) : lenEnc n = [(n : Int)] := by simp [lenEnc, h]
theorem lenEnc2 {n : Nat} (h : 128 ≤ n) (h2 : n < 256) : lenEnc n = [129, (n : Int)] := by rw [lenEnc, if_neg (by omega), if_pos h2]
theorem lenEnc3 {n : Nat} (h2 : 256 ≤ n) : lenEnc n = [130, ((n / 256 : Nat) : Int), ((n % 256 : Nat) : Int)] := by rw [lenEnc, if_neg (by omega), if_neg (by omega)]
theorem lenEnc_le (n : Nat) : (lenEnc n).length ≤ 3 := by unfold lenEnc; split <;> (try split) <;> simp
theorem wraps_i64 (n : Int) (h₀ : 0 ≤ n) (h₁ : n < 2 ^ 63) : IntKind.i64.wrap n = n := by rw [IntKind.wrap_i64]; omega
theorem i64_and255 (x : Int) (h0 : 0 ≤ x) (h1 : x < 9223372036854775808) : bits .and .i64 x 255 = x % 256 := bits_mask .i64 63 (by decide) wraps_i64 8 (by decide) x h0 h1

/-- What a function that makes bytes hands back. -/
def Made (w : World) (l : List Int) (e : Ending) (w' : World) : Prop :=
  ∃ g cap, e = .returned (.slice (some ⟨g, 0, none⟩) l.length cap) ∧ w'.ownsRow w.heap.size 5 1 (.slice (some ⟨g, 0, none⟩) l.length cap) l.length (B l) ∧ Below w.heap.size w w'

theorem clen1 (n : Nat) (h : n < 128) (w : World) : Calls Yba.prog 15 #[.int .i64 n] w (fun e w' => Made w (lenEnc n) e w') := by
  rw [lenEnc1 h]
  have h' : (n : Int) < 128 := by omega
  clear h
  go_enter Yba.func15, Yba.ntmps15
  go_wp2
  go_ret
  exact ⟨w.heap.size, 1, rfl, own_one w n _ (Nat.le_refl _), (Below.refl _ _).alloc (Nat.le_refl _) _⟩

theorem or_128_1 : bits .or .u8 128 1 = 129 := by decide
theorem or_128_2 : bits .or .u8 128 2 = 130 := by decide
set_option maxHeartbeats 1000000 in
set_option maxRecDepth 100000 in
theorem clen2 (n : Nat) (h : 128 ≤ n) (h2 : n < 256) (w : World) : Calls Yba.prog 15 #[.int .i64 n] w (fun e w' => Made w (lenEnc n) e w') := by
  rw [lenEnc2 h h2]
  have e1 : bits .and .i64 (n : Int) 255 = (n : Int) := by rw [i64_and255 _ (by omega) (by omega)]; omega
  have e2 : (n : Int) / 256 = 0 := by omega
  have e3 := or_128_1
  have h' : ¬ (n : Int) < 128 := by omega
  have h2' : (n : Int) < 256 := by omega
  clear h h2
  go_enter Yba.func15, Yba.ntmps15
  go_wp2
  refine wp_loop_rounds 2 ?_
  rw [rounds_succ]
  go_wp2_with (at_builtin; refine wp_app28 _ rfl (.tmp 18) (.tmp 19) rfl w.heap.size w.heap.size 1 1 [(n : Int)] rfl (own_one w n _ (Nat.le_refl _)) none 0 0 [] rfl (Src1.nil _) (by omega) (by simp) ?_; intro g1 cap1 w1 hg1 hown1 hbel1)
  have hs1 := hbel1.size
  have hs2 := (own_lt hown1).2
  simp at hs1
  rw [rounds_succ]
  go_wp2_with (at_builtin; refine wp_app28 _ rfl (.tmp 25) (.tmp 26) rfl w1.heap.size w1.heap.size 1 1 [129] rfl (own_one w1 129 _ (Nat.le_refl _)) (some ⟨g1, 0, none⟩) 1 cap1 [(n : Int)] rfl (Src1.own (hown1.alloc _) (B_one _)) (by omega) (by simp) ?_; intro g2 cap2 w2 hg2 hown2 hbel2)
  go_ret
  exact ⟨g2, cap2, rfl, own_base hown2 (by omega), ((((Below.refl _ _).alloc (Nat.le_refl _) _).trans hbel1).alloc (by omega) _).trans (hbel2.mono (by omega))⟩
set_option maxHeartbeats 1000000 in
set_option maxRecDepth 100000 in
theorem clen3 (n : Nat) (h : 256 ≤ n) (h2 : n < 65536) (w : World) : Calls Yba.prog 15 #[.int .i64 n] w (fun e w' => Made w (lenEnc n) e w') := by
  rw [lenEnc3 h]
  have e1 : bits .and .i64 (n : Int) 255 = ((n % 256 : Nat) : Int) := by rw [i64_and255 _ (by omega) (by omega)]; omega
  have e2 : (n : Int) / 256 = ((n / 256 : Nat) : Int) := by omega
  have e4 : bits .and .i64 ((n / 256 : Nat) : Int) 255 = ((n / 256 : Nat) : Int) := by rw [i64_and255 _ (by omega) (by omega)]; omega
  have e5 : ((n / 256 : Nat) : Int) / 256 = 0 := by omega
  have c1 : ((n / 256 : Nat) : Int) < 256 := by omega
  have c2 : 0 < ((n / 256 : Nat) : Int) := by omega
  have c3 : ((n % 256 : Nat) : Int) < 256 := by omega
  obtain ⟨q, hq⟩ : ∃ q, q = n / 256 := ⟨_, rfl⟩
  obtain ⟨r, hr⟩ : ∃ r, r = n % 256 := ⟨_, rfl⟩
  rw [← hq] at e2 e4 e5 c1 c2
  rw [← hr] at e1 c3
  rw [← hq, ← hr]
  have e3 := or_128_2
  have h' : ¬ (n : Int) < 128 := by omega
  have h0 : 0 < (n : Int) := by omega
  clear h h2 hq hr
  go_enter Yba.func15, Yba.ntmps15
  go_wp2
  refine wp_loop_rounds 3 ?_
  rw [rounds_succ]
  go_wp2_with (at_builtin; refine wp_app28 _ rfl (.tmp 18) (.tmp 19) rfl w.heap.size w.heap.size 1 1 [(r : Int)] rfl (own_one w r _ (Nat.le_refl _)) none 0 0 [] rfl (Src1.nil _) (by omega) (by simp) ?_; intro g1 cap1 w1 hg1 hown1 hbel1)
  have hs1 := hbel1.size
  have hs2 := (own_lt hown1).2
  simp at hs1
  rw [rounds_succ]
  go_wp2_with (at_builtin; refine wp_app28 _ rfl (.tmp 18) (.tmp 19) rfl w1.heap.size w1.heap.size 1 1 [(q : Int)] rfl (own_one w1 q _ (Nat.le_refl _)) (some ⟨g1, 0, none⟩) 1 cap1 [(r : Int)] rfl (Src1.own (hown1.alloc _) (B_one _)) (by omega) (by simp) ?_; intro g2 cap2 w2 hg2 hown2 hbel2)
  have hs3 := hbel2.size
  have hs4 := (own_lt hown2).2
  simp at hs3
  rw [rounds_succ]
  go_wp2_with (at_builtin; refine wp_app28 _ rfl (.tmp 25) (.tmp 26) rfl w2.heap.size w2.heap.size 1 1 [130] rfl (own_one w2 130 _ (Nat.le_refl _)) (some ⟨g2, 0, none⟩) 2 cap2 [(q : Int), (r : Int)] rfl (Src1.own (hown2.alloc _) (B_one _)) (by omega) (by simp) ?_; intro g3 cap3 w3 hg3 hown3 hbel3)
  go_ret
  exact ⟨g3, cap3, rfl, own_base hown3 (by omega), ((((((Below.refl _ _).alloc (Nat.le_refl _) _).trans hbel1).alloc (by omega) _).trans (hbel2.mono (by omega))).alloc (by omega) _).trans (hbel3.mono (by omega))⟩

theorem clen_any (n : Nat) (h2 : n < 65536) (w : World) : Calls Yba.prog 15 #[.int .i64 n] w (fun e w' => Made w (lenEnc n) e w') := by
  by_cases h : n < 128
  · exact clen1 n h w
  · by_cases h1 : n < 256
    · exact clen2 n (by omega) h1 w
    · exact clen3 n (by omega) h2 w

def elem (tag : Int) (l : List Int) : List Int := tag :: (lenEnc l.length ++ l)
theorem elem_length (tag : Int) (l : List Int) : (elem tag l).length = 1 + ((lenEnc l.length).length + l.length) := by simp [elem]; omega

set_option maxHeartbeats 1000000 in
set_option maxRecDepth 100000 in
theorem celem_any (tag : Int) (ao : Option Addr) (m c : Nat) (l : List Int) (w : World) (hs : Src1 w ao m c (B l)) (hm : m < 65536) :
    Calls Yba.prog 10 #[.int .u8 tag, .slice ao m c] w (fun e w' => Made w (elem tag l) e w') := by
  have hl : l.length = m := by have := hs.1; rwa [B_length] at this
  subst hl
  have hm' : (l.length : Int) < 65536 := by omega
  have hle := lenEnc_le l.length
  have HC : Hid (∀ w, Calls Yba.prog 15 #[.int .i64 l.length] w (fun e w' => Made w (lenEnc l.length) e w')) := fun w => clen_any l.length hm w
  clear hm
  go_enter Yba.func10, Yba.ntmps10
  go_wp2_with (first
    | (at_make; refine wp_make28 _ rfl _ (.tmp 8) rfl _ (l.length + 8) rfl rfl (by omega) (by omega) ?_; intro w1 hown1 hbel1; have hs1 := hbel1.size)
    | (at_builtin; refine wp_app28 _ rfl (.tmp 10) (.tmp 12) rfl w.heap.size w.heap.size 0 (l.length + 8) [] rfl (hown1.alloc _) _ _ _ [tag] rfl (src_one _ _) (by omega) (by simp; omega) ?_; intro g2 cap2 w2 hg2 hown2 hbel2)
    | (go_at_call 15; refine (HC.out _).mono ?_; rintro e w3 ⟨g3, cap3, rfl, hown3, hbel3⟩; have hs2 := hbel2.size; have hs3 := hbel3.size; have hb3 := own_all hown2 hbel3; simp only [World.size_alloc] at hs2)
    | (at_builtin; refine wp_app28 _ rfl (.tmp 14) (.tmp 17) rfl w.heap.size g2 1 cap2 [tag] rfl hb3 _ _ _ (lenEnc l.length) rfl (Src1.own hown3 (B_one _)) (by omega) (by omega) ?_; intro g4 cap4 w4 hg4 hown4 hbel4)
    | (at_builtin; refine (wp_app28 _ rfl (.tmp 19) (.tmp 20) rfl w.heap.size g4 (1 + (lenEnc l.length).length) cap4 _ rfl hown4 _ _ _ l rfl (hs.all ((((hbel1.alloc (by omega) _).trans hbel2).trans (hbel3.mono (by omega))).trans hbel4)) (by omega) (by have := hbel4.size; omega) ?_); intro g5 cap5 w5 hg5 hown5 hbel5))
  go_ret
  refine ⟨g5, cap5, ?_, ?_, ?_⟩
  · rw [elem_length]
    rw [show 1 + ((lenEnc l.length).length + l.length) = 1 + (lenEnc l.length).length + l.length from by omega]
    rfl
  · rw [elem_length]
    exact own_eq hown5 (by omega)
  · exact ((((hbel1.alloc (by omega) _).trans hbel2).trans (hbel3.mono (by omega))).trans hbel4).trans hbel5
end Go.Proofs.Ybulkbxqk
