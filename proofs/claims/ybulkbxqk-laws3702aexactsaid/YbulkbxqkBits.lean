import Derived.Test.YbulkbxqkRows
import Derived.WalkKit
import Derived.WalkSpells
import Derived.Lib.Mul64
import Derived.Laws.Bits64b
import Derived.Laws.Externs
import Derived.RowKit3
namespace Go.Proofs.Ybulkbxqk
open Go.RowKit Go.Lib
set_option linter.unusedSimpArgs false

theorem add64n (x y : Nat) (w : World) : (callFunc 14 #[.int .u64 x, .int .u64 y, .int .u64 0]).run Yba.prog w =
    .ok (.value (.tuple #[.int .u64 (((x + y) % 18446744073709551616 : Nat) : Int), .int .u64 (((x + y) / 18446744073709551616 : Nat) : Int)])) w := by
  rw [run_callFunc_extern Yba.func14 (by kernel_rfl) (by kernel_rfl) (by kernel_rfl) (e := add64Entry) (by kernel_rfl)]
  have h := run_add64 (P := Yba.prog) x y 0 (by omega) (by omega) (by omega) (by omega) w
  rw [h]
  simp only [Result.andThen]
  congr 5 <;> omega

namespace Mul64
theorem maskN (a : Nat) (ha : a < 18446744073709551616) : bits .and .u64 (a : Int) 4294967295 = ((a % 4294967296 : Nat) : Int) := by
  have h := bits_and_u64_nat a 4294967295 ha (by omega)
  have e : a &&& 4294967295 = a % 4294967296 := Nat.and_two_pow_sub_one_eq_mod a 32
  rw [e] at h
  exact h
theorem divN (a : Nat) : (a : Int) / 4294967296 = ((a / 4294967296 : Nat) : Int) := by omega
theorem mulN (a b : Nat) : (a : Int) * (b : Int) = ((a * b : Nat) : Int) := (Int.natCast_mul a b).symm
theorem addN (a b : Nat) : (a : Int) + (b : Int) = ((a + b : Nat) : Int) := (Int.natCast_add a b).symm
theorem wrapN (a : Nat) (ha : a < 18446744073709551616) : IntKind.u64.wrap (a : Int) = (a : Int) := by rw [IntKind.wrap_u64]; omega
theorem wrapM (a : Nat) : IntKind.u64.wrap (a : Int) = ((a % 18446744073709551616 : Nat) : Int) := by rw [IntKind.wrap_u64]; omega
end Mul64

set_option maxHeartbeats 1000000 in
theorem mul64_any (x y : Nat) (hx : x < 18446744073709551616) (hy : y < 18446744073709551616) (w : World) :
    Calls Yba.prog 13 #[.int .u64 x, .int .u64 y] w fun e w' => e = .returned (.tuple #[.int .u64 ((x * y / 18446744073709551616 : Nat) : Int), .int .u64 ((x * y % 18446744073709551616 : Nat) : Int)]) ∧ w' = w := by
  obtain ⟨bd, bt, bw, hhi⟩ := Lib.mul64_hi x y hx hy
  have ba := Lib.half_mul_le (a := x / 4294967296) (b := y / 4294967296) (by omega) (by omega)
  have bb := Lib.half_mul_le (a := x / 4294967296) (b := y % 4294967296) (by omega) (by omega)
  have bc := Lib.half_mul_le (a := x % 4294967296) (b := y / 4294967296) (by omega) (by omega)
  have ba' : x / 4294967296 * (y / 4294967296) < 18446744073709551616 := by omega
  have bb' : x / 4294967296 * (y % 4294967296) < 18446744073709551616 := by omega
  have bc' : x % 4294967296 * (y / 4294967296) < 18446744073709551616 := by omega
  have bh1 : x / 4294967296 * (y / 4294967296) + (x / 4294967296 * (y % 4294967296) + x % 4294967296 * (y % 4294967296) / 4294967296) / 4294967296 < 18446744073709551616 := by omega
  have bh : x / 4294967296 * (y / 4294967296) + (x / 4294967296 * (y % 4294967296) + x % 4294967296 * (y % 4294967296) / 4294967296) / 4294967296 + ((x / 4294967296 * (y % 4294967296) + x % 4294967296 * (y % 4294967296) / 4294967296) % 4294967296 + x % 4294967296 * (y / 4294967296)) / 4294967296 < 18446744073709551616 := by omega
  go_enter Yba.func13, Yba.ntmps13
  go_wp2
  simp only [Mul64.maskN x hx, Mul64.maskN y hy, Mul64.divN, Mul64.mulN, Mul64.addN, Mul64.wrapN _ bd, Mul64.wrapN _ bb', Mul64.wrapN _ bt, Mul64.maskN _ bt, Mul64.wrapN _ bc', Mul64.wrapN _ bw, Mul64.wrapN _ ba', Mul64.wrapN _ bh1, Mul64.wrapN _ bh, Mul64.wrapM (x * y)]
  rw [hhi]
  go_ret2
  exact ⟨rfl, rfl⟩

set_option maxHeartbeats 1000000 in
/-- zzs3702amodel, each step's number under a letter of its own. -/
theorem model_core (a b c d a0 a1 b0 b1 p00 p01 p10 p11 s00 m01 m10 t1 mid m00 msh lo s01 s10 smid u1 u2 hi lo2 lo3 hi1 hi2 : Nat) (w : World)
    (e1 : bits .and .u64 (a : Int) 4294967295 = (a0 : Int)) (e2 : (a : Int) / 4294967296 = (a1 : Int))
    (e3 : bits .and .u64 (b : Int) 4294967295 = (b0 : Int)) (e4 : (b : Int) / 4294967296 = (b1 : Int))
    (e5 : IntKind.u64.wrap ((a0 : Int) * (b0 : Int)) = (p00 : Int)) (e6 : IntKind.u64.wrap ((a0 : Int) * (b1 : Int)) = (p01 : Int))
    (e7 : IntKind.u64.wrap ((a1 : Int) * (b0 : Int)) = (p10 : Int)) (e8 : IntKind.u64.wrap ((a1 : Int) * (b1 : Int)) = (p11 : Int))
    (e9 : (p00 : Int) / 4294967296 = (s00 : Int)) (e10 : bits .and .u64 (p01 : Int) 4294967295 = (m01 : Int)) (e11 : bits .and .u64 (p10 : Int) 4294967295 = (m10 : Int))
    (e12 : IntKind.u64.wrap ((s00 : Int) + (m01 : Int)) = (t1 : Int)) (e13 : IntKind.u64.wrap ((t1 : Int) + (m10 : Int)) = (mid : Int))
    (e14 : bits .and .u64 (p00 : Int) 4294967295 = (m00 : Int)) (e15 : IntKind.u64.wrap ((mid : Int) * 4294967296) = (msh : Int)) (e16 : bits .or .u64 (m00 : Int) (msh : Int) = (lo : Int))
    (e17 : (p01 : Int) / 4294967296 = (s01 : Int)) (e18 : (p10 : Int) / 4294967296 = (s10 : Int)) (e19 : (mid : Int) / 4294967296 = (smid : Int))
    (e20 : IntKind.u64.wrap ((p11 : Int) + (s01 : Int)) = (u1 : Int)) (e21 : IntKind.u64.wrap ((u1 : Int) + (s10 : Int)) = (u2 : Int)) (e22 : IntKind.u64.wrap ((u2 : Int) + (smid : Int)) = (hi : Int))
    (e23 : IntKind.u64.wrap ((lo : Int) + (c : Int)) = (lo2 : Int)) (e24 : IntKind.u64.wrap ((lo2 : Int) + (d : Int)) = (lo3 : Int))
    (e25 : IntKind.u64.wrap ((hi : Int) + 1) = (hi1 : Int)) (e26 : IntKind.u64.wrap ((hi1 : Int) + 1) = (hi2 : Int)) :
    Calls Yba.prog 8 #[.int .u64 a, .int .u64 b, .int .u64 c, .int .u64 d] w fun e w' => e = .returned (.tuple #[.int .u64 (lo3 : Int), .int .u64 ((if lo2 < lo then (if lo3 < lo2 then hi2 else hi1) else (if lo3 < lo2 then hi1 else hi) : Nat) : Int)]) ∧ w' = w := by
  by_cases h1 : lo2 < lo <;> by_cases h2 : lo3 < lo2
  all_goals
    go_enter Yba.func8, Yba.ntmps8
    go_wp2
    go_ret2
    exact ⟨by simp [h1, h2], rfl⟩

/-! ### The plain arithmetic -/
theorem orN (m h : Nat) (hm : m < 4294967296) (hh : h * 4294967296 < 18446744073709551616) : bits .or .u64 (m : Int) ((h * 4294967296 : Nat) : Int) = ((m + h * 4294967296 : Nat) : Int) := by
  have h := bits_or_u64_nat m (h * 4294967296) (by omega) hh
  rw [h]
  congr 1
  rw [Nat.or_comm, Nat.mul_comm, ← Nat.two_pow_add_eq_or_of_lt (i := 32) hm]
  omega

/-- The school method on halves gives the two words of a*b. -/
theorem school (a b a0 a1 b0 b1 : Nat) (ea : a = a1 * 4294967296 + a0) (eb : b = b1 * 4294967296 + b0) (ha0 : a0 < 4294967296) (ha1 : a1 < 4294967296) (hb0 : b0 < 4294967296) (hb1 : b1 < 4294967296) :
    ∃ p00 p01 p10 p11 : Nat, p00 = a0 * b0 ∧ p01 = a0 * b1 ∧ p10 = a1 * b0 ∧ p11 = a1 * b1 ∧ p00 ≤ 18446744065119617025 ∧ p01 ≤ 18446744065119617025 ∧ p10 ≤ 18446744065119617025 ∧ p11 ≤ 18446744065119617025 ∧
      a * b = p11 * 18446744073709551616 + (p01 + p10) * 4294967296 + p00 := by
  refine ⟨_, _, _, _, rfl, rfl, rfl, rfl, Lib.half_mul_le (by omega) (by omega), Lib.half_mul_le (by omega) (by omega), Lib.half_mul_le (by omega) (by omega), Lib.half_mul_le (by omega) (by omega), ?_⟩
  rw [ea, eb, Lib.split_mul]
  have := Nat.add_comm (a0 * b1) (a1 * b0)
  rw [this]

theorem model_any (a b c d : Nat) (ha : a < 18446744073709551616) (hb : b < 18446744073709551616) (hc : c < 18446744073709551616) (hd : d < 18446744073709551616) (w : World) :
    Calls Yba.prog 8 #[.int .u64 a, .int .u64 b, .int .u64 c, .int .u64 d] w fun e w' => e = .returned (.tuple #[.int .u64 (((a * b + c + d) % 18446744073709551616 : Nat) : Int), .int .u64 (((a * b + c + d) / 18446744073709551616 : Nat) : Int)]) ∧ w' = w := by
  obtain ⟨p00, p01, p10, p11, q00, q01, q10, q11, l00, l01, l10, l11, hab⟩ := school a b (a % 4294967296) (a / 4294967296) (b % 4294967296) (b / 4294967296) (by omega) (by omega) (by omega) (by omega) (by omega) (by omega)
  have hpr : a * b ≤ 18446744073709551615 * 18446744073709551615 := Nat.mul_le_mul (by omega) (by omega)
  generalize hab' : a * b = pr at *
  refine (model_core a b c d (a % 4294967296) (a / 4294967296) (b % 4294967296) (b / 4294967296) p00 p01 p10 p11
    (p00 / 4294967296) (p01 % 4294967296) (p10 % 4294967296) (p00 / 4294967296 + p01 % 4294967296) (p00 / 4294967296 + p01 % 4294967296 + p10 % 4294967296)
    (p00 % 4294967296) ((p00 / 4294967296 + p01 % 4294967296 + p10 % 4294967296) % 4294967296 * 4294967296) (p00 % 4294967296 + (p00 / 4294967296 + p01 % 4294967296 + p10 % 4294967296) % 4294967296 * 4294967296)
    (p01 / 4294967296) (p10 / 4294967296) ((p00 / 4294967296 + p01 % 4294967296 + p10 % 4294967296) / 4294967296)
    (p11 + p01 / 4294967296) (p11 + p01 / 4294967296 + p10 / 4294967296) (pr / 18446744073709551616)
    ((pr % 18446744073709551616 + c) % 18446744073709551616) ((pr % 18446744073709551616 + c + d) % 18446744073709551616)
    (pr / 18446744073709551616 + 1) ((pr / 18446744073709551616 + 2) % 18446744073709551616) w
    (Mul64.maskN a ha) (Mul64.divN a) (Mul64.maskN b hb) (Mul64.divN b)
    ?_ ?_ ?_ ?_ (Mul64.divN _) (Mul64.maskN _ (by omega)) (Mul64.maskN _ (by omega)) ?_ ?_ (Mul64.maskN _ (by omega)) ?_ (orN _ _ (by omega) (by omega)) (Mul64.divN _) (Mul64.divN _) (Mul64.divN _)
    ?_ ?_ ?_ ?_ ?_ ?_ ?_).mono ?_
  · rw [Mul64.mulN, ← q00]; exact Mul64.wrapN _ (by omega)
  · rw [Mul64.mulN, ← q01]; exact Mul64.wrapN _ (by omega)
  · rw [Mul64.mulN, ← q10]; exact Mul64.wrapN _ (by omega)
  · rw [Mul64.mulN, ← q11]; exact Mul64.wrapN _ (by omega)
  · rw [Mul64.addN]; exact Mul64.wrapN _ (by omega)
  · rw [Mul64.addN]; exact Mul64.wrapN _ (by omega)
  · rw [IntKind.wrap_u64]; omega
  · rw [Mul64.addN]; exact Mul64.wrapN _ (by omega)
  · rw [Mul64.addN]; exact Mul64.wrapN _ (by omega)
  · rw [IntKind.wrap_u64]; omega
  · rw [IntKind.wrap_u64]; omega
  · rw [IntKind.wrap_u64]; omega
  · rw [IntKind.wrap_u64]; omega
  · rw [IntKind.wrap_u64]; omega
  · rintro e w' ⟨rfl, rfl⟩
    have hl : p00 % 4294967296 + (p00 / 4294967296 + p01 % 4294967296 + p10 % 4294967296) % 4294967296 * 4294967296 = pr % 18446744073709551616 := by omega
    rw [hl]
    have r1 : (pr % 18446744073709551616 + c + d) % 18446744073709551616 = (pr + c + d) % 18446744073709551616 := by omega
    have r2 : (if (pr % 18446744073709551616 + c) % 18446744073709551616 < pr % 18446744073709551616 then (if (pr % 18446744073709551616 + c + d) % 18446744073709551616 < (pr % 18446744073709551616 + c) % 18446744073709551616 then (pr / 18446744073709551616 + 2) % 18446744073709551616 else pr / 18446744073709551616 + 1) else (if (pr % 18446744073709551616 + c + d) % 18446744073709551616 < (pr % 18446744073709551616 + c) % 18446744073709551616 then pr / 18446744073709551616 + 1 else pr / 18446744073709551616) : Nat) = (pr + c + d) / 18446744073709551616 := by
      split <;> split <;> omega
    rw [r2, r1]
    exact ⟨rfl, rfl⟩

set_option maxHeartbeats 1000000 in
theorem mulAdd_any (a b c d : Nat) (ha : a < 18446744073709551616) (hb : b < 18446744073709551616) (hc : c < 18446744073709551616) (hd : d < 18446744073709551616) (w : World) :
    Calls Yba.prog 7 #[.int .u64 a, .int .u64 b, .int .u64 c, .int .u64 d] w fun e w' => e = .returned (.tuple #[.int .u64 (((a * b + c + d) % 18446744073709551616 : Nat) : Int), .int .u64 (((a * b + c + d) / 18446744073709551616 : Nat) : Int)]) ∧ w' = w := by
  have hpr : a * b ≤ 18446744073709551615 * 18446744073709551615 := Nat.mul_le_mul (by omega) (by omega)
  have hm := fun w => mul64_any a b ha hb w
  obtain ⟨pr, hp⟩ : ∃ pr, pr = a * b := ⟨_, rfl⟩
  rw [← hp] at hpr hm
  obtain ⟨hi, ehi⟩ : ∃ hi, hi = pr / 18446744073709551616 := ⟨_, rfl⟩
  obtain ⟨lo, elo⟩ : ∃ lo, lo = pr % 18446744073709551616 := ⟨_, rfl⟩
  obtain ⟨l2, el2⟩ : ∃ l2, l2 = (lo + c) % 18446744073709551616 := ⟨_, rfl⟩
  obtain ⟨c2, ec2⟩ : ∃ c2, c2 = (lo + c) / 18446744073709551616 := ⟨_, rfl⟩
  obtain ⟨l3, el3⟩ : ∃ l3, l3 = (l2 + d) % 18446744073709551616 := ⟨_, rfl⟩
  obtain ⟨c3, ec3⟩ : ∃ c3, c3 = (l2 + d) / 18446744073709551616 := ⟨_, rfl⟩
  have k1 : ∀ w, (callFunc 14 #[.int .u64 lo, .int .u64 c, .int .u64 0]).run Yba.prog w = .ok (.value (.tuple #[.int .u64 (l2 : Int), .int .u64 (c2 : Int)])) w := fun w => by rw [el2, ec2]; exact add64n lo c w
  have k2 : ∀ w, (callFunc 14 #[.int .u64 l2, .int .u64 d, .int .u64 0]).run Yba.prog w = .ok (.value (.tuple #[.int .u64 (l3 : Int), .int .u64 (c3 : Int)])) w := fun w => by rw [el3, ec3]; exact add64n l2 d w
  rw [← ehi, ← elo] at hm
  have r1 : IntKind.u64.wrap ((hi : Int) + (c2 : Int)) = ((hi + c2 : Nat) : Int) := by rw [Mul64.addN]; exact Mul64.wrapN _ (by omega)
  have r2 : IntKind.u64.wrap (((hi + c2 : Nat) : Int) + (c3 : Int)) = ((hi + c2 + c3 : Nat) : Int) := by rw [Mul64.addN]; exact Mul64.wrapN _ (by omega)
  have f1 : l3 = (a * b + c + d) % 18446744073709551616 := by rw [← hp]; omega
  have f2 : hi + c2 + c3 = (a * b + c + d) / 18446744073709551616 := by rw [← hp]; omega
  rw [← f1, ← f2]
  obtain ⟨h2, eh2⟩ : ∃ h2, h2 = hi + c2 := ⟨_, rfl⟩
  obtain ⟨h3, eh3⟩ : ∃ h3, h3 = h2 + c3 := ⟨_, rfl⟩
  rw [← eh2] at r1 r2
  rw [← eh3] at r2
  rw [← eh2, ← eh3]
  clear f1 f2 hp hpr ehi elo el2 ec2 el3 ec3 eh2 eh3 ha hb hc hd
  go_enter Yba.func7, Yba.ntmps7
  go_wp2_with (first | (go_at_call 13; refine (hm _).mono ?_; rintro e w' ⟨rfl, rfl⟩) | simp only [k1] | simp only [k2])
  go_ret2
  exact ⟨rfl, rfl⟩
end Go.Proofs.Ybulkbxqk
