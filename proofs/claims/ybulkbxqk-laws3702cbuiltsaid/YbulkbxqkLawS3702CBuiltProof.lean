/-
  The proof of 'Rows.LawS3702CBuiltSaid': the template's frame for a law that makes memory, turned to a struct of ten fields; the walk: YbulkbxqkBuilt.
-/
import Derived.Test.YbulkbxqkRows
import Derived.Test.YbulkbxqkBuilt
import Derived.WalkKit
import Derived.ProofKit
import Derived.OpenShut
import Derived.ShutString
import Derived.ChangeOld
import Derived.Below
import Derived.Lib.SmallJoins
namespace Go.Proofs.Ybulkbxqk.lawS3702CBuilt
open Go.ChangeShapes Go.WideShapes Go.ChangeAt Go.RowKit
set_option linter.unusedVariables false

theorem own : ownKnob Yba.prog.godebug = none := by kernel_rfl
theorem laidOut : laidOutB Yba.prog = true := by kernel_rfl

/-! ### A length over its bound: it answers true at once -/
section
variable (md a0 a1 : Int) (ra pa ta sa ea : Option Addr) (rn rc pn pc tn tc sn sc en ec : Nat) (hp : Bool) (pt : Int) (w : World)
set_option maxRecDepth 100000 in
theorem big1 (h1 : (64 : Int) < (rn : Int)) : Calls Yba.prog 5 #[.agg #[.int .u8 md, .int .u8 a0, .int .u32 a1, .slice ra rn rc, .bool hp, .int .u8 pt, .slice pa pn pc, .slice ta tn tc, .slice sa sn sc, .slice ea en ec]] w fun e w' => e = .returned (.bool true) ∧ Below w.heap.size w w' := by
  go_enter Yba.func5, Yba.ntmps5
  go_wp2
  go_ret
  exact ⟨rfl, (Below.refl _ _).alloc (Nat.le_refl _) _⟩
set_option maxRecDepth 100000 in
theorem big2 (h1 : (rn : Int) ≤ 64) (h2 : (1024 : Int) < (pn : Int)) : Calls Yba.prog 5 #[.agg #[.int .u8 md, .int .u8 a0, .int .u32 a1, .slice ra rn rc, .bool hp, .int .u8 pt, .slice pa pn pc, .slice ta tn tc, .slice sa sn sc, .slice ea en ec]] w fun e w' => e = .returned (.bool true) ∧ Below w.heap.size w w' := by
  go_enter Yba.func5, Yba.ntmps5
  go_wp2
  go_ret
  exact ⟨rfl, (Below.refl _ _).alloc (Nat.le_refl _) _⟩
set_option maxRecDepth 100000 in
theorem big3 (h1 : (rn : Int) ≤ 64) (h2 : (pn : Int) ≤ 1024) (h3 : (1024 : Int) < (tn : Int)) : Calls Yba.prog 5 #[.agg #[.int .u8 md, .int .u8 a0, .int .u32 a1, .slice ra rn rc, .bool hp, .int .u8 pt, .slice pa pn pc, .slice ta tn tc, .slice sa sn sc, .slice ea en ec]] w fun e w' => e = .returned (.bool true) ∧ Below w.heap.size w w' := by
  go_enter Yba.func5, Yba.ntmps5
  go_wp2
  go_ret
  exact ⟨rfl, (Below.refl _ _).alloc (Nat.le_refl _) _⟩
set_option maxRecDepth 100000 in
theorem big4 (h1 : (rn : Int) ≤ 64) (h2 : (pn : Int) ≤ 1024) (h3 : (tn : Int) ≤ 1024) (h4 : (1024 : Int) < (sn : Int)) : Calls Yba.prog 5 #[.agg #[.int .u8 md, .int .u8 a0, .int .u32 a1, .slice ra rn rc, .bool hp, .int .u8 pt, .slice pa pn pc, .slice ta tn tc, .slice sa sn sc, .slice ea en ec]] w fun e w' => e = .returned (.bool true) ∧ Below w.heap.size w w' := by
  go_enter Yba.func5, Yba.ntmps5
  go_wp2
  go_ret
  exact ⟨rfl, (Below.refl _ _).alloc (Nat.le_refl _) _⟩
set_option maxRecDepth 100000 in
theorem big5 (h1 : (rn : Int) ≤ 64) (h2 : (pn : Int) ≤ 1024) (h3 : (tn : Int) ≤ 1024) (h4 : (sn : Int) ≤ 1024) (h5 : (1024 : Int) < (en : Int)) : Calls Yba.prog 5 #[.agg #[.int .u8 md, .int .u8 a0, .int .u32 a1, .slice ra rn rc, .bool hp, .int .u8 pt, .slice pa pn pc, .slice ta tn tc, .slice sa sn sc, .slice ea en ec]] w fun e w' => e = .returned (.bool true) ∧ Below w.heap.size w w' := by
  go_enter Yba.func5, Yba.ntmps5
  go_wp2
  go_ret
  exact ⟨rfl, (Below.refl _ _).alloc (Nat.le_refl _) _⟩
end

theorem pt_of (n : Nat) : ∃ PT : Int, [(5 : Int), 2, 48, 4][n % 4]? = some PT :=
  ⟨_, List.getElem?_eq_getElem (by simp; omega)⟩
theorem ptj_of (n : Nat) (h : n < 256) : (IntKind.i64.wrap (n : Int)).tmod 4 = ((n % 4 : Nat) : Int) := by
  rw [IntKind.wrap_i64, show ((n : Int) + 9223372036854775808) % 18446744073709551616 - 9223372036854775808 = (n : Int) from by omega, Int.tmod_eq_emod_of_nonneg (by omega)]
  omega
theorem a1_lt (z r40 rbig : Nat) (h1 : r40 < 40) (h2 : rbig < 2147483568) (hz : z ≤ 2) : 40 * z + (if z < 2 then r40 else rbig) < 2147483648 := by
  split <;> omega
theorem a1_of (z r40 rbig : Nat) (h1 : r40 < 40) (h2 : rbig < 2147483568) : (if z < 2 then r40 else rbig) < 2147483648 := by
  split <;> omega

/-! ### STEP 1: THE WALK -/
theorem walk (md a0 a1 : Int) (ra pa ta sa ea : Option Addr) (rn rc pn pc tn tc sn sc en ec : Nat) (hp : Bool) (pt : Int) (w : World)
    (wmd : 0 ≤ md ∧ md ≤ 255) (wa0 : 0 ≤ a0 ∧ a0 ≤ 255) (wa1 : 0 ≤ a1 ∧ a1 ≤ 4294967295) (wpt : 0 ≤ pt ∧ pt ≤ 255)
    (rl : List Nat) (hrl : Src32 w ra rn rl ∧ ∀ x ∈ rl, x < 4294967296) (pl tl sl el : List Int) (hs : Src1 w pa pn pc (B pl) ∧ Src1 w ta tn tc (B tl) ∧ Src1 w sa sn sc (B sl) ∧ Src1 w ea en ec (B el)) :
    Calls Yba.prog 5 #[.agg #[.int .u8 md, .int .u8 a0, .int .u32 a1, .slice ra rn rc, .bool hp, .int .u8 pt, .slice pa pn pc, .slice ta tn tc, .slice sa sn sc, .slice ea en ec]] w fun e w' => e = .returned (.bool true) ∧ Below w.heap.size w w' := by
  by_cases h1 : (rn : Int) ≤ 64
  · by_cases h2 : (pn : Int) ≤ 1024
    · by_cases h3 : (tn : Int) ≤ 1024
      · by_cases h4 : (sn : Int) ≤ 1024
        · by_cases h5 : (en : Int) ≤ 1024
          · obtain ⟨md, rfl⟩ := Int.eq_ofNat_of_zero_le wmd.1
            obtain ⟨a0, rfl⟩ := Int.eq_ofNat_of_zero_le wa0.1
            obtain ⟨a1, rfl⟩ := Int.eq_ofNat_of_zero_le wa1.1
            obtain ⟨pt, rfl⟩ := Int.eq_ofNat_of_zero_le wpt.1
            obtain ⟨PT, hPT⟩ := pt_of pt
            have hz : a0 % 3 ≤ 2 := by omega
            have ha := a1_of (a0 % 3) (a1 % 40) (a1 % 2147483568) (by omega) (by omega)
            have hv := a1_lt (a0 % 3) (a1 % 40) (a1 % 2147483568) (by omega) (by omega) hz
            obtain ⟨A1, hA1⟩ : ∃ A1, A1 = if a0 % 3 < 2 then a1 % 40 else a1 % 2147483568 := ⟨_, rfl⟩
            rw [← hA1] at ha hv
            refine built md a0 a1 ra pa ta sa ea rn rc pn pc tn tc sn sc en ec hp pt w h1 h2 h3 h4 h5 wmd.2 (md % 5) (a0 % 3) (a1 % 40) (a1 % 2147483568) A1 (40 * (a0 % 3) + A1) (by omega) (by omega) (by omega) (by omega) (by omega) hA1 ?_ ?_ ?_ hv rl hrl PT (pt % 4) (ptj_of pt (by omega)) (by omega) ⟨rfl, hPT⟩ pl tl sl el hs
            · clear hA1; omega
            · unfold wrap64; clear hA1 hv; omega
            · refine ⟨by omega, hz, rfl, fun h => ?_⟩
              rw [hA1, if_pos h]; omega
          · exact big5 _ _ _ _ _ _ _ _ _ _ _ _ _ _ _ _ _ _ _ _ _ h1 h2 h3 h4 (by omega)
        · exact big4 _ _ _ _ _ _ _ _ _ _ _ _ _ _ _ _ _ _ _ _ _ h1 h2 h3 (by omega)
      · exact big3 _ _ _ _ _ _ _ _ _ _ _ _ _ _ _ _ _ _ _ _ _ h1 h2 (by omega)
    · exact big2 _ _ _ _ _ _ _ _ _ _ _ _ _ _ _ _ _ _ _ _ _ h1 (by omega)
  · exact big1 _ _ _ _ _ _ _ _ _ _ _ _ _ _ _ _ _ _ _ _ _ (by omega)

/-! ### The argument opened -/
section
variable {H : Type} {enc : TypeId × Value → H} {W : World} {fuel : Nat}
theorem bytes_in {v : Value} {y : DataW H × List MemPlace} (hf : DataW.trod enc Yba.prog W 0 (fun _ => true) true fuel 28 [v] = some y) : ∃ a n c l, v = .slice a n c ∧ Src1 W a n c (B l) := by
  rcases open_ints Yba.underlying28 Yba.underlying5 (by kernel_rfl) hf with ⟨hcs, _⟩ | ⟨x, n, c, zs, hcs, _, hl, hm, hz, _, hcell, hwz⟩
  · simp at hcs
    exact ⟨none, 0, 0, [], hcs, Src1.nil W⟩
  · simp at hcs
    simp at hz
    refine ⟨some x, n, c, zs.take n, hcs, ?_, B_one _, .inr ⟨x, rfl, fun j hj => ?_⟩⟩
    · rw [B_length, List.length_take]; omega
    · rw [hcell j (by omega), B_get _ j (by rw [List.length_take]; omega), List.getD_eq_getElem?_getD, List.getD_eq_getElem?_getD, List.getElem?_take, if_pos hj]
theorem u32s_in {v : Value} {y : DataW H × List MemPlace} (hf : DataW.trod enc Yba.prog W 0 (fun _ => true) true fuel 27 [v] = some y) : ∃ a n c l, v = .slice a n c ∧ Src32 W a n l ∧ ∀ x ∈ l, x < 4294967296 := by
  rcases open_ints Yba.underlying27 Yba.underlying26 (by kernel_rfl) hf with ⟨hcs, _⟩ | ⟨x, n, c, zs, hcs, _, hl, hm, hz, _, hcell, hwz⟩
  · simp at hcs
    exact ⟨none, 0, 0, [], hcs, ⟨rfl, fun j hj => by omega⟩, fun x hx => by cases hx⟩
  · simp at hcs
    simp at hz
    refine ⟨some x, n, c, (zs.take n).map Int.toNat, hcs, ⟨by rw [List.length_map, List.length_take]; omega, fun j hj => ?_⟩, fun u hu => ?_⟩
    · obtain ⟨b, off, rfl, hc⟩ := ints_at hcell (by omega)
      refine ⟨b, off, rfl, ?_⟩
      rw [hc j (by omega)]
      have hb := bounds_u32 (hwz (zs.getD j 0) (by
        rw [List.getD_eq_getElem?_getD, List.getElem?_eq_getElem (by omega)]; exact List.getElem_mem _))
      have e : ((((zs.take n).map Int.toNat).getD j 0 : Nat) : Int) = zs.getD j 0 := by
        rw [List.getD_eq_getElem?_getD, List.getElem?_map, List.getElem?_take, if_pos hj, List.getElem?_eq_getElem (by omega)]
        rw [List.getD_eq_getElem?_getD, List.getElem?_eq_getElem (by omega)] at hb ⊢
        simp only [Option.map_some, Option.getD_some] at hb ⊢
        omega
      rw [e]
    · obtain ⟨q, hq, rfl⟩ := List.mem_map.1 hu
      have hb := bounds_u32 (hwz q (List.mem_of_mem_take hq))
      omega
theorem array10 {α : Type} {cs : Array α} (h : cs.size = 10) : ∃ c0 c1 c2 c3 c4 c5 c6 c7 c8 c9, cs = #[c0, c1, c2, c3, c4, c5, c6, c7, c8, c9] := by
  obtain ⟨l⟩ := cs
  match l, h with
  | [c0, c1, c2, c3, c4, c5, c6, c7, c8, c9], _ => exact ⟨c0, c1, c2, c3, c4, c5, c6, c7, c8, c9, rfl⟩

theorem fld (c : List Value) {fs : Array Field} {t : TypeId} {x : DataW H × List MemPlace} (ht : Yba.prog.underlying t = some (.struct fs)) (h : DataW.trod enc Yba.prog W 0 (fun _ => true) true fuel t c = some x) (i : Nat) (f : Field) (hf : fs[i]? = some f) :
    ∃ m y, DataW.trod enc Yba.prog W 0 (fun _ => true) true m f.type ((c.drop f.offset).take (Yba.prog.cellsOf f.type)) = some y := by
  obtain ⟨xs, m, _, _, _, hl, hall⟩ := DataW.trod_struct ht h
  have := hall i f hf
  have hi : i < xs.length := by rw [hl]; exact (Array.getElem?_eq_some_iff.1 hf).1
  rw [List.getElem?_eq_getElem hi] at this
  exact ⟨m, _, this⟩
end
theorem cells30 : Yba.prog.cellsOf 30 = 10 := by kernel_rfl
theorem c5 : Yba.prog.cellsOf 5 = 1 := by kernel_rfl
theorem c26 : Yba.prog.cellsOf 26 = 1 := by kernel_rfl
theorem c27 : Yba.prog.cellsOf 27 = 1 := by kernel_rfl
theorem c4 : Yba.prog.cellsOf 4 = 1 := by kernel_rfl
theorem c28 : Yba.prog.cellsOf 28 = 1 := by kernel_rfl

theorem opened {H : Type} {enc : TypeId × Value → H} {W : World} {base : Nat} {v : Value} {d : DataW H} {p : List MemPlace} (hv : Value.okWide Yba.prog W .any base 30 v) (h : DataW.Trod enc Yba.prog W 0 (fun _ => true) true 30 v d p) :
    ∃ (md a0 a1 : Int) (ra pa ta sa ea : Option Addr) (rn rc pn pc tn tc sn sc en ec : Nat) (hp : Bool) (pt : Int) (rl : List Nat) (pl tl sl el : List Int),
      v = .agg #[.int .u8 md, .int .u8 a0, .int .u32 a1, .slice ra rn rc, .bool hp, .int .u8 pt, .slice pa pn pc, .slice ta tn tc, .slice sa sn sc, .slice ea en ec] ∧
      (0 ≤ md ∧ md ≤ 255) ∧ (0 ≤ a0 ∧ a0 ≤ 255) ∧ (0 ≤ a1 ∧ a1 ≤ 4294967295) ∧ (0 ≤ pt ∧ pt ≤ 255) ∧ (Src32 W ra rn rl ∧ ∀ x ∈ rl, x < 4294967296) ∧
      (Src1 W pa pn pc (B pl) ∧ Src1 W ta tn tc (B tl) ∧ Src1 W sa sn sc (B sl) ∧ Src1 W ea en ec (B el)) := by
  obtain ⟨cs, rfl, hsz⟩ := okWide_struct Yba.underlying30 hv
  obtain ⟨v0, v1, v2, v3, v4, v5, v6, v7, v8, v9, rfl⟩ := array10 (hsz.trans cells30)
  obtain ⟨fuel, hf⟩ := h
  have hf' : DataW.trod enc Yba.prog W 0 (fun _ => true) true fuel 30 [v0, v1, v2, v3, v4, v5, v6, v7, v8, v9] = some (d, p) := by simpa [Value.cells] using hf
  obtain ⟨m0, y0, h0⟩ := fld _ Yba.underlying30 hf' 0 _ rfl
  obtain ⟨m1, y1, h1⟩ := fld _ Yba.underlying30 hf' 1 _ rfl
  obtain ⟨m2, y2, h2⟩ := fld _ Yba.underlying30 hf' 2 _ rfl
  obtain ⟨m3, y3, h3⟩ := fld _ Yba.underlying30 hf' 3 _ rfl
  obtain ⟨m4, y4, h4⟩ := fld _ Yba.underlying30 hf' 4 _ rfl
  obtain ⟨m5, y5, h5⟩ := fld _ Yba.underlying30 hf' 5 _ rfl
  obtain ⟨m6, y6, h6⟩ := fld _ Yba.underlying30 hf' 6 _ rfl
  obtain ⟨m7, y7, h7⟩ := fld _ Yba.underlying30 hf' 7 _ rfl
  obtain ⟨m8, y8, h8⟩ := fld _ Yba.underlying30 hf' 8 _ rfl
  obtain ⟨m9, y9, h9⟩ := fld _ Yba.underlying30 hf' 9 _ rfl
  have g0 : DataW.trod enc Yba.prog W 0 (fun _ => true) true m0 5 [v0] = some y0 := by exact h0
  have g1 : DataW.trod enc Yba.prog W 0 (fun _ => true) true m1 5 [v1] = some y1 := by exact h1
  have g2 : DataW.trod enc Yba.prog W 0 (fun _ => true) true m2 26 [v2] = some y2 := by exact h2
  have g3 : DataW.trod enc Yba.prog W 0 (fun _ => true) true m3 27 [v3] = some y3 := by exact h3
  have g4 : DataW.trod enc Yba.prog W 0 (fun _ => true) true m4 4 [v4] = some y4 := by exact h4
  have g5 : DataW.trod enc Yba.prog W 0 (fun _ => true) true m5 5 [v5] = some y5 := by exact h5
  have g6 : DataW.trod enc Yba.prog W 0 (fun _ => true) true m6 28 [v6] = some y6 := by exact h6
  have g7 : DataW.trod enc Yba.prog W 0 (fun _ => true) true m7 28 [v7] = some y7 := by exact h7
  have g8 : DataW.trod enc Yba.prog W 0 (fun _ => true) true m8 28 [v8] = some y8 := by exact h8
  have g9 : DataW.trod enc Yba.prog W 0 (fun _ => true) true m9 28 [v9] = some y9 := by exact h9
  obtain ⟨md, e0, _, w0⟩ := DataW.trod_int Yba.underlying5 g0
  obtain ⟨a0, e1, _, w1⟩ := DataW.trod_int Yba.underlying5 g1
  obtain ⟨a1, e2, _, w2⟩ := DataW.trod_int Yba.underlying26 g2
  obtain ⟨ra, rn, rc, rl, e3, hrl⟩ := u32s_in g3
  obtain ⟨hp, e4, _⟩ := DataW.trod_bool Yba.underlying4 g4
  obtain ⟨pt, e5, _, w5⟩ := DataW.trod_int Yba.underlying5 g5
  obtain ⟨pa, pn, pc, pl, e6, hpl⟩ := bytes_in g6
  obtain ⟨ta, tn, tc, tl, e7, htl⟩ := bytes_in g7
  obtain ⟨sa, sn, sc, sl, e8, hsl⟩ := bytes_in g8
  obtain ⟨ea, en, ec, el, e9, hel⟩ := bytes_in g9
  simp only [List.cons.injEq, and_true] at e0 e1 e2 e4 e5
  subst e0 e1 e2 e3 e4 e5 e6 e7 e8 e9
  exact ⟨md, a0, a1, ra, pa, ta, sa, ea, rn, rc, pn, pc, tn, tc, sn, sc, en, ec, hp, pt, rl, pl, tl, sl, el, rfl, bounds_u8 w0, bounds_u8 w1, bounds_u32 w2, bounds_u8 w5, hrl, hpl, htl, hsl, hel⟩

/-! ### THE ROW's STEP -/
set_option maxRecDepth 100000 in
theorem lifted (os : Os) (started : os.Started) (H : Type) (enc : TypeId × Value → H) :
    ReturnsInHanded {} Yba.checked os 5 .any (Rows.lawS3702CBuiltSpec.pre6 enc Yba.prog Yba.f5 Rows.lawS3702CBuiltRow.domain false) (Rows.lawS3702CBuiltSpec.post enc Yba.prog Yba.f5 false true false false) := by
  refine returnsInHanded_of_change (C := Yba.checked) own started (by kernel_rfl) Yba.func5
    (ChangeSpec.witness6 (enc := enc) (C := Yba.checked) false ⟨#[], #[.agg #[.int .u8 0, .int .u8 0, .int .u32 0, .slice none 0 0, .bool false, .int .u8 0, .slice none 0 0, .slice none 0 0, .slice none 0 0, .slice none 0 0]], []⟩ 8 (by kernel_rfl) (by kernel_rfl) (by kernel_rfl) (by kernel_rfl)) ?_
  intro W base args ds gs before hval0 hW hcnd _
  have hval : ∀ (j : Nat) t v, Yba.f5.params[j]? = some t → args[j]? = some v → Value.okWide Yba.prog W .any base t v := hval0
  have hW' := hW
  obtain ⟨p, q, hA0, hV, rfl, hfz, hnd⟩ := hW
  have hA : DataW.TrodAll enc Yba.prog W 0 (fun _ => true) true Yba.f5.params.toList args.toList ds p := hA0
  rw [Yba.params5] at hA hval
  obtain ⟨v0, vs0, d0, ds0, p0, q0, hargs, rfl, rfl, h0, r0⟩ := trodAll_cons hA
  obtain ⟨rfl, rfl, rfl⟩ := trodAll_nil r0
  obtain rfl : args = #[v0] := by cases args; simp_all
  obtain ⟨rfl, rfl⟩ := trodVars_none hV
  have k0 := h0
  have lt0 : ∀ x ∈ p0, x.block < W.heap.size := by obtain ⟨m, hm⟩ := k0; exact DataW.trod_lt m _ _ _ hm
  obtain ⟨md, a0, a1, ra, pa, ta, sa, ea, rn, rc, pn, pc, tn, tc, sn, sc, en, ec, hp, pt, rl, pl, tl, sl, el, rfl, b0, b1, b2, b3, hrl, hs⟩ := opened (hval 0 30 v0 rfl rfl) h0
  clear hA0 hval0
  refine (walk md a0 a1 ra pa ta sa ea rn rc pn pc tn tc sn sc en ec hp pt W b0 b1 b2 b3 rl hrl pl tl sl el hs).mono fun e W' ⟨he, bel⟩ => ?_
  subst he
  exact ⟨_, rfl, _, _, _, [], _, [], hW', trodAll_mk1 (shut_bool Yba.underlying4 _), (trodAll_cons_mk (Below.trod laidOut (by kernel_rfl) (of_decide_eq_true (by kernel_rfl)) k0 bel lt0) trodAll_mk0), rfl, bel.frame _, fun h => by cases h⟩

theorem over : Rows.lawS3702CBuiltRow.holds Yba.pinned (OpenSpec.ofChange Rows.lawS3702CBuiltSpec) :=
  OpenClaim.holds_of_wide 5 Yba.f5 rfl rfl rfl rfl rfl rfl rfl ⟨rfl, rfl, rfl, rfl, rfl⟩ rfl rfl rfl rfl rfl (by kernel_rfl) Yba.func5 (by kernel_rfl)
    (of_decide_eq_true (by kernel_rfl)) (by unfold Func.isWrapper; first | (rw [if_pos (by decide +kernel)]; kernel_rfl) | (rw [if_neg (by decide +kernel)]; exact ⟨rfl, rfl⟩))
    (fun os started H enc _ => lifted os started H enc)

/-- THE STATEMENT -/
theorem proved : Rows.LawS3702CBuiltSaid := over
#print axioms proved
end Go.Proofs.Ybulkbxqk.lawS3702CBuilt
