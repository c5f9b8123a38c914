/-
  The proof of 'Rows.LawS3712BClockSaid': the template's frame for a law that makes memory, two bytes, two slices, an array; the walk: YbulkbxvuV1.
-/
import Derived.Test.YbulkbxvuRows
import Derived.Test.YbulkbxvuV1
import Derived.Test.YbulkbxvuA0
namespace Go.Proofs.Ybulkbxvu.lawS3712BClock
open Go.ChangeShapes Go.WideShapes Go.ChangeAt Go.RowKit
set_option linter.unusedVariables false

theorem own : ownKnob Yba.prog.godebug = none := by kernel_rfl
theorem cl24 : Yba.prog.cellsOf 24 = 1 := by kernel_rfl
theorem cl25 : Yba.prog.cellsOf 25 = 3 := by kernel_rfl

theorem walk (ea sa : Option Addr) (ne ec nu sc : Nat) (a s r0 r1 r2 : Int) (W : World) (ha : 0 ≤ a ∧ a ≤ 255) (hs : 0 ≤ s ∧ s ≤ 255) (hr0 : -32768 ≤ r0 ∧ r0 ≤ 32767) (hr1 : -32768 ≤ r1 ∧ r1 ≤ 32767) (hr2 : -32768 ≤ r2 ∧ r2 ≤ 32767)
    (hE : ∃ eb eo E, EvA W eb eo ne E ∧ (0 < ne → ea = some ⟨eb, eo, none⟩)) (hB : ∃ sb so su, ByA W sb so nu su ∧ (0 < nu → sa = some ⟨sb, so, none⟩)) :
    Calls Yba.prog 3 #[.int .u8 a, .slice ea ne ec, .int .u8 s, .slice sa nu sc, .agg #[.int .i16 r0, .int .i16 r1, .int .i16 r2]] W fun e W' => e = .returned (.bool true) ∧ Below W.heap.size W W' := by
  obtain ⟨eb, eo, E, hE, hea⟩ := hE
  obtain ⟨sb, so, su, hB, hsa⟩ := hB
  by_cases h1 : (ne : Int) ≤ 512
  · by_cases h2 : (nu : Int) ≤ 512
    · obtain ⟨a', rfl⟩ : ∃ a' : Nat, a = (a' : Int) := ⟨a.toNat, by omega⟩
      obtain ⟨s', rfl⟩ : ∃ s' : Nat, s = (s' : Int) := ⟨s.toNat, by omega⟩
      exact Ck.law_walk W ea sa eb eo ne ec E sb so nu sc su a' s' r0 r1 r2 (by omega) (by omega) hr0 hr1 hr2 hE hB hea hsa (by omega) (by omega)
    · exact Ck.big2 W ea sa ne ec nu sc a s r0 r1 r2 h1 (by omega)
  · exact Ck.big1 W ea sa ne ec nu sc a s r0 r1 r2 (by omega)
theorem list3 (l : List Value) (h : l.length = 3) : ∃ a b c, l = [a, b, c] := by
  match l, h with
  | [a, b, c], _ => exact ⟨a, b, c, rfl⟩
set_option maxRecDepth 100000 in
/-- The array argument. -/
theorem arr_in {H : Type} {enc : TypeId × Value → H} {W : World} {base : Nat} {v : Value} {d : DataW H} {p : List MemPlace} (hv : Value.okWide Yba.prog W .any base 25 v) (h : DataW.Trod enc Yba.prog W 0 (fun _ => true) true 25 v d p) :
    ∃ r0 r1 r2 : Int, v = .agg #[.int .i16 r0, .int .i16 r1, .int .i16 r2] ∧ (-32768 ≤ r0 ∧ r0 ≤ 32767) ∧ (-32768 ≤ r1 ∧ r1 ≤ 32767) ∧ (-32768 ≤ r2 ∧ r2 ≤ 32767) := by
  obtain ⟨cs, rfl, hsz, _⟩ : ∃ cs, v = .agg cs ∧ cs.size = Yba.prog.cellsOf 25 ∧ Row.okWide Yba.prog W .any base 25 cs := by
    simpa [Value.okWide, Yba.underlying25] using hv
  rw [cl25] at hsz
  obtain ⟨l⟩ := cs
  obtain ⟨c0, c1, c2, rfl⟩ := list3 l hsz
  obtain ⟨fuel, hf⟩ := h
  obtain ⟨y0, y1, y2, m, hx, hy0, hy1, hy2⟩ := trod_array3 Yba.underlying25 cl24 hf
  obtain ⟨x0, e0, -, w0⟩ := DataW.trod_int Yba.underlying24 hy0
  obtain ⟨x1, e1, -, w1⟩ := DataW.trod_int Yba.underlying24 hy1
  obtain ⟨x2, e2, -, w2⟩ := DataW.trod_int Yba.underlying24 hy2
  simp only [List.cons.injEq, and_true] at e0 e1 e2
  subst e0 e1 e2
  exact ⟨x0, x1, x2, rfl, bounds_i16 w0, bounds_i16 w1, bounds_i16 w2⟩

/-! ### THE ROW's STEP -/
set_option maxRecDepth 100000 in
theorem lifted (os : Os) (started : os.Started) (H : Type) (enc : TypeId × Value → H) :
    ReturnsInHanded {} Yba.checked os 3 .any (Rows.lawS3712BClockSpec.pre6 enc Yba.prog Yba.f3 Rows.lawS3712BClockRow.domain false) (Rows.lawS3712BClockSpec.post enc Yba.prog Yba.f3 false true false false) := by
  refine returnsInHanded_of_change (C := Yba.checked) own started (by kernel_rfl) Yba.func3
    (ChangeSpec.witness6 (enc := enc) (C := Yba.checked) false ⟨#[], #[.int .u8 0, .slice none 0 0, .int .u8 0, .slice none 0 0, .agg #[.int .i16 0, .int .i16 0, .int .i16 0]], []⟩ 8 (by kernel_rfl) (by kernel_rfl) (by kernel_rfl) (by kernel_rfl)) ?_
  intro W base args ds gs before hval0 hW hcnd _
  have hval : ∀ (j : Nat) t v, Yba.f3.params[j]? = some t → args[j]? = some v → Value.okWide Yba.prog W .any base t v := hval0
  have hW' := hW
  obtain ⟨p, q, hA0, hV, rfl, hfz, hnd⟩ := hW
  have hA : DataW.TrodAll enc Yba.prog W 0 (fun _ => true) true Yba.f3.params.toList args.toList ds p := hA0
  rw [Yba.params3] at hA hval
  obtain ⟨v0, vs0, d0, ds0, p0, q0, hargs, rfl, rfl, h0, r0⟩ := trodAll_cons hA
  obtain ⟨v1, vs1, d1, ds1, p1, q1, rfl, rfl, rfl, h1, r1⟩ := trodAll_cons r0
  obtain ⟨v2, vs2, d2, ds2, p2, q2, rfl, rfl, rfl, h2, r2⟩ := trodAll_cons r1
  obtain ⟨v3, vs3, d3, ds3, p3, q3, rfl, rfl, rfl, h3, r3⟩ := trodAll_cons r2
  obtain ⟨v4, vs4, d4, ds4, p4, q4, rfl, rfl, rfl, h4, r4⟩ := trodAll_cons r3
  obtain ⟨rfl, rfl, rfl⟩ := trodAll_nil r4
  obtain rfl : args = #[v0, v1, v2, v3, v4] := by cases args; simp_all
  obtain ⟨rfl, rfl⟩ := trodVars_none hV
  have k0 := h0
  have k1 := h1
  have k2 := h2
  have k3 := h3
  have k4 := h4
  have lt0 : ∀ x ∈ p0, x.block < W.heap.size := by obtain ⟨m, hm⟩ := k0; exact DataW.trod_lt m _ _ _ hm
  have lt1 : ∀ x ∈ p1, x.block < W.heap.size := by obtain ⟨m, hm⟩ := k1; exact DataW.trod_lt m _ _ _ hm
  have lt2 : ∀ x ∈ p2, x.block < W.heap.size := by obtain ⟨m, hm⟩ := k2; exact DataW.trod_lt m _ _ _ hm
  have lt3 : ∀ x ∈ p3, x.block < W.heap.size := by obtain ⟨m, hm⟩ := k3; exact DataW.trod_lt m _ _ _ hm
  have lt4 : ∀ x ∈ p4, x.block < W.heap.size := by obtain ⟨m, hm⟩ := k4; exact DataW.trod_lt m _ _ _ hm
  obtain ⟨a, ea, b0⟩ : ∃ a, v0 = .int .u8 a ∧ (0 ≤ a ∧ a ≤ 255) := by
    obtain ⟨a, rfl, _, _, w⟩ := open_int Yba.underlying5 (hval 0 5 v0 rfl rfl) h0
    exact ⟨a, rfl, bounds_u8 w⟩
  obtain ⟨s, es, b2⟩ : ∃ s, v2 = .int .u8 s ∧ (0 ≤ s ∧ s ≤ 255) := by
    obtain ⟨a, rfl, _, _, w⟩ := open_int Yba.underlying5 (hval 2 5 v2 rfl rfl) h2
    exact ⟨a, rfl, bounds_u8 w⟩
  subst ea es
  obtain ⟨a1, len1, cap1, rfl⟩ := okWide_slice Yba.underlying22 (hval 1 22 v1 rfl rfl)
  obtain ⟨a3, len3, cap3, rfl⟩ := okWide_slice Yba.underlying23 (hval 3 23 v3 rfl rfl)
  obtain ⟨x0, x1, x2, rfl, b40, b41, b42⟩ := arr_in (hval 4 25 v4 rfl rfl) h4
  clear hA0 hval0
  refine (walk a1 a3 len1 cap1 len3 cap3 a s x0 x1 x2 W b0 b2 b40 b41 b42 (evs_in h1) (bytes_in h3)).mono fun e W' ⟨he, bel⟩ => ?_
  subst he
  exact ⟨_, rfl, _, _, _, [], _, [], hW', trodAll_mk1 (shut_bool Yba.underlying4 _), (trodAll_cons_mk (Below.trod laidOut (by kernel_rfl) (of_decide_eq_true (by kernel_rfl)) k0 bel lt0) (trodAll_cons_mk (Below.trod laidOut (by kernel_rfl) (of_decide_eq_true (by kernel_rfl)) k1 bel lt1) (trodAll_cons_mk (Below.trod laidOut (by kernel_rfl) (of_decide_eq_true (by kernel_rfl)) k2 bel lt2) (trodAll_cons_mk (Below.trod laidOut (by kernel_rfl) (of_decide_eq_true (by kernel_rfl)) k3 bel lt3) (trodAll_cons_mk (Below.trod laidOut (by kernel_rfl) (of_decide_eq_true (by kernel_rfl)) k4 bel lt4) trodAll_mk0))))), rfl, bel.frame _, fun h => by cases h⟩

theorem over : Rows.lawS3712BClockRow.holds Yba.pinned (OpenSpec.ofChange Rows.lawS3712BClockSpec) :=
  OpenClaim.holds_of_wide 3 Yba.f3 rfl rfl rfl rfl rfl rfl rfl ⟨rfl, rfl, rfl, rfl, rfl⟩ rfl rfl rfl rfl rfl (by kernel_rfl) Yba.func3 (by kernel_rfl)
    (of_decide_eq_true (by kernel_rfl)) (by unfold Func.isWrapper; first | (rw [if_pos (by decide +kernel)]; kernel_rfl) | (rw [if_neg (by decide +kernel)]; exact ⟨rfl, rfl⟩))
    (fun os started H enc _ => lifted os started H enc)

/-- THE STATEMENT -/
theorem proved : Rows.LawS3712BClockSaid := over
#print axioms proved
end Go.Proofs.Ybulkbxvu.lawS3712BClock
