/-
  The proof of 'Rows.LawS3712BReverseSaid': the template's frame for a law that makes memory, two slices; the walk: YbulkbxvuL0.
-/
import Derived.Test.YbulkbxvuRows
import Derived.Test.YbulkbxvuL0
import Derived.Test.YbulkbxvuA0
namespace Go.Proofs.Ybulkbxvu.lawS3712BReverse
open Go.ChangeShapes Go.WideShapes Go.ChangeAt Go.RowKit
set_option linter.unusedVariables false

theorem own : ownKnob Yba.prog.godebug = none := by kernel_rfl

theorem walk (ea sa : Option Addr) (ne ec nu sc : Nat) (W : World) (hE : ∃ eb eo E, EvA W eb eo ne E ∧ (0 < ne → ea = some ⟨eb, eo, none⟩)) (hB : ∃ sb so su, ByA W sb so nu su ∧ (0 < nu → sa = some ⟨sb, so, none⟩)) :
    Calls Yba.prog 4 #[.slice ea ne ec, .slice sa nu sc] W fun e W' => e = .returned (.bool true) ∧ Below W.heap.size W W' := by
  obtain ⟨eb, eo, E, hE, hea⟩ := hE
  obtain ⟨sb, so, su, hB, hsa⟩ := hB
  by_cases h1 : (ne : Int) ≤ 512
  · by_cases h2 : (nu : Int) ≤ 512
    · exact law_walk W ea sa eb eo ne ec E sb so nu sc su hE hB hea hsa (by omega) (by omega)
    · exact big2 W ea sa ne ec nu sc h1 (by omega)
  · exact big1 W ea sa ne ec nu sc (by omega)

/-! ### THE ROW's STEP -/
set_option maxRecDepth 100000 in
theorem lifted (os : Os) (started : os.Started) (H : Type) (enc : TypeId × Value → H) :
    ReturnsInHanded {} Yba.checked os 4 .any (Rows.lawS3712BReverseSpec.pre6 enc Yba.prog Yba.f4 Rows.lawS3712BReverseRow.domain false) (Rows.lawS3712BReverseSpec.post enc Yba.prog Yba.f4 false true false false) := by
  refine returnsInHanded_of_change (C := Yba.checked) own started (by kernel_rfl) Yba.func4
    (ChangeSpec.witness6 (enc := enc) (C := Yba.checked) false ⟨#[], #[.slice none 0 0, .slice none 0 0], []⟩ 8 (by kernel_rfl) (by kernel_rfl) (by kernel_rfl) (by kernel_rfl)) ?_
  intro W base args ds gs before hval0 hW hcnd _
  have hval : ∀ (j : Nat) t v, Yba.f4.params[j]? = some t → args[j]? = some v → Value.okWide Yba.prog W .any base t v := hval0
  have hW' := hW
  obtain ⟨p, q, hA0, hV, rfl, hfz, hnd⟩ := hW
  have hA : DataW.TrodAll enc Yba.prog W 0 (fun _ => true) true Yba.f4.params.toList args.toList ds p := hA0
  rw [Yba.params4] at hA hval
  obtain ⟨v0, vs0, d0, ds0, p0, q0, hargs, rfl, rfl, h0, r0⟩ := trodAll_cons hA
  obtain ⟨v1, vs1, d1, ds1, p1, q1, rfl, rfl, rfl, h1, r1⟩ := trodAll_cons r0
  obtain ⟨rfl, rfl, rfl⟩ := trodAll_nil r1
  obtain rfl : args = #[v0, v1] := by cases args; simp_all
  obtain ⟨rfl, rfl⟩ := trodVars_none hV
  obtain ⟨a0, len0, cap0, rfl⟩ := okWide_slice Yba.underlying22 (hval 0 22 v0 rfl rfl)
  obtain ⟨a1, len1, cap1, rfl⟩ := okWide_slice Yba.underlying23 (hval 1 23 v1 rfl rfl)
  have k0 := h0
  have k1 := h1
  have lt0 : ∀ x ∈ p0, x.block < W.heap.size := by obtain ⟨m, hm⟩ := k0; exact DataW.trod_lt m _ _ _ hm
  have lt1 : ∀ x ∈ p1, x.block < W.heap.size := by obtain ⟨m, hm⟩ := k1; exact DataW.trod_lt m _ _ _ hm
  clear hA0 hval0
  refine (walk a0 a1 len0 cap0 len1 cap1 W (evs_in h0) (bytes_in h1)).mono fun e W' ⟨he, bel⟩ => ?_
  subst he
  exact ⟨_, rfl, _, _, _, [], _, [], hW', trodAll_mk1 (shut_bool Yba.underlying4 _), (trodAll_cons_mk (Below.trod laidOut (by kernel_rfl) (of_decide_eq_true (by kernel_rfl)) k0 bel lt0) (trodAll_cons_mk (Below.trod laidOut (by kernel_rfl) (of_decide_eq_true (by kernel_rfl)) k1 bel lt1) trodAll_mk0)), rfl, bel.frame _, fun h => by cases h⟩

theorem over : Rows.lawS3712BReverseRow.holds Yba.pinned (OpenSpec.ofChange Rows.lawS3712BReverseSpec) :=
  OpenClaim.holds_of_wide 4 Yba.f4 rfl rfl rfl rfl rfl rfl rfl ⟨rfl, rfl, rfl, rfl, rfl⟩ rfl rfl rfl rfl rfl (by kernel_rfl) Yba.func4 (by kernel_rfl)
    (of_decide_eq_true (by kernel_rfl)) (by unfold Func.isWrapper; first | (rw [if_pos (by decide +kernel)]; kernel_rfl) | (rw [if_neg (by decide +kernel)]; exact ⟨rfl, rfl⟩))
    (fun os started H enc _ => lifted os started H enc)

/-- THE STATEMENT -/
theorem proved : Rows.LawS3712BReverseSaid := over
#print axioms proved
end Go.Proofs.Ybulkbxvu.lawS3712BReverse
