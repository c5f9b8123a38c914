/-
  The proof of 'Rows.LawS3706CFormsSaid': the template's frame for a law that makes memory (the wrap that hands on the form's reach), the walk by hand.
-/
import Derived.Test.YbulkbxsoRows
import Derived.Test.YbulkbxsoForms
import Derived.Test.YbulkbxsoStrsIn
namespace Go.Proofs.Ybulkbxso.lawS3706CForms
open Go.ChangeShapes Go.WideShapes Go.ChangeAt Go.RowKit
set_option linter.unusedVariables false

theorem own : ownKnob Yba.prog.godebug = none := by kernel_rfl

set_option maxRecDepth 100000 in
theorem big (sel : Int) (ao : Option Addr) (n c : Nat) (w : World) (hn : (1024 : Int) < (n : Int)) :
    Calls Yba.prog 6 #[.int .u8 sel, .slice ao n c] w fun e w' => e = .returned (.bool true) ∧ Below w.heap.size w w' := by
  go_enter Yba.func6, Yba.ntmps6
  go_wp2
  go_ret
  exact ⟨rfl, Below.refl _ _⟩

theorem walk (sel : Int) (hb : 0 ≤ sel ∧ sel ≤ 255) (ao : Option Addr) (n c : Nat) (w : World) (ss : Nat → ByteArray) (hs : Strs w ao n ss) (hz : ∀ j, j < n → (((ss j).size : Nat) : Int) ≤ 140737488355328) :
    Calls Yba.prog 6 #[.int .u8 sel, .slice ao n c] w fun e w' => e = .returned (.bool true) ∧ Below w.heap.size w w' := by
  by_cases hn : (n : Int) ≤ 1024
  · have h3 : sel % 3 = 0 ∨ sel % 3 = 1 ∨ sel % 3 = 2 := by omega
    rcases h3 with h3 | h3 | h3
    · exact forms0 sel hb.1 hb.2 h3 ao n c ss w hs hn hz
    · exact forms1 sel hb.1 hb.2 h3 ao n c ss w hs hn hz
    · exact forms2 sel hb.1 hb.2 h3 ao n c ss w hs hn hz
  · exact big sel ao n c w (by omega)

/-! ### THE ROW's STEP -/
set_option maxRecDepth 100000 in
theorem lifted (os : Os) (started : os.Started) (H : Type) (enc : TypeId × Value → H) :
    ReturnsInHanded {} Yba.checked os 6 .any (Rows.lawS3706CFormsSpec.pre6 enc Yba.prog Yba.f6 Rows.lawS3706CFormsRow.domain false) (Rows.lawS3706CFormsSpec.post enc Yba.prog Yba.f6 false true false false) := by
  refine returnsInHanded_of_change_sized (C := Yba.checked) own started (by kernel_rfl) Yba.func6
    (ChangeSpec.witness6 (enc := enc) (C := Yba.checked) false ⟨#[], #[.int .u8 0, .slice none 0 0], []⟩ 8 (by kernel_rfl) (by kernel_rfl) (by kernel_rfl) (by kernel_rfl)) ?_
  intro W base args ds gs before hval0 hW hcnd hsz0 _
  have hval : ∀ (j : Nat) t v, Yba.f6.params[j]? = some t → args[j]? = some v → Value.okWide Yba.prog W .any base t v := hval0
  have hsz : (DataW.weightsEach Yba.prog (Yba.f6.params.toList ++ Rows.lawS3706CFormsSpec.plain.varTypes Yba.prog) (ds ++ gs)).all (· ≤ reachBytes) = true := hsz0
  have hW' := hW
  obtain ⟨p, q, hA0, hV, rfl, hfz, hnd⟩ := hW
  have hA : DataW.TrodAll enc Yba.prog W 0 (fun _ => true) true Yba.f6.params.toList args.toList ds p := hA0
  rw [Yba.params6] at hA hval hsz
  obtain ⟨v0, vs0, d0, ds0, p0, q0, hargs, rfl, rfl, h0, r0⟩ := trodAll_cons hA
  obtain ⟨v1, vs1, d1, ds1, p1, q1, rfl, rfl, rfl, h1, r1⟩ := trodAll_cons r0
  obtain ⟨rfl, rfl, rfl⟩ := trodAll_nil r1
  obtain rfl : args = #[v0, v1] := by cases args; simp_all
  obtain ⟨rfl, rfl⟩ := trodVars_none hV
  obtain ⟨a0, rfl, rfl, rfl, w0⟩ := open_int Yba.underlying5 (hval 0 5 v0 rfl rfl) h0
  obtain ⟨a1, len1, cap1, rfl⟩ := okWide_slice Yba.underlying39 (hval 1 39 v1 rfl rfl)
  have k1 := h1
  have lt1 : ∀ x ∈ p1, x.block < W.heap.size := by obtain ⟨m, hm⟩ := k1; exact DataW.trod_lt m _ _ _ hm
  obtain ⟨ss, hss, hzs⟩ := strs_in h1 (j := 1) hsz rfl rfl
  clear hA0 hval0
  refine (walk a0 (bounds_u8 w0) a1 len1 cap1 W ss hss hzs).mono fun e W' ⟨he, bel⟩ => ?_
  subst he
  exact ⟨_, rfl, _, _, _, [], _, [], hW', trodAll_mk1 (shut_bool Yba.underlying4 _), (trodAll_cons_mk (shut_int Yba.underlying5 w0) (trodAll_cons_mk (Below.trod laidOut (by kernel_rfl) (of_decide_eq_true (by kernel_rfl)) k1 bel lt1) trodAll_mk0)), rfl, bel.frame _, fun h => by cases h⟩

theorem over : Rows.lawS3706CFormsRow.holds Yba.pinned (OpenSpec.ofChange Rows.lawS3706CFormsSpec) :=
  OpenClaim.holds_of_wide 6 Yba.f6 rfl rfl rfl rfl rfl rfl rfl ⟨rfl, rfl, rfl, rfl, rfl⟩ rfl rfl rfl rfl rfl (by kernel_rfl) Yba.func6 (by kernel_rfl)
    (of_decide_eq_true (by kernel_rfl)) (by unfold Func.isWrapper; first | (rw [if_pos (by decide +kernel)]; kernel_rfl) | (rw [if_neg (by decide +kernel)]; exact ⟨rfl, rfl⟩))
    (fun os started H enc _ => lifted os started H enc)

/-- THE STATEMENT -/
theorem proved : Rows.LawS3706CFormsSaid := over
#print axioms proved
end Go.Proofs.Ybulkbxso.lawS3706CForms
