/-
  The proof of 'Rows.LawS3706CWriteSaid': the template's frame for a law that makes memory (the wrap that hands on the form's reach), the walk by hand.
-/
import Derived.Test.YbulkbxsoRows
import Derived.Test.YbulkbxsoWrite2
import Derived.Test.YbulkbxsoStrsIn
namespace Go.Proofs.Ybulkbxso.lawS3706CWrite
open Go.ChangeShapes Go.WideShapes Go.ChangeAt Go.RowKit
set_option linter.unusedVariables false

theorem own : ownKnob Yba.prog.godebug = none := by kernel_rfl

set_option maxRecDepth 100000 in
theorem big (ao : Option Addr) (n c : Nat) (w : World) (hn : (1024 : Int) < (n : Int)) :
    Calls Yba.prog 5 #[.slice ao n c] w fun e w' => e = .returned (.bool true) ∧ Below w.heap.size w w' := by
  go_enter Yba.func5, Yba.ntmps5
  go_wp2
  go_ret
  exact ⟨rfl, Below.refl _ _⟩

/-- The log as the law reads it. -/
theorem log_form {w wr : World} {L n : Nat} {ss : Nat → ByteArray} {lv : Value} (h : AtK w wr L n ss lv n) :
    ∃ ao c, lv = .slice ao n c ∧ ∀ j : Nat, (j : Int) < (n : Int) → ∃ g, ao = some ⟨g, 0, none⟩ ∧ wr.cell? ⟨g, j, none⟩ = some (.int .i64 (j : Int)) := by
  rcases h.log.2 with ⟨hv, hn⟩ | ⟨g, cap, cur, hv, _⟩
  · subst hn; exact ⟨none, 0, hv, fun j hj => by omega⟩
  · refine ⟨_, _, hv, fun j hj => ⟨g, rfl, ?_⟩⟩
    have hl := h.log
    rw [hv] at hl
    rw [hl.cellAt j (by omega), I_get _ j (by rw [ints_length]; omega)]
    simp [ints, show j < n from by omega]

set_option maxHeartbeats 2000000 in
set_option maxRecDepth 100000 in
theorem small (ao : Option Addr) (n c : Nat) (w : World) (ss : Nat → ByteArray) (hs : Strs w ao n ss) (hn : (n : Int) ≤ 1024) (hz : ∀ j, j < n → (((ss j).size : Nat) : Int) ≤ 140737488355328) :
    Calls Yba.prog 5 #[.slice ao n c] w fun e w' => e = .returned (.bool true) ∧ Below w.heap.size w w' := by
  have HC := build_any ao n c ss w hs hn
  have HS : Hid (Strs w ao n ss) := hs
  have HZ : Hid (∀ j, j < n → (((ss j).size : Nat) : Int) ≤ 140737488355328) := hz
  clear hs hz
  go_enter Yba.func5, Yba.ntmps5
  go_wp2_with (go_at_call 16; refine HC.mono ?_; rintro e w1 ⟨g, rfl, hown, hbel⟩)
  have HE := each_write w.heap.size g n w1.heap.size ss (w1.alloc (.cells #[.slice none 0 0] 43)) hn HZ.out (hown.alloc _) (own_lt hown).2 (heap_alloc_new w1 _)
  simp only [World.size_alloc] at HE
  refine HE.mono ?_
  rintro e w2 ⟨rfl, lv, hat⟩
  obtain ⟨lo, lc, rfl, hlog⟩ := log_form hat
  have hcl : w2.cell? ⟨w1.heap.size, 0, none⟩ = some (.slice lo n lc) := cell_of_one hat.var
  have q1 := fun w => Lib.run_eql_slice_nil (P := Yba.prog) w 39 9 (some ⟨w1.heap.size + 1, 0, none⟩) n n 0 0 Yba.underlying39
  have HA : Hid (AtK (w1.alloc (.cells #[.slice none 0 0] 43)) w2 w1.heap.size n ss (.slice lo n lc) n) := hat
  have HLg : Hid (∀ j : Nat, (j : Int) < (n : Int) → ∃ g, lo = some ⟨g, 0, none⟩ ∧ w2.cell? ⟨g, j, none⟩ = some (.int .i64 (j : Int))) := hlog
  have HB : Hid (Below w.heap.size w w2) := hbel.trans (((Below.refl w.heap.size w1).alloc hbel.size _).trans (hat.bel.mono hbel.size))
  clear hat hlog hown hbel HC HE
  go_wp2
  go_loopw [7] (fun ix wr => ∃ k m : Nat, k ≤ n ∧ ix = .int .i64 k ∧ wr = w2.drewN m) (fun ix _ => n - (intOf ix).toNat)
  case atStart => exact ⟨0, 0, Nat.zero_le _, rfl, rfl⟩
  case round =>
    obtain ⟨k, m, hk, rfl, rfl⟩ := hrel
    by_cases hlt : (k : Int) < (n : Int)
    · obtain ⟨b, off, rfl, hci⟩ := HS.out.at HB.out k (by omega)
      obtain ⟨lg, rfl, hcl2⟩ := HLg.out k hlt
      have hct : w2.cell? ⟨w1.heap.size + 1, k, none⟩ = some (.string ((⟨#[60]⟩ : ByteArray) ++ ss k)) := by
        have ht := HA.out.texts
        rw [World.size_alloc] at ht
        rw [ht.cellAt k (by omega), upto_get _ _ _ _ _ (by omega), if_pos (by omega)]
      have hzk := HZ.out k (by omega)
      go_wp2
      go_quiet (fail)
      go_wp2
      go_roundw
      case rel => exact ⟨k + 1, _, by omega, by go_num, rfl⟩
      case measure => simp [intOf]; omega
    · go_wp2
      go_ret
      exact ⟨rfl, HB.out.trans ⟨rfl, rfl, rfl, Nat.le_refl _, fun _ _ => rfl⟩⟩

theorem walk (ao : Option Addr) (n c : Nat) (w : World) (ss : Nat → ByteArray) (hs : Strs w ao n ss) (hz : ∀ j, j < n → (((ss j).size : Nat) : Int) ≤ 140737488355328) :
    Calls Yba.prog 5 #[.slice ao n c] w fun e w' => e = .returned (.bool true) ∧ Below w.heap.size w w' := by
  by_cases hn : (n : Int) ≤ 1024
  · exact small ao n c w ss hs hn hz
  · exact big ao n c w (by omega)

/-! ### THE ROW's STEP -/
set_option maxRecDepth 100000 in
theorem lifted (os : Os) (started : os.Started) (H : Type) (enc : TypeId × Value → H) :
    ReturnsInHanded {} Yba.checked os 5 .any (Rows.lawS3706CWriteSpec.pre6 enc Yba.prog Yba.f5 Rows.lawS3706CWriteRow.domain false) (Rows.lawS3706CWriteSpec.post enc Yba.prog Yba.f5 false true false false) := by
  refine returnsInHanded_of_change_sized (C := Yba.checked) own started (by kernel_rfl) Yba.func5
    (ChangeSpec.witness6 (enc := enc) (C := Yba.checked) false ⟨#[], #[.slice none 0 0], []⟩ 8 (by kernel_rfl) (by kernel_rfl) (by kernel_rfl) (by kernel_rfl)) ?_
  intro W base args ds gs before hval0 hW hcnd hsz0 _
  have hval : ∀ (j : Nat) t v, Yba.f5.params[j]? = some t → args[j]? = some v → Value.okWide Yba.prog W .any base t v := hval0
  have hsz : (DataW.weightsEach Yba.prog (Yba.f5.params.toList ++ Rows.lawS3706CWriteSpec.plain.varTypes Yba.prog) (ds ++ gs)).all (· ≤ reachBytes) = true := hsz0
  have hW' := hW
  obtain ⟨p, q, hA0, hV, rfl, hfz, hnd⟩ := hW
  have hA : DataW.TrodAll enc Yba.prog W 0 (fun _ => true) true Yba.f5.params.toList args.toList ds p := hA0
  rw [Yba.params5] at hA hval hsz
  obtain ⟨v0, vs0, d0, ds0, p0, q0, hargs, rfl, rfl, h0, r0⟩ := trodAll_cons hA
  obtain ⟨rfl, rfl, rfl⟩ := trodAll_nil r0
  obtain rfl : args = #[v0] := by cases args; simp_all
  obtain ⟨rfl, rfl⟩ := trodVars_none hV
  obtain ⟨a0, len0, cap0, rfl⟩ := okWide_slice Yba.underlying39 (hval 0 39 v0 rfl rfl)
  have k0 := h0
  have lt0 : ∀ x ∈ p0, x.block < W.heap.size := by obtain ⟨m, hm⟩ := k0; exact DataW.trod_lt m _ _ _ hm
  obtain ⟨ss, hss, hzs⟩ := strs_in h0 (j := 0) hsz rfl rfl
  clear hA0 hval0
  refine (walk a0 len0 cap0 W ss hss hzs).mono fun e W' ⟨he, bel⟩ => ?_
  subst he
  exact ⟨_, rfl, _, _, _, [], _, [], hW', trodAll_mk1 (shut_bool Yba.underlying4 _), (trodAll_cons_mk (Below.trod laidOut (by kernel_rfl) (of_decide_eq_true (by kernel_rfl)) k0 bel lt0) trodAll_mk0), rfl, bel.frame _, fun h => by cases h⟩

theorem over : Rows.lawS3706CWriteRow.holds Yba.pinned (OpenSpec.ofChange Rows.lawS3706CWriteSpec) :=
  OpenClaim.holds_of_wide 5 Yba.f5 rfl rfl rfl rfl rfl rfl rfl ⟨rfl, rfl, rfl, rfl, rfl⟩ rfl rfl rfl rfl rfl (by kernel_rfl) Yba.func5 (by kernel_rfl)
    (of_decide_eq_true (by kernel_rfl)) (by unfold Func.isWrapper; first | (rw [if_pos (by decide +kernel)]; kernel_rfl) | (rw [if_neg (by decide +kernel)]; exact ⟨rfl, rfl⟩))
    (fun os started H enc _ => lifted os started H enc)

/-- THE STATEMENT -/
theorem proved : Rows.LawS3706CWriteSaid := over
#print axioms proved
end Go.Proofs.Ybulkbxso.lawS3706CWrite
