/-
  A region that draws its order, whose last operation z is a store: what S says is kept behind every operation but z (after the kit's OrdersHeld).
-/
import Derived.OrdersHeld
import Derived.StillTail
import Derived.Deep.RegionHeld3
namespace Go.Proofs.Ybulkbxvu
open Go
section
variable {P : Program} {ops : Array Oper} {Q : Exit → Act → World → Prop} {md : Region.Mode} {S : World → Prop} {z : Nat}
/-- S is kept behind all but z. -/
def anyBut (P : Program) (md : Region.Mode) (ops : Array Oper) (Q : Exit → Act → World → Prop) (S : World → Prop) (z : Nat) : Nat → Array Bool → Act → World → Prop
  | 0, listed, a, w => Region.ready md ops listed = [] ∧ Q .normal a w
  | fuel + 1, listed, a, w =>
    (Region.ready md ops listed = [] → Q .normal a w) ∧
    ∀ i ∈ Region.ready md ops listed, wpOp P ops Q i (fun a' w' => (i ≠ z → S w') ∧ anyBut P md ops Q S z fuel (listed.setIfInBounds i true) a' w') a w
theorem anyBut.plain : ∀ (fuel : Nat) (listed : Array Bool) (a : Act) (w : World), anyBut P md ops Q S z fuel listed a w → wpAny P md ops Q fuel listed a w
  | 0, _, _, _, h => h
  | fuel + 1, _, _, _, h => ⟨h.1, fun i hi => wpOp_mono (fun a' w' h' => anyBut.plain fuel _ a' w' h'.2) (h.2 i hi)⟩
theorem anyBut.first {i : Nat} {oi : Oper} {v : Value} (hi : ops[i]? = some oi) (hsel : ∀ (j : Nat) (o : Oper) cs b, ops[j]? = some o → o.op ≠ .select cs b)
    (hQ : ∀ c a w, Q (.panic c) (a.put oi.dst v) w → Q (.panic c) a w) (hz : Region.waitsFor md ops z i = true) (hzi : i ≠ z) :
    ∀ (fuel : Nat) (listed : Array Bool) (a : Act) (w : World),
      (∀ j oj, ops[j]? = some oj → j ≠ i → listed.getD j true = false → (∀ e ∈ oj.after, Region.binds md e = true → e.on ≠ i) → oi.apart ops oj = true) →
      i ∈ Region.ready md ops listed → YieldsIf P ops S oi v a → S w →
      anyBut P md ops Q S z fuel (listed.setIfInBounds i true) (a.put oi.dst v) w → anyBut P md ops Q S z (fuel + 1) listed a w := by
  have notyet : ∀ {listed : Array Bool} {j : Nat}, i ∈ Region.ready md ops listed → j ∈ Region.ready md ops listed → ∀ oj, ops[j]? = some oj → ∀ e ∈ oj.after, Region.binds md e = true → e.on ≠ i := by
    intro listed j hr hj oj hoj e he hb heq
    obtain ⟨_, o', ho', hall⟩ := mem_ready.1 hj
    rw [hoj] at ho'; cases ho'
    have h1 := hall e he hb
    have h0 := (mem_ready.1 hr).1
    rw [heq] at h1
    rcases Nat.lt_or_ge i listed.size with h' | h'
    · simp [h'] at h0 h1; rw [h0] at h1; cases h1
    · simp [Array.getElem?_eq_none h'] at h1
  have notz : ∀ {listed : Array Bool} {j : Nat}, i ∈ Region.ready md ops listed → j ∈ Region.ready md ops listed → j ≠ z := by
    intro listed j hr hj e
    subst e
    obtain ⟨oz, hoz, e, he, hb, hon⟩ := Region.waitsFor_spec hz
    exact notyet hr hj oz hoz e he hb hon
  intro fuel
  induction fuel with
  | zero =>
    intro listed a w _ hr hy hS H
    refine ⟨fun h => (by rw [h] at hr; cases hr), fun j hj => ?_⟩
    by_cases hji : j = i
    · subst hji; exact hy.wpOp hi hS ⟨fun _ => hS, H⟩
    · have := ready_mono hj hji
      rw [H.1] at this
      cases this
  | succ fuel ih =>
    intro listed a w hfree hr hy hS H
    refine ⟨fun h => (by rw [h] at hr; cases hr), fun j hj => ?_⟩
    by_cases hji : j = i
    · subst hji; exact hy.wpOp hi hS ⟨fun _ => hS, H⟩
    · have h1 := H.2 j (ready_mono hj hji)
      obtain ⟨hjun, oj, hoj, hall⟩ := mem_ready.1 hj
      have h2 := wpOp_putIf hoj (hfree j oj hoj hji hjun (notyet hr hj oj hoj)) (fun cs b => hsel i oi cs b hi) (fun cs b => hsel j oj cs b hoj) hQ hy h1
      have hjz : j ≠ z := notz hr hj
      have hfree' : ∀ k ok, ops[k]? = some ok → k ≠ i → (listed.setIfInBounds j true).getD k true = false →
          (∀ e ∈ ok.after, Region.binds md e = true → e.on ≠ i) → oi.apart ops ok = true := fun k ok hk hki hun hno => by
        refine hfree k ok hk hki ?_ hno
        by_cases hjk : j = k
        · subst hjk; exact hjun
        · rw [getD_set_ne true hjk] at hun; exact hun
      refine wpOp_mono (fun a' w' h3 => ⟨fun _ => h3.2.1 hjz, ih (listed.setIfInBounds j true) a' w' hfree' (ready_mono hr (Ne.symm hji)) h3.1 (h3.2.1 hjz) ?_⟩) h2
      rw [Array.setIfInBounds_comm _ _ hji]
      exact h3.2.2
/-- Take i first. -/
theorem anyBut.take {i : Nat} {oi : Oper} {v : Value} {fuel : Nat} {listed : Array Bool} {a : Act} {w : World} (hi : ops[i]? = some oi)
    (hs : Region.noSelect ops = true) (hf : Region.free md ops listed i = true) (hr : (Region.ready md ops listed).contains i = true) (hz : Region.waitsFor md ops z i = true) (hzi : (i == z) = false)
    (hQ : ∀ c a w, Q (.panic c) (a.put oi.dst v) w → Q (.panic c) a w) (hy : YieldsIf P ops S oi v a) (hS : S w)
    (h : anyBut P md ops Q S z fuel (listed.setIfInBounds i true) (a.put oi.dst v) w) : anyBut P md ops Q S z (fuel + 1) listed a w :=
  anyBut.first hi (Region.noSelect_spec hs) hQ hz (by simpa using hzi) fuel listed a w (Region.free_spec hi hf) (by simpa using hr) hy hS h
/-- Only i can come up. -/
theorem anyBut.one {i : Nat} {oi : Oper} {fuel : Nat} {listed : Array Bool} {a : Act} {w : World} (hi : ops[i]? = some oi) (hr : Region.ready md ops listed = [i]) (hw : Region.wanted oi (yielded ops a.tmps) = true)
    (h : ∀ K : Act → World → Prop, (∀ a' w', (i ≠ z → S w') → anyBut P md ops Q S z fuel (listed.setIfInBounds i true) a' w' → K a' w') → Oper.wp P oi a w K Q) : anyBut P md ops Q S z (fuel + 1) listed a w := by
  refine ⟨fun h0 => (by rw [hr] at h0; cases h0), fun j hj => ?_⟩
  rw [hr] at hj
  obtain rfl : j = i := by simpa using hj
  unfold wpOp
  simp only [hi, hw, if_true]
  exact .inl (h _ (fun a' w' h1 h2 => ⟨h1, h2⟩))
theorem anyBut.done {listed : Array Bool} {a : Act} {w : World} (hr : Region.ready md ops listed = []) (h : Q .normal a w) : ∀ fuel, anyBut P md ops (NoPanic Q) S z fuel listed a w
  | 0 => ⟨hr, h⟩
  | _ + 1 => ⟨fun _ => h, by rw [hr]; simp⟩
theorem anyBut.begin {id : Nat} {a : Act} {w : World} (hm : P.follows .mixedOrders = true) (S : World → Prop) (z : Nat)
    (h : anyBut P .any ops (NoPanic Q) S z ops.size (Array.replicate ops.size false) a w.drew) : (Code.region id ops true).wp P Q a w :=
  wp_region_noPanic (wp_region_any hm (anyBut.plain _ _ _ _ h))
end
end Go.Proofs.Ybulkbxvu
