/-
  A slice of strings that came in: what the row's own reading and reach say of it.
-/
import Derived.Test.YbulkbxsoKit
import Derived.ProofKit
import Derived.OpenShut
import Derived.ShutString
import Derived.ChangeOld
import Derived.Below
import Derived.SizedLaws
import Derived.SliceStrings
namespace Go.Proofs.Ybulkbxso
open Go.ChangeShapes Go.WideShapes Go.ChangeAt Go.RowKit

theorem laidOut : laidOutB Yba.prog = true := by kernel_rfl

theorem weight_mem {H : Type} {P : Program} {e : TypeId} {d : DataW H} {n : Nat} (hn : n ∈ d.weights P e) : ∀ {l : List (DataW H)}, d ∈ l → n ∈ DataW.weightsAll P e l
  | [], h => by cases h
  | x :: r, h => by
    rw [DataW.weightsAll, List.mem_append]
    rcases List.mem_cons.1 h with rfl | h
    · exact .inl hn
    · exact .inr (weight_mem hn h)

/-- The strings of the j-th argument: their cells, and that each lies within the reach. -/
theorem strs_in {H : Type} {enc : TypeId × Value → H} {W : World} {ao : Option Addr} {n c : Nat} {d : DataW H} {p : List MemPlace} (h : DataW.Trod enc Yba.prog W 0 (fun _ => true) true 39 (.slice ao n c) d p)
    {ts : List TypeId} {ds : List (DataW H)} {j : Nat} (hsz : (DataW.weightsEach Yba.prog ts ds).all (· ≤ reachBytes) = true) (ht : ts[j]? = some 39) (hd : ds[j]? = some d) :
    ∃ ss : Nat → ByteArray, Strs W ao n ss ∧ ∀ j, j < n → (((ss j).size : Nat) : Int) ≤ 140737488355328 := by
  obtain ⟨fuel, hf⟩ := h
  rcases open_strings Yba.underlying39 Yba.underlying9 (by kernel_rfl) hf with ⟨hcs, _⟩ | ⟨a, len, cap, ss, hcs, _, hl, hm, hlen, hx, hcell, _⟩
  · simp [Value.cells] at hcs
    obtain ⟨rfl, rfl, rfl⟩ := hcs
    exact ⟨fun _ => ByteArray.empty, fun j hj => by omega, fun j hj => by omega⟩
  · simp [Value.cells] at hcs
    obtain ⟨rfl, rfl, rfl⟩ := hcs
    simp at hlen
    refine ⟨fun j => ss.getD j ByteArray.empty, fun j hj => ?_, fun j hj => ?_⟩
    · obtain ⟨b, off, spot⟩ := a
      have hspot : spot = none := by simpa [Addr.add] using World.cell?_spot (hcell 0 (by omega))
      subst hspot
      exact ⟨b, off, rfl, by rw [← Go.WideShapes.add_plain]; exact hcell j (by omega)⟩
    · simp only [Prod.mk.injEq] at hx
      have hmem : (DataW.lit (.string (ss.getD j ByteArray.empty).data.toList) : DataW H) ∈ strs (H := H) (ss.take n) := by
        unfold strs
        refine List.mem_map.2 ⟨ss.getD j ByteArray.empty, ?_, rfl⟩
        rw [List.getD_eq_getElem?_getD, List.getElem?_eq_getElem (by omega)]
        exact List.mem_take_iff_getElem.2 ⟨j, by omega, rfl⟩
      have hw : (ss.getD j ByteArray.empty).data.toList.length ∈ d.weights Yba.prog 39 := by
        rw [hx.1, DataW.weights, Yba.underlying39]
        refine List.mem_cons_of_mem _ (List.mem_append.2 (.inl (weight_mem ?_ hmem)))
        simp [DataW.weights]
      have hall := List.all_eq_true.1 hsz _ (DataW.weights_mem_each ht hd _ hw)
      have hb : (ss.getD j ByteArray.empty).data.toList.length ≤ reachBytes := by simpa using hall
      have hr : reachBytes ≤ 140737488355328 := by decide
      have hs : (ss.getD j ByteArray.empty).size = (ss.getD j ByteArray.empty).data.toList.length := by rw [Array.length_toList]; rfl
      show (((ss.getD j ByteArray.empty).size : Nat) : Int) ≤ 140737488355328
      rw [hs]
      omega
end Go.Proofs.Ybulkbxso
