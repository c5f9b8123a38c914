/-
  zzs3712bbuild at the chain: the start.
-/
import Derived.Test.YbulkbxvuG2
namespace Go.Proofs.Ybulkbxvu
open Go.RowKit
set_option linter.unusedVariables false

/-- What stands after k events. -/
def Sk (E : EvD) (k : Nat) : Sg := { kp := k, ke := k, ck := ckL k, us := useL E k, gt := (useL E k).length, rn := rnL E k, ob := fun o => obL E o k }
/-- What build hands back. -/
def BldOut (W : World) (ne : Nat) (E : EvD) (e : Ending) (W' : World) : Prop := ∃ p v, e = .returned (.tuple #[pt p.X, sl p.T 0 ne ne, sl p.L 0 2 2]) ∧ BS W W' p E (Sk E ne) ne ((ne : Int) - 1) ne v v (fun o => v (6 + o))

/-- Before the counts are made. -/
structure SBx (W0 W : World) (X M T L ne : Nat) (g : Nat → Option Value) : Prop where
  pX : RowP W X 77 (xg M 2 (fun _ => .slice none 0 0))
  pT : RowP W T 3 (gZ ne)
  pL : RowP W L 21 g
  mp : MapR W M (fun _ => .slice none 0 0)
  fr : Below W0.heap.size W0 W
  at' : W0.heap.size = M ∧ M + 1 = X ∧ M + 2 = T ∧ T < L ∧ L < W.heap.size
theorem SBx.set {W0 W : World} {X M T L ne : Nat} {g : Nat → Option Value} (h : SBx W0 W X M T L ne g) {o : Nat} {u : Value} (hg : g o = some u) (a : Value) : SBx W0 (W.setCell ⟨L, o, none⟩ a) X M T L ne (fun x => if x = o then some a else g x) := by
  have hne : ∀ k, k ≠ L → (W.setCell ⟨L, o, none⟩ a).heap[k]? = W.heap[k]? := fun k hk => heap_setCell_other _ _ k _ (by simpa using hk)
  obtain ⟨a1, a2, a3, a4, a5⟩ := h.at'
  exact ⟨h.pX.blk (hne _ (by omega)), h.pT.blk (hne _ (by omega)), h.pL.set hg a, h.mp.blk (hne _ (by omega)), h.fr.setCell (by simp; omega) _, a1, a2, a3, a4, by simp [World.setCell]; exact a5⟩
theorem SBx.start {W W1 W2 : World} {ne : Nat} (cx : Array Value) (h1 : ∃ cur : Array Value, W1.heap[((W.alloc (.map #[] 0)).alloc (.cells cx 77)).heap.size]? = some (.cells cur 3 (0, 0)) ∧ cur.size = ne ∧ ∀ j, j < ne → cur[j]? = some (.int .i64 0))
    (hb1 : Below ((W.alloc (.map #[] 0)).alloc (.cells cx 77)).heap.size ((W.alloc (.map #[] 0)).alloc (.cells cx 77)) W1) (h2 : ∃ cur : Array Value, W2.heap[W1.heap.size]? = some (.cells cur 21 (0, 0)) ∧ cur.size = 2 ∧ ∀ j, j < 2 → cur[j]? = some (.int .i32 0)) (hb2 : Below W1.heap.size W1 W2)
    (hx : ∀ o v, xg W.heap.size 2 (fun _ => .slice none 0 0) o = some v → cx[o]? = some v) : SBx W W2 (W.heap.size + 1) W.heap.size (W.heap.size + 2) W1.heap.size ne (g2 0 0) := by
  have z1 : ((W.alloc (.map #[] 0)).alloc (.cells cx 77)).heap.size = W.heap.size + 2 := by simp
  have z0 : (W.alloc (.map #[] 0)).heap.size = W.heap.size + 1 := by simp
  have x1 := heap_alloc_new (W.alloc (.map #[] 0)) (.cells cx 77)
  rw [z0] at x1
  have x0 := (show ((W.alloc (.map #[] 0)).alloc (.cells cx 77)).heap[W.heap.size]? = (W.alloc (.map #[] 0)).heap[W.heap.size]? from heap_alloc_old _ _ (by omega)).trans (heap_alloc_new W (.map #[] 0))
  rw [z1] at h1 hb1
  obtain ⟨c1, a1, a2, a3⟩ := h1
  obtain ⟨c2, b1, b2, b3⟩ := h2
  have hs1 := (Array.getElem?_eq_some_iff.1 a1).1
  have hs2 := (Array.getElem?_eq_some_iff.1 b1).1
  refine ⟨⟨cx, ?_, hx⟩, ⟨c1, ?_, fun o v h => ?_⟩, ⟨c2, b1, fun o v h => ?_⟩, ⟨#[], 0, ?_, ?_⟩, ?_, rfl, rfl, rfl, hs1, hs2⟩
  · rw [hb2.block _ (by omega), hb1.block _ (by omega)]; exact x1
  · rw [hb2.block _ hs1]; exact a1
  · unfold gZ at h; split at h
    · rename_i hlt; injection h with h; rw [← h]; exact a3 o hlt
    · cases h
  · match o with
    | 0 => injection h with h; rw [← h]; exact b3 0 (by decide)
    | 1 => injection h with h; rw [← h]; exact b3 1 (by decide)
    | o + 2 => cases h
  · rw [hb2.block _ (by omega), hb1.block _ (by omega)]; exact x0
  · exact ⟨fun x h => by simp at h, fun _ _ _ => rfl, ⟨by simp, by simp, by simp⟩⟩
  · exact ((((Below.refl _ W).alloc (Nat.le_refl _) _).alloc (by omega) _).trans (hb1.mono (by omega))).trans (hb2.mono (by omega))
theorem BS.start {W0 W W' : World} {X M T L ne : Nat} (E : EvD) (h : SBx W0 W X M T L ne (g2 (-1) (-1))) (hb : Below W.heap.size W W') (hc : RowP W' W.heap.size 21 (g2 0 0)) :
    BS W0 W' ⟨W.heap.size + 1, X, M, T, L, W.heap.size⟩ E (Sk E 0) ne (-1) 0 (fun _ => .slice none 0 0) (fun _ => .slice none 0 0) (fun _ => .slice none 0 0) := by
  obtain ⟨a1, a2, a3, a4, a5⟩ := h.at'
  have hl := hc.lt
  refine ⟨h.pX.blk (hb.block _ (by omega)), h.pT.blk (hb.block _ (by omega)), h.pL.blk (hb.block _ (by omega)), hc, h.mp.blk (hb.block _ (by omega)), fun i hi => ?_, ?_, h.fr.trans (hb.mono (by omega)), hl, ?_, ?_, ?_, ?_, ?_⟩
  · refine ⟨?_, .inl ⟨rfl, ?_⟩⟩
    · match i, hi with
      | 0, _ | 1, _ | 2, _ | 3, _ | 4, _ | 5, _ | 6, _ | 7, _ | 8, _ => rfl
    · match i, hi with
      | 0, _ | 1, _ | 2, _ | 3, _ | 4, _ | 5, _ | 6, _ | 7, _ | 8, _ => rfl
  · intro i j _ _ _ b hb' _
    cases hb'
  all_goals (simp only; omega)
end Go.Proofs.Ybulkbxvu
