/-
  The arcs that LawS3702CBuilt draws from its data: plain lists; what a round of its loop needs.
-/
import Derived.Test.YbulkbxqkKit2
namespace Go.Proofs.Ybulkbxqk
open Go.RowKit
def arcs (rl : List Nat) (k : Nat) : List Nat := (rl.take k).map (· % 2147483648)
theorem arcs_zero (rl : List Nat) : arcs rl 0 = [] := by simp [arcs]
theorem arcs_succ (rl : List Nat) (k : Nat) (h : k < rl.length) : arcs rl (k + 1) = arcs rl k ++ [rl.getD k 0 % 2147483648] := by
  unfold arcs
  rw [List.take_succ_eq_append_getElem h, List.map_append]
  simp [h]
theorem arcs_length (rl : List Nat) (k : Nat) (h : k ≤ rl.length) : (arcs rl k).length = k := by simp [arcs]; omega
theorem arcs_lt (rl : List Nat) (k : Nat) : ∀ x ∈ arcs rl k, x < 2147483648 := by
  intro x hx
  simp only [arcs, List.mem_map] at hx
  obtain ⟨y, _, rfl⟩ := hx
  omega
def wants (z A1 : Nat) (vs : List Nat) : List Int := (z : Int) :: (A1 : Int) :: vs.map (fun x : Nat => (x : Int))
theorem wants_snoc (z A1 : Nat) (vs : List Nat) (x : Nat) : wants z A1 (vs ++ [x]) = wants z A1 vs ++ [(x : Int)] := by simp [wants]
theorem wants_length (z A1 : Nat) (vs : List Nat) : (wants z A1 vs).length = vs.length + 2 := by simp [wants]

theorem rest_step (w wr : World) (ra : Option Addr) (rn : Nat) (rl : List Nat) (k : Nat) (h1 : Src32 w ra rn rl) (h2 : ∀ x ∈ rl, x < 4294967296) (hb : Below w.heap.size w wr) (hlt : (k : Int) < (rn : Int)) (V : Nat) (hV : V < 2147483648) (hrn : (rn : Int) ≤ 64) :
    ∃ rb roff x y : Nat, ra = some ⟨rb, roff, none⟩ ∧ wr.cell? ⟨rb, roff + k, none⟩ = some (.int .u32 (x : Int)) ∧ bits .and .u32 (x : Int) 2147483647 = (y : Int) ∧ wrap64 (y : Int) = (y : Int) ∧
      Hid (∀ w, Calls Yba.prog 9 #[.int .u32 y] w fun e w' => Made w (b128 y) e w') ∧ Hid (arcs rl (k + 1) = arcs rl k ++ [y]) ∧ Hid ((flat (V :: arcs rl k)).length + (b128 y).length = (flat (V :: arcs rl (k + 1))).length) ∧ Hid ((flat (V :: arcs rl k)).length + (b128 y).length ≤ 140737488355328) := by
  obtain ⟨b, off, hra, hcell⟩ := h1.at hb k (by omega)
  have hkl : k < rl.length := by have := h1.1; omega
  have hx := h2 (rl.getD k 0) (by simp [hkl])
  have has := arcs_succ rl k hkl
  have hfl := flat_le (V :: arcs rl k) (fun u hu => by
    rcases List.mem_cons.1 hu with rfl | hu
    · omega
    · have := arcs_lt rl k u hu; omega)
  rw [List.length_cons, arcs_length rl k (by omega)] at hfl
  have hbl := b128_length (rl.getD k 0 % 2147483648) (by omega)
  refine ⟨b, off, rl.getD k 0, rl.getD k 0 % 2147483648, hra, hcell, ?_, ?_, ?_, has, ?_, by show _ ≤ _; omega⟩
  · rw [u32_and31 _ (by omega) (by omega), Int.natCast_emod]; rfl
  · unfold wrap64; omega
  · intro w; exact base128_any _ (by omega) w
  · show _ = _
    rw [has, ← List.cons_append, flat_snoc, List.length_append]

theorem loop_facts {wr : World} {B0 B1 : Nat} {gw n cw go m co : Nat} {xs ys : List Value} (h1 : wr.ownsRow B0 3 1 (.slice (some ⟨gw, 0, none⟩) n cw) n xs) (h2 : wr.ownsRow B1 5 1 (.slice (some ⟨go, 0, none⟩) m co) m ys) :
    gw ≠ go ∧ B0 ≤ wr.heap.size ∧ B1 ≤ wr.heap.size := by
  have a := own_lt h1
  have b := own_lt h2
  exact ⟨own_ne h1 h2 (by decide), by omega, by omega⟩

theorem loop_next {w wr w2 w3 w4 : World} {B0 sz : Nat} {vals : Array Value} {gw n cw go m co go2 co2 gw2 cw2 g9 n9 cap9 : Nat} {o : Obj} {xs xs' ys zs ys' : List Value}
    (h1 : wr.ownsRow B0 3 1 (.slice (some ⟨gw, 0, none⟩) n cw) n xs) (h2 : wr.ownsRow (B0 + 1) 5 1 (.slice (some ⟨go, 0, none⟩) m co) m ys)
    (hbox : Box wr w.heap.size vals) (hbel : Below w.heap.size w wr) (hsz : sz ≤ wr.heap.size) (hB : w.heap.size < B0)
    (h1' : w2.ownsRow B0 3 1 (.slice (some ⟨gw2, 0, none⟩) (n + 1) cw2) (n + 1) xs') (hg2 : (wr.alloc o).grownBy w2 (some gw))
    (_h9 : w3.ownsRow w2.heap.size 5 1 (.slice (some ⟨g9, 0, none⟩) n9 cap9) n9 zs) (hb3 : Below w2.heap.size w2 w3)
    (_h2' : w4.ownsRow (B0 + 1) 5 1 (.slice (some ⟨go2, 0, none⟩) (m + n9) co2) (m + n9) ys') (hg4 : w3.grownBy w4 (some go)) :
    w4.ownsRow B0 3 1 (.slice (some ⟨gw2, 0, none⟩) (n + 1) cw2) (n + 1) xs' ∧ Box w4 w.heap.size vals ∧ Below w.heap.size w w4 ∧ sz ≤ w4.heap.size := by
  have l1 := own_lt h1
  have l2 := own_lt h2
  have hne : go ≠ gw := fun h => own_ne h1 h2 (by decide) h.symm
  have k2 := own_all (own_kept (h2.alloc o) hg2 hne) hb3
  have k1 := own_all h1' hb3
  have hne2 : gw2 ≠ go := own_ne k1 k2 (by decide)
  have b1 : Below (w.heap.size + 1) wr (wr.alloc o) := (Below.refl _ _).alloc (by omega) _
  have b2 : Below (w.heap.size + 1) (wr.alloc o) w2 := (Below.refl _ _).grown hg2 (by simp; omega) (fun k hk => by cases hk; omega)
  have s2 := b2.size
  simp at s2
  have b3 : Below (w.heap.size + 1) w2 w3 := hb3.mono (by omega)
  have b4 : Below (w.heap.size + 1) w3 w4 := (Below.refl _ _).grown hg4 (by have := b3.size; omega) (fun k hk => by cases hk; omega)
  have bb := ((b1.trans b2).trans b3).trans b4
  refine ⟨own_kept k1 hg4 hne2, hbox.below bb (by omega), hbel.trans (bb.mono (by omega)), ?_⟩
  have := bb.size; omega
end Go.Proofs.Ybulkbxqk
