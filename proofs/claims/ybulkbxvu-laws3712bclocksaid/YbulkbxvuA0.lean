/-
  The law's arguments opened: a slice of events, a slice of bytes.
-/
import Derived.Test.YbulkbxvuF0
import Derived.WalkKit
import Derived.ProofKit
import Derived.OpenShut
import Derived.ChangeOld
import Derived.Below
import Derived.Deep.Slices
import Derived.Laws.IdiomArrays
namespace Go.Proofs.Ybulkbxvu
open Go.ChangeShapes Go.WideShapes Go.ChangeAt Go.RowKit
set_option linter.unusedVariables false

theorem laidOut : laidOutB Yba.prog = true := by kernel_rfl
def rdN (W : World) (b o : Nat) : Nat := match W.cell? ⟨b, o, none⟩ with
  | some (.int _ n) => n.toNat
  | _ => 0
def rdI (W : World) (b o : Nat) : Int := match W.cell? ⟨b, o, none⟩ with
  | some (.int _ n) => n
  | _ => 0
def rdB (W : World) (b o : Nat) : Bool := match W.cell? ⟨b, o, none⟩ with
  | some (.bool v) => v
  | _ => false
/-- What the events say. -/
def evOf (W : World) (b o : Nat) : EvD := { th := fun k => rdN W b (o + k * 9), ce := fun i k => rdN W b (o + k * 9 + 1 + i), en := fun k => rdB W b (o + k * 9 + 4), ru := fun k => rdB W b (o + k * 9 + 5), ck := fun i k => rdI W b (o + k * 9 + 6 + i) }
theorem rdN_of {W : World} {b o : Nat} {n : Int} (h : W.cell? ⟨b, o, none⟩ = some (.int .u8 n)) (hn : 0 ≤ n ∧ n ≤ 255) : W.cell? ⟨b, o, none⟩ = some (.int .u8 (rdN W b o : Int)) ∧ rdN W b o < 256 := by
  have e : rdN W b o = n.toNat := by unfold rdN; rw [h]
  rw [e, h]
  exact ⟨by congr 2; omega, by omega⟩
section
variable {H : Type} {enc : TypeId × Value → H} {W : World} {fuel : Nat}
theorem fld (c : List Value) {fs : Array Field} {t : TypeId} {x : DataW H × List MemPlace} (ht : Yba.prog.underlying t = some (.struct fs)) (h : DataW.trod enc Yba.prog W 0 (fun _ => true) true fuel t c = some x) (i : Nat) (f : Field) (hf : fs[i]? = some f) :
    ∃ m y, DataW.trod enc Yba.prog W 0 (fun _ => true) true m f.type ((c.drop f.offset).take (Yba.prog.cellsOf f.type)) = some y := by
  obtain ⟨xs, m, _, _, _, hl, hall⟩ := DataW.trod_struct ht h
  have := hall i f hf
  have hi : i < xs.length := by rw [hl]; exact (Array.getElem?_eq_some_iff.1 hf).1
  rw [List.getElem?_eq_getElem hi] at this
  exact ⟨m, _, this⟩
theorem fld' (c : List Value) {fs : Array Field} {t : TypeId} {x : DataW H × List MemPlace} (ht : Yba.prog.underlying t = some (.struct fs)) (h : DataW.trod enc Yba.prog W 0 (fun _ => true) true fuel t c = some x) (i : Nat) (f : Field) (hf : fs[i]? = some f)
    (ty off n : Nat) (e1 : f.type = ty) (e2 : f.offset = off) (e3 : Yba.prog.cellsOf ty = n) (c' : List Value) (e4 : (c.drop off).take n = c') : ∃ m y, DataW.trod enc Yba.prog W 0 (fun _ => true) true m ty c' = some y := by
  obtain ⟨m, y, h'⟩ := fld c ht h i f hf
  subst e1 e2 e3 e4
  exact ⟨m, y, h'⟩
theorem cl5 : Yba.prog.cellsOf 5 = 1 := by kernel_rfl
theorem cl4 : Yba.prog.cellsOf 4 = 1 := by kernel_rfl
theorem cl46 : Yba.prog.cellsOf 46 = 3 := by kernel_rfl
theorem cl47 : Yba.prog.cellsOf 47 = 3 := by kernel_rfl
theorem cl49 : Yba.prog.cellsOf 49 = 9 := by kernel_rfl
theorem cl21 : Yba.prog.cellsOf 21 = 1 := by kernel_rfl
set_option maxRecDepth 100000 in
/-- One event. -/
theorem ev9_in {cs : List Value} {x : DataW H × List MemPlace} (hl : cs.length = 9) (h : DataW.trod enc Yba.prog W 0 (fun _ => true) true fuel 49 cs = some x) :
    ∃ (a c0 c1 c2 : Int) (e r : Bool) (k0 k1 k2 : Int), cs = [.int .u8 a, .int .u8 c0, .int .u8 c1, .int .u8 c2, .bool e, .bool r, .int .i32 k0, .int .i32 k1, .int .i32 k2] ∧ (0 ≤ a ∧ a ≤ 255) ∧ (0 ≤ c0 ∧ c0 ≤ 255) ∧ (0 ≤ c1 ∧ c1 ≤ 255) ∧ (0 ≤ c2 ∧ c2 ≤ 255) := by
  match cs, hl with
  | [v0, v1, v2, v3, v4, v5, v6, v7, v8], _ =>
    obtain ⟨m0, y0, h0⟩ := fld' _ Yba.underlying49 h 0 _ rfl 5 0 1 rfl rfl cl5 [v0] rfl
    obtain ⟨m1, y1, h1⟩ := fld' _ Yba.underlying49 h 1 _ rfl 46 1 3 rfl rfl cl46 [v1, v2, v3] rfl
    obtain ⟨m2, y2, h2⟩ := fld' _ Yba.underlying49 h 2 _ rfl 4 4 1 rfl rfl cl4 [v4] rfl
    obtain ⟨m3, y3, h3⟩ := fld' _ Yba.underlying49 h 3 _ rfl 4 5 1 rfl rfl cl4 [v5] rfl
    obtain ⟨m4, y4, h4⟩ := fld' _ Yba.underlying49 h 4 _ rfl 47 6 3 rfl rfl cl47 [v6, v7, v8] rfl
    obtain ⟨a, e0, _, w0⟩ := DataW.trod_int Yba.underlying5 h0
    obtain ⟨z0, z1, z2, n1, _, g0, g1, g2⟩ := trod_array3 Yba.underlying46 cl5 h1
    obtain ⟨c0, e1, _, w1⟩ := DataW.trod_int Yba.underlying5 g0
    obtain ⟨c1, e2, _, w2⟩ := DataW.trod_int Yba.underlying5 g1
    obtain ⟨c2, e3, _, w3⟩ := DataW.trod_int Yba.underlying5 g2
    obtain ⟨b4, e4, _⟩ := DataW.trod_bool Yba.underlying4 h2
    obtain ⟨b5, e5, _⟩ := DataW.trod_bool Yba.underlying4 h3
    obtain ⟨q0, q1, q2, n2, _, f0, f1, f2⟩ := trod_array3 Yba.underlying47 cl21 h4
    obtain ⟨k0, e6, _, _⟩ := DataW.trod_int Yba.underlying21 f0
    obtain ⟨k1, e7, _, _⟩ := DataW.trod_int Yba.underlying21 f1
    obtain ⟨k2, e8, _, _⟩ := DataW.trod_int Yba.underlying21 f2
    simp only [List.cons.injEq, and_true] at e0 e1 e2 e3 e4 e5 e6 e7 e8
    subst e0 e1 e2 e3 e4 e5 e6 e7 e8
    exact ⟨a, c0, c1, c2, b4, b5, k0, k1, k2, rfl, bounds_u8 w0, bounds_u8 w1, bounds_u8 w2, bounds_u8 w3⟩
set_option maxRecDepth 100000 in
theorem evs_in {ao : Option Addr} {n c : Nat} {d : DataW H} {p : List MemPlace} (h : DataW.Trod enc Yba.prog W 0 (fun _ => true) true 22 (.slice ao n c) d p) : ∃ eb eo E, EvA W eb eo n E ∧ (0 < n → ao = some ⟨eb, eo, none⟩) := by
  obtain ⟨fuel, hf⟩ := h
  rcases Go.Deep.open_slice Yba.underlying22 hf with ⟨hcs, _⟩ | ⟨a, len, cap, m, nn, D, Pl, hcs, hb, hl, hm, hmm, hx, hel⟩
  · simp [Value.cells] at hcs
    obtain ⟨rfl, rfl, rfl⟩ := hcs
    exact ⟨0, 0, evOf W 0 0, fun k hk => by omega, fun h => by omega⟩
  · simp [Value.cells] at hcs
    obtain ⟨rfl, rfl, rfl⟩ := hcs
    simp only [if_true] at hmm
    obtain ⟨b, off, spot⟩ := a
    rcases Nat.eq_zero_or_pos n with h0 | h0
    · exact ⟨0, 0, evOf W 0 0, fun k hk => by omega, fun h => by omega⟩
    · have hsp : spot = none := by
        obtain ⟨cs', hc, _⟩ := hel 0 (by omega)
        rw [cl49] at hc
        have := (World.cells?_some hc).2.2 0 (by decide)
        have hl' := (World.cells?_some hc).2.1
        rw [List.getElem?_eq_getElem (by omega)] at this
        have := World.cell?_spot this
        simpa [Addr.add] using this
      subst hsp
      refine ⟨b, off, evOf W b off, fun k hk => ?_, fun _ => rfl⟩
      obtain ⟨cs', hc, ht⟩ := hel k (by omega)
      rw [cl49] at hc
      obtain ⟨_, hlen, hcell⟩ := World.cells?_some hc
      obtain ⟨a0, c0, c1, c2, e, r, k0, k1, k2, rfl, b0, b1, b2, b3⟩ := ev9_in hlen ht
      have hc' : ∀ i, i < 9 → W.cell? ⟨b, off + k * 9 + i, none⟩ = [Value.int .u8 a0, .int .u8 c0, .int .u8 c1, .int .u8 c2, .bool e, .bool r, .int .i32 k0, .int .i32 k1, .int .i32 k2][i]? := fun i hi => by
        have := hcell i hi
        rw [show ((⟨b, off, none⟩ : Addr).add (k * 9)).add i = ⟨b, off + k * 9 + i, none⟩ by rw [Go.WideShapes.add_plain, Go.WideShapes.add_plain]] at this
        exact this
      have q0 := rdN_of (hc' 0 (by decide)) b0
      have q1 := rdN_of (hc' 1 (by decide)) b1
      have q2 := rdN_of (hc' 2 (by decide)) b2
      have q3 := rdN_of (hc' 3 (by decide)) b3
      have r4 : W.cell? ⟨b, off + k * 9 + 4, none⟩ = some (.bool (rdB W b (off + k * 9 + 4))) := by unfold rdB; rw [hc' 4 (by decide)]; rfl
      have r5 : W.cell? ⟨b, off + k * 9 + 5, none⟩ = some (.bool (rdB W b (off + k * 9 + 5))) := by unfold rdB; rw [hc' 5 (by decide)]; rfl
      have r6 : ∀ i, i < 3 → W.cell? ⟨b, off + k * 9 + 6 + i, none⟩ = some (.int .i32 (rdI W b (off + k * 9 + 6 + i))) := fun i hi => by
        unfold rdI
        match i, hi with
        | 0, _ => rw [hc' 6 (by decide)]; rfl
        | 1, _ => rw [show off + k * 9 + 6 + 1 = off + k * 9 + 7 by omega, hc' 7 (by decide)]; rfl
        | 2, _ => rw [show off + k * 9 + 6 + 2 = off + k * 9 + 8 by omega, hc' 8 (by decide)]; rfl
      refine ⟨q0.1, fun i hi => ?_, r4, r5, r6, q0.2, fun i hi => ?_⟩
      · match i, hi with
        | 0, _ => exact q1.1
        | 1, _ => exact q2.1
        | 2, _ => exact q3.1
      · match i, hi with
        | 0, _ => exact q1.2
        | 1, _ => exact q2.2
        | 2, _ => exact q3.2
theorem bytes_in {ao : Option Addr} {n c : Nat} {d : DataW H} {p : List MemPlace} (h : DataW.Trod enc Yba.prog W 0 (fun _ => true) true 23 (.slice ao n c) d p) : ∃ sb so su, ByA W sb so n su ∧ (0 < n → ao = some ⟨sb, so, none⟩) := by
  obtain ⟨fuel, hf⟩ := h
  rcases open_ints Yba.underlying23 Yba.underlying5 (by kernel_rfl) hf with ⟨hcs, _⟩ | ⟨a, len, cap, zs, hcs, _, hl, hm, hz, _, hcell, hwz⟩
  · simp [Value.cells] at hcs
    obtain ⟨rfl, rfl, rfl⟩ := hcs
    exact ⟨0, 0, fun _ => 0, fun k hk => by omega, fun h => by omega⟩
  · simp [Value.cells] at hcs
    obtain ⟨rfl, rfl, rfl⟩ := hcs
    simp at hz
    obtain ⟨b, off, spot⟩ := a
    rcases Nat.eq_zero_or_pos n with h0 | h0
    · exact ⟨0, 0, fun _ => 0, fun k hk => by omega, fun h => by omega⟩
    · have hsp : spot = none := by simpa [Addr.add] using World.cell?_spot (hcell 0 (by omega))
      subst hsp
      refine ⟨b, off, fun j => rdN W b (off + j), fun j hj => ?_, fun _ => rfl⟩
      have := hcell j (by omega)
      rw [Go.WideShapes.add_plain] at this
      exact rdN_of this (bounds_u8 (hwz _ (by rw [List.getD_eq_getElem?_getD, List.getElem?_eq_getElem (by omega)]; exact List.getElem_mem _)))
end
end Go.Proofs.Ybulkbxvu
