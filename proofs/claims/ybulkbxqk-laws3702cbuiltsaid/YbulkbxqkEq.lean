/-
  bytes.Equal of two slices that read alike; the plain law of the identifier; lengths.
-/
import Derived.Test.YbulkbxqkArcs
import Derived.Laws.BytesArg
namespace Go.Proofs.Ybulkbxqk
open Go.RowKit

theorem equal_any (b1 o1 c1 b2 o2 c2 : Nat) (l : List Int) (w : World) (h1 : Vw w b1 o1 l) (h2 : Vw w b2 o2 l) :
    Calls Yba.prog 12 #[.slice (some ⟨b1, o1, none⟩) l.length c1, .slice (some ⟨b2, o2, none⟩) l.length c2] w fun e w' => e = .returned (.bool true) ∧ w' = w := by
  have k1 := run_convert_bytes_arg (P := Yba.prog) w 28 5 Yba.underlying28 Yba.underlying5 b1 o1 l.length c1 l rfl h1 9 Yba.underlying9
  have k2 := run_convert_bytes_arg (P := Yba.prog) w 28 5 Yba.underlying28 Yba.underlying5 b2 o2 l.length c2 l rfl h2 9 Yba.underlying9
  go_enter Yba.func12, Yba.ntmps12
  go_wp2
  go_ret
  exact ⟨by simp, rfl⟩

theorem ids_wants (z A1 V : Nat) (vs : List Nat) (hz : z ≤ 2) (hV : V = 40 * z + A1) (h40 : z < 2 → A1 < 40) : ids V vs = wants z A1 vs := by
  subst hV
  unfold ids wants split1
  by_cases h : z < 2
  · have := h40 h
    rw [if_pos (by omega), show (40 * z + A1) / 40 = z from by omega, show (40 * z + A1) % 40 = A1 from by omega]
    rfl
  · obtain rfl : z = 2 := by omega
    rw [if_neg (by omega), show 40 * 2 + A1 - 80 = A1 from by omega]
    rfl

/-- The element of the parameters, if there is one. -/
def pelOf (hp : Bool) (PT : Int) (pl : List Int) : List Int := if hp then elem PT pl else []
theorem lens (T1 T2 T3 T4 PT : Int) (hp : Bool) (ol pl tl sl el : List Int) (h1 : ol.length ≤ 330) (h2 : pl.length ≤ 1024) (h3 : tl.length ≤ 1024) (h4 : sl.length ≤ 1024) (h5 : el.length ≤ 1024) :
    (elem T4 ol).length ≤ 334 ∧ (elem PT pl).length ≤ 1028 ∧ (elem T4 ol ++ pelOf hp PT pl).length ≤ 1362 ∧ (elem T2 tl).length ≤ 1028 ∧ (elem T3 (elem T4 ol ++ pelOf hp PT pl)).length ≤ 1366 ∧ (elem 3 sl).length ≤ 1028 ∧
      (elem T2 tl ++ elem T3 (elem T4 ol ++ pelOf hp PT pl) ++ elem 3 sl).length ≤ 3422 ∧ (elem T1 (elem T2 tl ++ elem T3 (elem T4 ol ++ pelOf hp PT pl) ++ elem 3 sl)).length ≤ 3426 ∧
      (elem T1 (elem T2 tl ++ elem T3 (elem T4 ol ++ pelOf hp PT pl) ++ elem 3 sl) ++ el).length ≤ 4450 := by
  have a1 := lenEnc_le ol.length
  have a2 := lenEnc_le pl.length
  have a3 := lenEnc_le tl.length
  have a4 := lenEnc_le sl.length
  have a5 := lenEnc_le (elem T4 ol ++ pelOf hp PT pl).length
  have a6 := lenEnc_le (elem T2 tl ++ elem T3 (elem T4 ol ++ pelOf hp PT pl) ++ elem 3 sl).length
  have e1 := elem_length T4 ol
  have e2 := elem_length PT pl
  have e3 := elem_length T2 tl
  have e4 := elem_length 3 sl
  have e5 := elem_length T3 (elem T4 ol ++ pelOf hp PT pl)
  have e6 := elem_length T1 (elem T2 tl ++ elem T3 (elem T4 ol ++ pelOf hp PT pl) ++ elem 3 sl)
  have e7 : (pelOf hp PT pl).length ≤ 1028 := by
    cases hp
    · simp [pelOf]
    · exact Nat.le_trans (Nat.le_of_eq e2) (by omega)
  have e8 : (elem T4 ol ++ pelOf hp PT pl).length = (elem T4 ol).length + (pelOf hp PT pl).length := List.length_append
  have e9 : (elem T2 tl ++ elem T3 (elem T4 ol ++ pelOf hp PT pl) ++ elem 3 sl).length = (elem T2 tl).length + (elem T3 (elem T4 ol ++ pelOf hp PT pl)).length + (elem 3 sl).length := by rw [List.length_append, List.length_append]
  have e10 : (elem T1 (elem T2 tl ++ elem T3 (elem T4 ol ++ pelOf hp PT pl) ++ elem 3 sl) ++ el).length = (elem T1 (elem T2 tl ++ elem T3 (elem T4 ol ++ pelOf hp PT pl) ++ elem 3 sl)).length + el.length := List.length_append
  refine ⟨by omega, by omega, by omega, by omega, by omega, by omega, by omega, by omega, by omega⟩

/-- The four tags by the mode. -/
def tOuter (M : Nat) : Int := if M = 1 then 49 else 48
def tTbs (M : Nat) : Int := if M = 2 then 49 else 48
def tAlg (M : Nat) : Int := if M = 3 then 49 else 48
def tOid (M : Nat) : Int := if M = 4 then 5 else 6
theorem tag49 : Tag 49 := ⟨by decide, by decide, by decide⟩
theorem tag5 : Tag 5 := ⟨by decide, by decide, by decide⟩

/-- What signatureAlgorithm answers at what the law has built. -/
theorem sig_all (M : Nat) (hM : M < 5) (V : Nat) (vs : List Nat) (hp : Bool) (PT : Int) (hPT : Tag PT) (pl tl sl el : List Int) (hx : ∀ x ∈ V :: vs, x < 2147483648) (h1 : (flat (V :: vs)).length ≤ 330) (h2 : pl.length ≤ 1024) (h3 : tl.length ≤ 1024) (h4 : sl.length ≤ 1024) (h5 : el.length ≤ 1024)
    (b cap N : Nat) (w : World) (hv : Vw w b 0 (elem (tOuter M) (elem (tTbs M) tl ++ elem (tAlg M) (elem (tOid M) (flat (V :: vs)) ++ pelOf hp PT pl) ++ elem 3 sl) ++ el)) (hN : N = (elem (tOuter M) (elem (tTbs M) tl ++ elem (tAlg M) (elem (tOid M) (flat (V :: vs)) ++ pelOf hp PT pl) ++ elem 3 sl) ++ el).length) (hcap : N ≤ cap) :
    Calls Yba.prog 11 #[.slice (some ⟨b, 0, none⟩) N cap] w fun e w' => (M ≠ 0 ∧ Refused w e w') ∨ (M = 0 ∧ SigOk w V vs (pelOf hp PT pl) e w') := by
  obtain ⟨l1, l2, l3, l4, l5, l6, l7, l8, l9⟩ := lens (tOuter M) (tTbs M) (tAlg M) (tOid M) PT hp (flat (V :: vs)) pl tl sl el h1 h2 h3 h4 h5
  have hd : elem (tOuter M) (elem (tTbs M) tl ++ elem (tAlg M) (elem (tOid M) (flat (V :: vs)) ++ pelOf hp PT pl) ++ elem 3 sl) ++ el = der (tOuter M) (tTbs M) (tAlg M) (tOid M) tl (flat (V :: vs)) (pelOf hp PT pl) sl el := by
    rw [der, List.append_assoc (elem (tTbs M) tl)]
  have hN9 : N ≤ 4450 := by omega
  rw [hd] at hv hN
  clear hd l1 l2 l3 l4 l5 l6 l7 l8 l9
  have hl : N = 1 + ((lenEnc (elem (tTbs M) tl ++ (elem (tAlg M) (elem (tOid M) (flat (V :: vs)) ++ pelOf hp PT pl) ++ elem 3 sl)).length).length + (elem (tTbs M) tl ++ (elem (tAlg M) (elem (tOid M) (flat (V :: vs)) ++ pelOf hp PT pl) ++ elem 3 sl)).length) + el.length := by
    rw [hN, der, List.length_append, elem_length]
  have hbody : (elem (tTbs M) tl ++ (elem (tAlg M) (elem (tOid M) (flat (V :: vs)) ++ pelOf hp PT pl) ++ elem 3 sl)).length < 65536 := by omega
  have hM5 : M = 0 ∨ M = 1 ∨ M = 2 ∨ M = 3 ∨ M = 4 := by omega
  rcases hM5 with rfl | rfl | rfl | rfl | rfl
  · cases hp with
    | false => exact (sig_ok0 b 0 cap N tl V vs sl el w hv hN hcap (by omega) hx (by omega)).mono fun e w' h => .inr ⟨rfl, h⟩
    | true => exact (sig_ok1 b 0 cap N tl V vs PT pl sl el w hPT hv hN hcap (by omega) hx (by omega)).mono fun e w' h => .inr ⟨rfl, h⟩
  · exact (sig_e1 b 0 cap N 49 _ el w tag49 (by decide) hv hN hcap hbody (by omega)).mono fun e w' h => .inl ⟨by decide, h⟩
  · exact (sig_e2 b 0 cap N 49 tl _ el w tag49 (by decide) hv hN hcap hbody (by omega)).mono fun e w' h => .inl ⟨by decide, h⟩
  · exact (sig_e3 b 0 cap N 49 tl (flat (V :: vs)) (pelOf hp PT pl) sl el 6 w tag49 (by decide) hv hN hcap (by omega)).mono fun e w' h => .inl ⟨by decide, h⟩
  · exact (sig_e4 b 0 cap N 5 tl (flat (V :: vs)) (pelOf hp PT pl) sl el w tag5 (by decide) hv hN hcap (by omega)).mono fun e w' h => .inl ⟨by decide, h⟩
end Go.Proofs.Ybulkbxqk
