/-
  tlv.ReadAlgorithm, sigalg.signatureAlgorithm.
-/
import Derived.Test.YbulkbxqkOid
namespace Go.Proofs.Ybulkbxqk
open Go.RowKit

/-- tlv.Read as a fact that the walk does not look into: at every world whose cells are w's. -/
theorem read_at (w : World) (b off cap N : Nat) (tag : Int) (body rest : List Int) (ht : Tag tag) (hv : Vw w b off (elem tag body ++ rest)) (hN : N = (elem tag body ++ rest).length) (hcap : N ≤ cap) (hb : body.length < 65536) (hr : rest.length < 1000000) :
    Hid (∀ k, Calls Yba.prog 16 #[.slice (some ⟨b, off, none⟩) N cap] (w.drewN k) fun e w'' => ReadOk w b tag body rest e w'') := by
  intro k
  refine (read_any b off cap N tag body rest (w.drewN k) ht hv hN hcap hb hr).mono ?_
  rintro e w' ⟨o1, c1, o2, c2, k', he, h1, h2, h3, h4, hw⟩
  exact ⟨o1, c1, o2, c2, k + k', he, h1, h2, h3, h4, by rw [hw, drew2]⟩

theorem tag48 : Tag 48 := ⟨by decide, by decide, by decide⟩
theorem tag6 : Tag 6 := ⟨by decide, by decide, by decide⟩

set_option maxHeartbeats 1000000 in
set_option maxRecDepth 100000 in
/-- ReadAlgorithm where the outer tag is another. -/
theorem alg_no1 (b off cap N : Nat) (tag : Int) (body rest : List Int) (w : World) (ht : Tag tag) (hne : (tag != 48) = true) (hv : Vw w b off (elem tag body ++ rest)) (hN : N = (elem tag body ++ rest).length) (hcap : N ≤ cap) (hb : body.length < 65536) (hr : rest.length < 1000000) :
    Calls Yba.prog 18 #[.slice (some ⟨b, off, none⟩) N cap] w fun e w' => ∃ k, e = .returned (.tuple #[.slice none 0 0, .slice none 0 0, .slice none 0 0, .bool false]) ∧ w' = w.drewN k := by
  have HR := read_at w b off cap N tag body rest ht hv hN hcap hb hr
  clear hN hcap hb hr hv ht
  go_enter Yba.func18, Yba.ntmps18
  go_wp2_with (go_at_call 16; refine (HR.out 0).mono ?_; rintro e w1 ⟨o1, c1, o2, c2, k, rfl, hc1, hc2, hv1, hv2, rfl⟩)
  exact bodyPost_ret (v := .tuple #[.slice none 0 0, .slice none 0 0, .slice none 0 0, .bool false]) (by simp [results, Yba.results18, go_sem]) rfl ⟨_, rfl, rfl⟩

set_option maxHeartbeats 1000000 in
set_option maxRecDepth 100000 in
/-- ReadAlgorithm where the identifier's tag is another. -/
theorem alg_no2 (b off cap N : Nat) (tag : Int) (oid pel rest : List Int) (w : World) (ht : Tag tag) (hne : (tag != 6) = true) (hv : Vw w b off (elem 48 (elem tag oid ++ pel) ++ rest)) (hN : N = (elem 48 (elem tag oid ++ pel) ++ rest).length) (hcap : N ≤ cap)
    (hb : (elem tag oid ++ pel).length < 65536) (hr : rest.length < 1000000) :
    Calls Yba.prog 18 #[.slice (some ⟨b, off, none⟩) N cap] w fun e w' => ∃ k, e = .returned (.tuple #[.slice none 0 0, .slice none 0 0, .slice none 0 0, .bool false]) ∧ w' = w.drewN k := by
  have HR := read_at w b off cap N 48 (elem tag oid ++ pel) rest tag48 hv hN hcap hb hr
  have HR2 : Hid (∀ o1 c1 k, (elem tag oid ++ pel).length ≤ c1 → Vw w b o1 (elem tag oid ++ pel) → Calls Yba.prog 16 #[.slice (some ⟨b, o1, none⟩) (elem tag oid ++ pel).length c1] (w.drewN k) fun e w'' => ReadOk w b tag oid pel e w'') := by
    intro o1 c1 k h1 h2
    rw [List.length_append, elem_length] at hb
    exact (read_at w b o1 c1 _ tag oid pel ht h2 rfl h1 (by omega) (by omega)).out k
  clear hN hcap hb hr hv ht
  generalize elem tag oid ++ pel = body at *
  go_enter Yba.func18, Yba.ntmps18
  go_wp2_with fail
  refine (HR.out 0).mono ?_
  rintro e w1 ⟨o1, c1, o2, c2, k, rfl, hc1, hc2, hv1, hv2, rfl⟩
  have HR3 := HR2.out o1 c1 k hc1 hv1
  clear HR HR2 hv1 hv2 hc1 hc2
  go_wp2_with (go_at_call 16; refine HR3.mono ?_; rintro e w1 ⟨o3, c3, o4, c4, k', rfl, hc3, hc4, hv3, hv4, rfl⟩)
  exact bodyPost_ret (v := .tuple #[.slice none 0 0, .slice none 0 0, .slice none 0 0, .bool false]) (by simp [results, Yba.results18, go_sem]) rfl ⟨_, rfl, rfl⟩
/-- ParseObjectID as a fact that the walk does not look into. -/
theorem oid_at (w : World) (b off cap N : Nat) (v : Nat) (vs : List Nat) (hv : Vw w b off (flat (v :: vs))) (hN : N = (flat (v :: vs)).length) (hcap : N ≤ cap) (hb : ∀ x ∈ v :: vs, x < 2147483648) (hl : N < 1000) :
    Hid (∀ k, Calls Yba.prog 20 #[.slice (some ⟨b, off, none⟩) N cap] (w.drewN k) fun e w' => ∃ g c, e = .returned (.tuple #[.slice (some ⟨g, 0, none⟩) (vs.length + 2) c, .bool true]) ∧
      w'.ownsRow w.heap.size 3 1 (.slice (some ⟨g, 0, none⟩) (vs.length + 2) c) (vs.length + 2) (I (ids v vs)) ∧ Below w.heap.size w w') := by
  intro k
  refine (oid_any b off cap N v vs (w.drewN k) hv hN hcap hb hl).mono ?_
  rintro e w' ⟨g, c, he, h1, h2⟩
  exact ⟨g, c, he, h1, ⟨h2.os, h2.tape, h2.output, h2.size, h2.block⟩⟩

/-- What ReadAlgorithm hands back where it reads one. -/
def AlgOk (w : World) (b : Nat) (v : Nat) (vs : List Nat) (pel rest : List Int) (e : Ending) (w' : World) : Prop :=
  ∃ g c ps o2 c2, e = .returned (.tuple #[.slice (some ⟨g, 0, none⟩) (vs.length + 2) c, ps, .slice (some ⟨b, o2, none⟩) rest.length c2, .bool true]) ∧
    w'.ownsRow w.heap.size 3 1 (.slice (some ⟨g, 0, none⟩) (vs.length + 2) c) (vs.length + 2) (I (ids v vs)) ∧ Below w.heap.size w w' ∧
    ((pel = [] ∧ ps = .slice none 0 0) ∨ (pel ≠ [] ∧ ∃ o4 c4, ps = .slice (some ⟨b, o4, none⟩) pel.length c4 ∧ Vw w b o4 pel))

set_option maxHeartbeats 1000000 in
set_option maxRecDepth 100000 in
theorem alg_ok0 (b off cap N : Nat) (v : Nat) (vs : List Nat) (rest : List Int) (w : World) (hv : Vw w b off (elem 48 (elem 6 (flat (v :: vs)) ++ []) ++ rest)) (hN : N = (elem 48 (elem 6 (flat (v :: vs)) ++ []) ++ rest).length) (hcap : N ≤ cap)
    (hb : (elem 6 (flat (v :: vs)) ++ []).length < 65536) (hr : rest.length < 1000000) (hx : ∀ x ∈ v :: vs, x < 2147483648) (hl : (flat (v :: vs)).length < 1000) :
    Calls Yba.prog 18 #[.slice (some ⟨b, off, none⟩) N cap] w fun e w' => AlgOk w b v vs [] rest e w' := by
  have HR := read_at w b off cap N 48 (elem 6 (flat (v :: vs)) ++ []) rest tag48 hv hN hcap hb hr
  have HR2 : Hid (∀ o1 c1 k, (elem 6 (flat (v :: vs)) ++ []).length ≤ c1 → Vw w b o1 (elem 6 (flat (v :: vs)) ++ []) → Calls Yba.prog 16 #[.slice (some ⟨b, o1, none⟩) (elem 6 (flat (v :: vs)) ++ []).length c1] (w.drewN k) fun e w'' => ReadOk w b 6 (flat (v :: vs)) [] e w'') := by
    intro o1 c1 k h1 h2
    rw [List.length_append, elem_length] at hb
    exact (read_at w b o1 c1 _ 6 (flat (v :: vs)) [] tag6 h2 rfl h1 (by omega) (by simp)).out k
  have HO : Hid (∀ o3 c3 k, (flat (v :: vs)).length ≤ c3 → Vw w b o3 (flat (v :: vs)) → Calls Yba.prog 20 #[.slice (some ⟨b, o3, none⟩) (flat (v :: vs)).length c3] (w.drewN k) fun e w' => ∃ g c, e = .returned (.tuple #[.slice (some ⟨g, 0, none⟩) (vs.length + 2) c, .bool true]) ∧
      w'.ownsRow w.heap.size 3 1 (.slice (some ⟨g, 0, none⟩) (vs.length + 2) c) (vs.length + 2) (I (ids v vs)) ∧ Below w.heap.size w w') := fun o3 c3 k h1 h2 => (oid_at w b o3 c3 _ v vs h2 rfl h1 hx hl).out k
  clear hN hcap hb hr hv hx hl
  generalize elem 6 (flat (v :: vs)) ++ [] = body at *
  generalize flat (v :: vs) = fl at *
  go_enter Yba.func18, Yba.ntmps18
  go_wp2_with fail
  refine (HR.out 0).mono ?_
  rintro e w1 ⟨o1, c1, o2, c2, k, rfl, hc1, hc2, hv1, hv2, rfl⟩
  have HR3 := HR2.out o1 c1 k hc1 hv1
  clear HR HR2 hv1 hv2 hc1 hc2
  go_wp2_with fail
  refine HR3.mono ?_
  rintro e w1 ⟨o3, c3, o4, c4, k', rfl, hc3, hc4, hv3, hv4, rfl⟩
  have HO3 := HO.out o3 c3 k' hc3 hv3
  clear HR3 HO hv3 hv4 hc3 hc4
  simp only [List.length_nil]
  go_wp2_with (go_at_call 20; refine HO3.mono ?_; rintro e w3 ⟨g, c, rfl, hown, hbel⟩)
  exact bodyPost_ret (v := .tuple #[.slice (some ⟨g, 0, none⟩) (vs.length + 2) c, .slice none 0 0, .slice (some ⟨b, o2, none⟩) rest.length c2, .bool true]) (by simp [results, Yba.results18, go_sem]) rfl ⟨g, c, _, o2, c2, rfl, hown, hbel, .inl ⟨rfl, rfl⟩⟩

set_option maxHeartbeats 1000000 in
set_option maxRecDepth 100000 in
theorem alg_ok1 (b off cap N : Nat) (v : Nat) (vs : List Nat) (pt : Int) (pc rest : List Int) (w : World) (hp : Tag pt) (hv : Vw w b off (elem 48 (elem 6 (flat (v :: vs)) ++ elem pt pc) ++ rest)) (hN : N = (elem 48 (elem 6 (flat (v :: vs)) ++ elem pt pc) ++ rest).length) (hcap : N ≤ cap)
    (hb : (elem 6 (flat (v :: vs)) ++ elem pt pc).length < 65536) (hr : rest.length < 1000000) (hx : ∀ x ∈ v :: vs, x < 2147483648) (hl : (flat (v :: vs)).length < 1000) :
    Calls Yba.prog 18 #[.slice (some ⟨b, off, none⟩) N cap] w fun e w' => AlgOk w b v vs (elem pt pc) rest e w' := by
  have HR := read_at w b off cap N 48 (elem 6 (flat (v :: vs)) ++ elem pt pc) rest tag48 hv hN hcap hb hr
  have HR2 : Hid (∀ o1 c1 k, (elem 6 (flat (v :: vs)) ++ elem pt pc).length ≤ c1 → Vw w b o1 (elem 6 (flat (v :: vs)) ++ elem pt pc) → Calls Yba.prog 16 #[.slice (some ⟨b, o1, none⟩) (elem 6 (flat (v :: vs)) ++ elem pt pc).length c1] (w.drewN k) fun e w'' => ReadOk w b 6 (flat (v :: vs)) (elem pt pc) e w'') := by
    intro o1 c1 k h1 h2
    rw [List.length_append, elem_length] at hb
    exact (read_at w b o1 c1 _ 6 (flat (v :: vs)) (elem pt pc) tag6 h2 rfl h1 (by omega) (by omega)).out k
  have HP : Hid (∀ o1 c1 k, (elem pt pc).length ≤ c1 → Vw w b o1 (elem pt pc) → Calls Yba.prog 16 #[.slice (some ⟨b, o1, none⟩) (elem pt pc).length c1] (w.drewN k) fun e w'' => ReadOk w b pt pc [] e w'') := by
    intro o1 c1 k h1 h2
    rw [List.length_append, elem_length 6, elem_length pt] at hb
    exact (read_at w b o1 c1 _ pt pc [] hp (by simpa using h2) (by simp) h1 (by omega) (by simp)).out k
  have HO : Hid (∀ o3 c3 k, (flat (v :: vs)).length ≤ c3 → Vw w b o3 (flat (v :: vs)) → Calls Yba.prog 20 #[.slice (some ⟨b, o3, none⟩) (flat (v :: vs)).length c3] (w.drewN k) fun e w' => ∃ g c, e = .returned (.tuple #[.slice (some ⟨g, 0, none⟩) (vs.length + 2) c, .bool true]) ∧
      w'.ownsRow w.heap.size 3 1 (.slice (some ⟨g, 0, none⟩) (vs.length + 2) c) (vs.length + 2) (I (ids v vs)) ∧ Below w.heap.size w w') := fun o3 c3 k h1 h2 => (oid_at w b o3 c3 _ v vs h2 rfl h1 hx hl).out k
  have hpl : 0 < (elem pt pc).length := by rw [elem_length]; omega
  have hne : elem pt pc ≠ [] := by simp [elem]
  have hpl' : (((elem pt pc).length : Int) == 0) = false := by simp [elem]; omega
  clear hN hcap hb hr hv hx hl
  generalize elem 6 (flat (v :: vs)) ++ elem pt pc = body at *
  generalize flat (v :: vs) = fl at *
  generalize elem pt pc = pel at *
  have HNE : Hid (pel ≠ []) := hne
  clear hne
  go_enter Yba.func18, Yba.ntmps18
  go_wp2_with fail
  refine (HR.out 0).mono ?_
  rintro e w1 ⟨o1, c1, o2, c2, k, rfl, hc1, hc2, hv1, hv2, rfl⟩
  have HR3 := HR2.out o1 c1 k hc1 hv1
  clear HR HR2 hv1 hv2 hc1 hc2
  go_wp2_with fail
  refine HR3.mono ?_
  rintro e w1 ⟨o3, c3, o4, c4, k', rfl, hc3, hc4, hv3, hv4, rfl⟩
  have HP3 := HP.out o4 c4 k' hc4 hv4
  have HV4 : Hid (Vw w b o4 pel) := hv4
  have HV3 : Hid (Vw w b o3 fl) := hv3
  clear HR3 HP hv3 hv4
  go_wp2_with fail
  refine HP3.mono ?_
  rintro e w1 ⟨o5, c5, o6, c6, k'', rfl, hc5, hc6, hv5, hv6, rfl⟩
  have HO3 := HO.out o3 c3 k'' hc3 HV3.out
  clear HP3 HO hv5 hv6 hc3 hc4 hc5 hc6
  simp only [List.length_nil]
  go_wp2_with (go_at_call 20; refine HO3.mono ?_; rintro e w3 ⟨g, c, rfl, hown, hbel⟩)
  exact bodyPost_ret (v := .tuple #[.slice (some ⟨g, 0, none⟩) (vs.length + 2) c, .slice (some ⟨b, o4, none⟩) pel.length c4, .slice (some ⟨b, o2, none⟩) rest.length c2, .bool true]) (by simp [results, Yba.results18, go_sem]) rfl ⟨g, c, _, o2, c2, rfl, hown, hbel, .inr ⟨HNE.out, o4, c4, rfl, HV4.out⟩⟩
end Go.Proofs.Ybulkbxqk
