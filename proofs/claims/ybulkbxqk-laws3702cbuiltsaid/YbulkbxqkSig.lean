/-
  sigalg.signatureAlgorithm.
-/
import Derived.Test.YbulkbxqkAlg
namespace Go.Proofs.Ybulkbxqk
open Go.RowKit

/-- It refuses: an error, no identifier, no parameters. -/
def Refused (w : World) (e : Ending) (w' : World) : Prop :=
  ∃ p, e = .returned (.tuple #[.slice none 0 0, .slice none 0 0, .iface 58 (.pointer (some p))]) ∧ Below w.heap.size w w'

theorem bel_drewN (B : Nat) (w : World) (k : Nat) : Below B w (w.drewN k) := ⟨rfl, rfl, rfl, Nat.le_refl _, fun _ _ => rfl⟩

set_option maxHeartbeats 1000000 in
set_option maxRecDepth 100000 in
theorem sig_e1 (b off cap N : Nat) (tag : Int) (body rest : List Int) (w : World) (ht : Tag tag) (hne : (tag == 48) = false) (hv : Vw w b off (elem tag body ++ rest)) (hN : N = (elem tag body ++ rest).length) (hcap : N ≤ cap) (hb : body.length < 65536) (hr : rest.length < 1000000) :
    Calls Yba.prog 11 #[.slice (some ⟨b, off, none⟩) N cap] w fun e w' => Refused w e w' := by
  have HR := read_at w b off cap N tag body rest ht hv hN hcap hb hr
  clear hN hcap hb hr hv ht
  go_enter Yba.func11, Yba.ntmps11
  go_wp2_with (first | (go_at_call 16; refine (HR.out 0).mono ?_; rintro e w1 ⟨o1, c1, o2, c2, k, rfl, hc1, hc2, hv1, hv2, hw1⟩; have HB : Hid (Below w.heap.size w w1) := (by rw [hw1]; exact bel_drewN _ _ _); clear hw1) | go_in)
  go_ret3
  exact ⟨_, rfl, HB.out.alloc HB.out.size _⟩

set_option maxHeartbeats 1000000 in
set_option maxRecDepth 100000 in
theorem sig_e2 (b off cap N : Nat) (tag : Int) (tbs more rest : List Int) (w : World) (ht : Tag tag) (hne : (tag != 48) = true) (hv : Vw w b off (elem 48 (elem tag tbs ++ more) ++ rest)) (hN : N = (elem 48 (elem tag tbs ++ more) ++ rest).length) (hcap : N ≤ cap) (hb : (elem tag tbs ++ more).length < 65536) (hr : rest.length < 1000000) :
    Calls Yba.prog 11 #[.slice (some ⟨b, off, none⟩) N cap] w fun e w' => Refused w e w' := by
  have HR := read_at w b off cap N 48 (elem tag tbs ++ more) rest tag48 hv hN hcap hb hr
  have HX : Hid (∀ (w1 : World) o1 c1, Below w.heap.size w w1 → (elem tag tbs ++ more).length ≤ c1 → Vw w b o1 (elem tag tbs ++ more) →
      Calls Yba.prog 17 #[.pointer (some ⟨w1.heap.size, 0, none⟩), .int .u8 48] (w1.alloc (.cells #[.slice (some ⟨b, o1, none⟩) (elem tag tbs ++ more).length c1] 49)) fun e w' => e = .returned (.tuple #[.slice none 0 0, .bool false]) ∧ Below w.heap.size w w') := by
    intro w1 o1 c1 hb1 h1 h2
    rw [List.length_append, elem_length] at hb
    have hb2 := hb1.alloc hb1.size (.cells #[.slice (some ⟨b, o1, none⟩) (elem tag tbs ++ more).length c1] 49)
    refine (next_no w1.heap.size b o1 c1 _ tag 48 tbs more _ (by simp [go_sem]) ht hne (h2.all hb2) rfl h1 (by omega) (by omega)).mono ?_
    rintro e w' ⟨k, he, rfl⟩
    exact ⟨he, hb2.trans (bel_drewN _ _ _)⟩
  clear hN hcap hb hr hv ht
  generalize elem tag tbs ++ more = body at *
  go_enter Yba.func11, Yba.ntmps11
  go_wp2_with (go_at_call 16; refine (HR.out 0).mono ?_; rintro e w1 ⟨o1, c1, o2, c2, k, rfl, hc1, hc2, hv1, hv2, hw1⟩; have HB : Hid (Below w.heap.size w w1) := (by rw [hw1]; exact bel_drewN _ _ _); clear hw1)
  have HX2 := HX.out w1 o1 c1 HB.out hc1 hv1
  clear HX hv1 hv2 hc1 hc2 HR
  refine HX2.mono ?_
  rintro e w2 ⟨rfl, hb2⟩
  have HB2 : Hid (Below w.heap.size w w2) := hb2
  clear hb2 HX2 HB
  go_wp2_with go_in
  go_ret3
  exact ⟨_, rfl, HB2.out.alloc HB2.out.size _⟩
set_option maxHeartbeats 1000000 in
set_option maxRecDepth 100000 in
theorem sig_no (b off cap N : Nat) (tbs more rest : List Int) (w : World) (hv : Vw w b off (elem 48 (elem 48 tbs ++ more) ++ rest)) (hN : N = (elem 48 (elem 48 tbs ++ more) ++ rest).length) (hcap : N ≤ cap) (hb : (elem 48 tbs ++ more).length < 65536) (hr : rest.length < 1000000)
    (HA : ∀ (w2 : World) o c, Below w.heap.size w w2 → more.length ≤ c → Vw w2 b o more → Calls Yba.prog 18 #[.slice (some ⟨b, o, none⟩) more.length c] w2 fun e w' => e = .returned (.tuple #[.slice none 0 0, .slice none 0 0, .slice none 0 0, .bool false]) ∧ Below w.heap.size w w') :
    Calls Yba.prog 11 #[.slice (some ⟨b, off, none⟩) N cap] w fun e w' => Refused w e w' := by
  have HR := read_at w b off cap N 48 (elem 48 tbs ++ more) rest tag48 hv hN hcap hb hr
  have HX : Hid (∀ (w1 : World) o1 c1, Below w.heap.size w w1 → (elem 48 tbs ++ more).length ≤ c1 → Vw w b o1 (elem 48 tbs ++ more) →
      Calls Yba.prog 17 #[.pointer (some ⟨w1.heap.size, 0, none⟩), .int .u8 48] (w1.alloc (.cells #[.slice (some ⟨b, o1, none⟩) (elem 48 tbs ++ more).length c1] 49)) fun e w' => ∃ o3 c3 o4 c4, e = .returned (.tuple #[.slice (some ⟨b, o3, none⟩) tbs.length c3, .bool true]) ∧
        w'.cell? ⟨w1.heap.size, 0, none⟩ = some (.slice (some ⟨b, o4, none⟩) more.length c4) ∧ more.length ≤ c4 ∧ Vw w' b o4 more ∧ Below w.heap.size w w') := by
    intro w1 o1 c1 hb1 h1 h2
    rw [List.length_append, elem_length] at hb
    have hb2 := hb1.alloc hb1.size (.cells #[.slice (some ⟨b, o1, none⟩) (elem 48 tbs ++ more).length c1] 49)
    refine (next_ok w1.heap.size b o1 c1 _ 48 tbs more _ (by simp [go_sem]) (by simp [go_sem]) tag48 (h2.all hb2) rfl h1 (by omega) (by omega)).mono ?_
    rintro e w' ⟨o3, c3, o4, c4, k, he, hc4, hv4, rfl⟩
    have hb3 := (bel_drewN w1.heap.size (w1.alloc (.cells #[.slice (some ⟨b, o1, none⟩) (elem 48 tbs ++ more).length c1] 49)) k).setCell (p := ⟨w1.heap.size, 0, none⟩) (Nat.le_refl _) (.slice (some ⟨b, o4, none⟩) more.length c4)
    refine ⟨o3, c3, o4, c4, he, ?_, hc4, ?_, hb2.trans (hb3.mono hb1.size)⟩
    · refine World.cell?_setCell_same' _ _ _ ?_
      simp [go_sem]
    · refine hv4.below hb3 (fun hz => ?_)
      have := (h2.right).lt (by omega)
      have := hb1.size; omega
  clear hN hcap hb hr hv
  generalize elem 48 tbs ++ more = body at *
  go_enter Yba.func11, Yba.ntmps11
  go_wp2_with (go_at_call 16; refine (HR.out 0).mono ?_; rintro e w1 ⟨o1, c1, o2, c2, k, rfl, hc1, hc2, hv1, hv2, hw1⟩; have HB : Hid (Below w.heap.size w w1) := (by rw [hw1]; exact bel_drewN _ _ _); clear hw1)
  have HX2 := HX.out w1 o1 c1 HB.out hc1 hv1
  clear HX hv1 hv2 hc1 hc2 HR
  refine HX2.mono ?_
  rintro e w2 ⟨o3, c3, o4, c4, rfl, hcell, hc4, hv4, hb2⟩
  have HB2 : Hid (Below w.heap.size w w2) := hb2
  have HA2 := HA w2 o4 c4 hb2 hc4 hv4
  clear hb2 HX2 HB HA hc4 hv4
  go_wp2_with fail
  refine HA2.mono ?_
  rintro e w3 ⟨rfl, hb3⟩
  have HB3 : Hid (Below w.heap.size w w3) := hb3
  clear hb3 HA2 HB2
  go_wp2_with go_in
  go_ret3
  exact ⟨_, rfl, HB3.out.alloc HB3.out.size _⟩

/-- It reads the AlgorithmIdentifier. -/
def SigOk (w : World) (v : Nat) (vs : List Nat) (pel : List Int) (e : Ending) (w' : World) : Prop :=
  ∃ g c ps, e = .returned (.tuple #[.slice (some ⟨g, 0, none⟩) (vs.length + 2) c, ps, .nilIface]) ∧
    w'.ownsRow w.heap.size 3 1 (.slice (some ⟨g, 0, none⟩) (vs.length + 2) c) (vs.length + 2) (I (ids v vs)) ∧ Below w.heap.size w w' ∧
    ((pel = [] ∧ ps = .slice none 0 0) ∨ (pel ≠ [] ∧ ∃ b o4 c4, ps = .slice (some ⟨b, o4, none⟩) pel.length c4 ∧ Vw w' b o4 pel))

set_option maxHeartbeats 1000000 in
set_option maxRecDepth 100000 in
theorem sig_ok (b off cap N : Nat) (tbs more rest : List Int) (v : Nat) (vs : List Nat) (pel : List Int) (w : World) (hv : Vw w b off (elem 48 (elem 48 tbs ++ more) ++ rest)) (hN : N = (elem 48 (elem 48 tbs ++ more) ++ rest).length) (hcap : N ≤ cap) (hb : (elem 48 tbs ++ more).length < 65536) (hr : rest.length < 1000000)
    (HA : ∀ (w2 : World) o c, Below w.heap.size w w2 → more.length ≤ c → Vw w2 b o more → Calls Yba.prog 18 #[.slice (some ⟨b, o, none⟩) more.length c] w2 fun e w' =>
      ∃ g c ps o2 c2 n2, e = .returned (.tuple #[.slice (some ⟨g, 0, none⟩) (vs.length + 2) c, ps, .slice (some ⟨b, o2, none⟩) n2 c2, .bool true]) ∧
      w'.ownsRow w.heap.size 3 1 (.slice (some ⟨g, 0, none⟩) (vs.length + 2) c) (vs.length + 2) (I (ids v vs)) ∧ Below w.heap.size w w' ∧
      ((pel = [] ∧ ps = .slice none 0 0) ∨ (pel ≠ [] ∧ ∃ b o4 c4, ps = .slice (some ⟨b, o4, none⟩) pel.length c4 ∧ Vw w' b o4 pel))) :
    Calls Yba.prog 11 #[.slice (some ⟨b, off, none⟩) N cap] w fun e w' => SigOk w v vs pel e w' := by
  have HR := read_at w b off cap N 48 (elem 48 tbs ++ more) rest tag48 hv hN hcap hb hr
  have HX : Hid (∀ (w1 : World) o1 c1, Below w.heap.size w w1 → (elem 48 tbs ++ more).length ≤ c1 → Vw w b o1 (elem 48 tbs ++ more) →
      Calls Yba.prog 17 #[.pointer (some ⟨w1.heap.size, 0, none⟩), .int .u8 48] (w1.alloc (.cells #[.slice (some ⟨b, o1, none⟩) (elem 48 tbs ++ more).length c1] 49)) fun e w' => ∃ o3 c3 o4 c4, e = .returned (.tuple #[.slice (some ⟨b, o3, none⟩) tbs.length c3, .bool true]) ∧
        w'.cell? ⟨w1.heap.size, 0, none⟩ = some (.slice (some ⟨b, o4, none⟩) more.length c4) ∧ more.length ≤ c4 ∧ Vw w' b o4 more ∧ Below w.heap.size w w') := by
    intro w1 o1 c1 hb1 h1 h2
    rw [List.length_append, elem_length] at hb
    have hb2 := hb1.alloc hb1.size (.cells #[.slice (some ⟨b, o1, none⟩) (elem 48 tbs ++ more).length c1] 49)
    refine (next_ok w1.heap.size b o1 c1 _ 48 tbs more _ (by simp [go_sem]) (by simp [go_sem]) tag48 (h2.all hb2) rfl h1 (by omega) (by omega)).mono ?_
    rintro e w' ⟨o3, c3, o4, c4, k, he, hc4, hv4, rfl⟩
    have hb3 := (bel_drewN w1.heap.size (w1.alloc (.cells #[.slice (some ⟨b, o1, none⟩) (elem 48 tbs ++ more).length c1] 49)) k).setCell (p := ⟨w1.heap.size, 0, none⟩) (Nat.le_refl _) (.slice (some ⟨b, o4, none⟩) more.length c4)
    refine ⟨o3, c3, o4, c4, he, ?_, hc4, ?_, hb2.trans (hb3.mono hb1.size)⟩
    · refine World.cell?_setCell_same' _ _ _ ?_
      simp [go_sem]
    · refine hv4.below hb3 (fun hz => ?_)
      have := (h2.right).lt (by omega)
      have := hb1.size; omega
  clear hN hcap hb hr hv
  generalize elem 48 tbs ++ more = body at *
  go_enter Yba.func11, Yba.ntmps11
  go_wp2_with (go_at_call 16; refine (HR.out 0).mono ?_; rintro e w1 ⟨o1, c1, o2, c2, k, rfl, hc1, hc2, hv1, hv2, hw1⟩; have HB : Hid (Below w.heap.size w w1) := (by rw [hw1]; exact bel_drewN _ _ _); clear hw1)
  have HX2 := HX.out w1 o1 c1 HB.out hc1 hv1
  clear HX hv1 hv2 hc1 hc2 HR
  refine HX2.mono ?_
  rintro e w2 ⟨o3, c3, o4, c4, rfl, hcell, hc4, hv4, hb2⟩
  have HB2 : Hid (Below w.heap.size w w2) := hb2
  have HA2 := HA w2 o4 c4 hb2 hc4 hv4
  clear hb2 HX2 HB HA hc4 hv4
  go_wp2_with fail
  refine HA2.mono ?_
  rintro e w3 ⟨g, c, ps, o5, c5, n5, rfl, hown, hb3, hps⟩
  have HB3 : Hid (Below w.heap.size w w3) := hb3
  have HP : Hid ((pel = [] ∧ ps = .slice none 0 0) ∨ (pel ≠ [] ∧ ∃ b o4 c4, ps = .slice (some ⟨b, o4, none⟩) pel.length c4 ∧ Vw w3 b o4 pel)) := hps
  clear hb3 HA2 HB2 hps
  go_wp2
  go_ret3
  exact ⟨g, c, ps, rfl, hown, HB3.out, HP.out⟩
theorem len_app (l m : List Int) : (l ++ m).length = l.length + m.length := List.length_append

/-! ### The five ways of LawS3702CBuilt's builder -/
def der (ot tt at_ oidt : Int) (tbs oid pel sg trail : List Int) : List Int := elem ot (elem tt tbs ++ (elem at_ (elem oidt oid ++ pel) ++ elem 3 sg)) ++ trail

theorem sig_e3 (b off cap N : Nat) (tag : Int) (tbs oid pel sg trail : List Int) (oidt : Int) (w : World) (ht : Tag tag) (hne : (tag != 48) = true) (hv : Vw w b off (der 48 48 tag oidt tbs oid pel sg trail)) (hN : N = (der 48 48 tag oidt tbs oid pel sg trail).length) (hcap : N ≤ cap)
    (hb : N < 65536) : Calls Yba.prog 11 #[.slice (some ⟨b, off, none⟩) N cap] w fun e w' => Refused w e w' := by
  have hl : N = 1 + ((lenEnc (elem 48 tbs ++ (elem tag (elem oidt oid ++ pel) ++ elem 3 sg)).length).length + (elem 48 tbs ++ (elem tag (elem oidt oid ++ pel) ++ elem 3 sg)).length) + trail.length := by
    rw [hN, der, List.length_append, elem_length]
  refine sig_no b off cap N tbs _ trail w hv hN hcap (by omega) (by omega) ?_
  intro w2 o c hb2 hc hv2
  rw [len_app (elem 48 tbs), len_app (elem tag (elem oidt oid ++ pel)), elem_length 48 tbs, elem_length tag (elem oidt oid ++ pel)] at hl
  refine (alg_no1 b o c _ tag (elem oidt oid ++ pel) (elem 3 sg) w2 ht hne hv2 rfl hc (by omega) (by omega)).mono ?_
  rintro e w' ⟨k, he, rfl⟩
  exact ⟨he, hb2.trans (bel_drewN _ _ _)⟩

theorem sig_e4 (b off cap N : Nat) (tag : Int) (tbs oid pel sg trail : List Int) (w : World) (ht : Tag tag) (hne : (tag != 6) = true) (hv : Vw w b off (der 48 48 48 tag tbs oid pel sg trail)) (hN : N = (der 48 48 48 tag tbs oid pel sg trail).length) (hcap : N ≤ cap)
    (hb : N < 65536) : Calls Yba.prog 11 #[.slice (some ⟨b, off, none⟩) N cap] w fun e w' => Refused w e w' := by
  have hl : N = 1 + ((lenEnc (elem 48 tbs ++ (elem 48 (elem tag oid ++ pel) ++ elem 3 sg)).length).length + (elem 48 tbs ++ (elem 48 (elem tag oid ++ pel) ++ elem 3 sg)).length) + trail.length := by
    rw [hN, der, List.length_append, elem_length]
  refine sig_no b off cap N tbs _ trail w hv hN hcap (by omega) (by omega) ?_
  intro w2 o c hb2 hc hv2
  rw [len_app (elem 48 tbs), len_app (elem 48 (elem tag oid ++ pel)), elem_length 48 tbs, elem_length 48 (elem tag oid ++ pel)] at hl
  refine (alg_no2 b o c _ tag oid pel (elem 3 sg) w2 ht hne hv2 rfl hc (by omega) (by omega)).mono ?_
  rintro e w' ⟨k, he, rfl⟩
  exact ⟨he, hb2.trans (bel_drewN _ _ _)⟩

theorem sig_ok0 (b off cap N : Nat) (tbs : List Int) (v : Nat) (vs : List Nat) (sg trail : List Int) (w : World) (hv : Vw w b off (der 48 48 48 6 tbs (flat (v :: vs)) [] sg trail)) (hN : N = (der 48 48 48 6 tbs (flat (v :: vs)) [] sg trail).length) (hcap : N ≤ cap)
    (hb : N < 65536) (hx : ∀ x ∈ v :: vs, x < 2147483648) (hfl : (flat (v :: vs)).length < 1000) : Calls Yba.prog 11 #[.slice (some ⟨b, off, none⟩) N cap] w fun e w' => SigOk w v vs [] e w' := by
  have hl : N = 1 + ((lenEnc (elem 48 tbs ++ (elem 48 (elem 6 (flat (v :: vs)) ++ []) ++ elem 3 sg)).length).length + (elem 48 tbs ++ (elem 48 (elem 6 (flat (v :: vs)) ++ []) ++ elem 3 sg)).length) + trail.length := by
    rw [hN, der, List.length_append, elem_length]
  refine sig_ok b off cap N tbs _ trail v vs [] w hv hN hcap (by omega) (by omega) ?_
  intro w2 o c hb2 hc hv2
  rw [len_app (elem 48 tbs), len_app (elem 48 (elem 6 (flat (v :: vs)) ++ [])), elem_length 48 tbs, elem_length 48 (elem 6 (flat (v :: vs)) ++ [])] at hl
  refine (alg_ok0 b o c _ v vs (elem 3 sg) w2 hv2 rfl hc (by omega) (by omega) hx hfl).mono ?_
  rintro e w' ⟨g, c', ps, o2, c2, he, hown, hbel, hps⟩
  refine ⟨g, c', ps, o2, c2, _, he, own_base hown (Nat.le_trans hb2.size (own_lt hown).1), hb2.trans (hbel.mono hb2.size), ?_⟩
  rcases hps with h | ⟨h, _⟩
  · exact .inl h
  · exact absurd rfl h

theorem sig_ok1 (b off cap N : Nat) (tbs : List Int) (v : Nat) (vs : List Nat) (pt : Int) (pc sg trail : List Int) (w : World) (hp : Tag pt) (hv : Vw w b off (der 48 48 48 6 tbs (flat (v :: vs)) (elem pt pc) sg trail)) (hN : N = (der 48 48 48 6 tbs (flat (v :: vs)) (elem pt pc) sg trail).length) (hcap : N ≤ cap)
    (hb : N < 65536) (hx : ∀ x ∈ v :: vs, x < 2147483648) (hfl : (flat (v :: vs)).length < 1000) : Calls Yba.prog 11 #[.slice (some ⟨b, off, none⟩) N cap] w fun e w' => SigOk w v vs (elem pt pc) e w' := by
  have hl : N = 1 + ((lenEnc (elem 48 tbs ++ (elem 48 (elem 6 (flat (v :: vs)) ++ elem pt pc) ++ elem 3 sg)).length).length + (elem 48 tbs ++ (elem 48 (elem 6 (flat (v :: vs)) ++ elem pt pc) ++ elem 3 sg)).length) + trail.length := by
    rw [hN, der, List.length_append, elem_length]
  refine sig_ok b off cap N tbs _ trail v vs (elem pt pc) w hv hN hcap (by omega) (by omega) ?_
  intro w2 o c hb2 hc hv2
  rw [len_app (elem 48 tbs), len_app (elem 48 (elem 6 (flat (v :: vs)) ++ elem pt pc)), elem_length 48 tbs, elem_length 48 (elem 6 (flat (v :: vs)) ++ elem pt pc)] at hl
  refine (alg_ok1 b o c _ v vs pt pc (elem 3 sg) w2 hp hv2 rfl hc (by omega) (by omega) hx hfl).mono ?_
  rintro e w' ⟨g, c', ps, o2, c2, he, hown, hbel, hps⟩
  refine ⟨g, c', ps, o2, c2, _, he, own_base hown (Nat.le_trans hb2.size (own_lt hown).1), hb2.trans (hbel.mono hb2.size), ?_⟩
  rcases hps with h | ⟨h, o4, c4, h4, h5⟩
  · exact .inl h
  · exact .inr ⟨h, b, o4, c4, h4, h5.all hbel⟩
end Go.Proofs.Ybulkbxqk
