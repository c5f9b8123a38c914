/-
  tlv.Read at the start of a well-formed element: all lengths in one; (*Fields).Next.
-/
import Derived.Test.YbulkbxqkRead2
namespace Go.Proofs.Ybulkbxqk
open Go.RowKit

/-- A tag of one octet. -/
def Tag (t : Int) : Prop := 0 ≤ t ∧ t < 256 ∧ (bits .and .u8 t 31 == 31) = false

theorem Vw.at {w : World} {b off : Nat} {l : List Int} (h : Vw w b off l) (j : Nat) (v : Int) (hv : l[j]? = some v) : w.cell? ⟨b, off + j, none⟩ = some (.int .u8 v) := by
  rw [h j (List.getElem?_eq_some_iff.1 hv).1]
  simp [hv]

theorem raw_ok {w : World} {b off cap : Nat} {tag : Int} {hdr body rest : List Int} {e : Ending} {w' : World} (hv : Vw w b off (hdr ++ (body ++ rest))) (hcap : hdr.length + (body.length + rest.length) ≤ cap)
    (h : Raw w b off cap tag hdr.length body.length rest.length e w') : ReadOk w b tag body rest e w' := by
  obtain ⟨o1, o2, k, he, h1, h2, hw⟩ := h
  refine ⟨o1, _, o2, _, k, he, by omega, by omega, ?_, ?_, hw⟩
  · by_cases hz : 0 < body.length + rest.length
    · rw [h1 hz]; exact hv.right.left
    · have : body = [] := List.eq_nil_of_length_eq_zero (by omega)
      subst this; exact Vw.nil _ _ _
  · by_cases hz : 0 < rest.length
    · rw [h2 hz]; exact hv.right.right
    · have : rest = [] := List.eq_nil_of_length_eq_zero (by omega)
      subst this; exact Vw.nil _ _ _

theorem read_any (b off cap N : Nat) (tag : Int) (body rest : List Int) (w : World) (ht : Tag tag) (hv : Vw w b off (elem tag body ++ rest)) (hN : N = (elem tag body ++ rest).length) (hcap : N ≤ cap)
    (hb : body.length < 65536) (hr : rest.length < 1000000) :
    Calls Yba.prog 16 #[.slice (some ⟨b, off, none⟩) N cap] w fun e w' => ReadOk w b tag body rest e w' := by
  have hw : IntKind.u64.wrap ((body.length : Int) + (rest.length : Int)) = (body.length : Int) + (rest.length : Int) := by rw [IntKind.wrap_u64]; omega
  have h0 : w.cell? ⟨b, off, none⟩ = some (.int .u8 tag) := hv.at 0 tag (by simp [elem])
  by_cases h1 : body.length < 128
  · have he := lenEnc1 h1
    have hL : elem tag body ++ rest = [tag, (body.length : Int)] ++ (body ++ rest) := by simp [elem, he]
    rw [hL] at hv hN
    simp at hN
    obtain rfl : N = body.length + rest.length + 2 := by omega
    refine (read1 b off cap tag body.length rest.length w h0 (hv.at 1 _ rfl) ht.2.2 (by omega) (by omega) hw).mono ?_
    intro e w' h
    exact raw_ok hv (by simp; omega) h
  · by_cases h2 : body.length < 256
    · have he := lenEnc2 (by omega) h2
      have hL : elem tag body ++ rest = [tag, 129, (body.length : Int)] ++ (body ++ rest) := by simp [elem, he]
      rw [hL] at hv hN
      simp at hN
      obtain rfl : N = body.length + rest.length + 3 := by omega
      refine (read2 b off cap tag body.length rest.length w h0 (hv.at 1 _ rfl) (hv.at 2 _ rfl) ht.2.2 (by omega) (by omega) (by omega) hw).mono ?_
      intro e w' h
      exact raw_ok hv (by simp; omega) h
    · have he := lenEnc3 (n := body.length) (by omega)
      have hL : elem tag body ++ rest = [tag, 130, ((body.length / 256 : Nat) : Int), ((body.length % 256 : Nat) : Int)] ++ (body ++ rest) := by simp [elem, he]
      rw [hL] at hv hN
      simp at hN
      obtain rfl : N = body.length + rest.length + 4 := by omega
      refine (read3 b off cap tag (body.length / 256) (body.length % 256) body.length rest.length w h0 (hv.at 1 _ rfl) (hv.at 2 _ rfl) (hv.at 3 _ rfl) ht.2.2 (by omega) (by omega) (by omega) (by omega) (by omega) hw).mono ?_
      intro e w' h
      exact raw_ok hv (by simp; omega) h

set_option maxHeartbeats 1000000 in
set_option maxRecDepth 100000 in
/-- (*Fields).Next: the next field has that tag. -/
theorem next_ok (p b off cap N : Nat) (tag : Int) (body rest : List Int) (w : World) (hp : w.cell? ⟨p, 0, none⟩ = some (.slice (some ⟨b, off, none⟩) N cap)) (hf : w.frozen? ⟨p, 0, none⟩ = false)
    (ht : Tag tag) (hv : Vw w b off (elem tag body ++ rest)) (hN : N = (elem tag body ++ rest).length) (hcap : N ≤ cap) (hb : body.length < 65536) (hr : rest.length < 1000000) :
    Calls Yba.prog 17 #[.pointer (some ⟨p, 0, none⟩), .int .u8 tag] w fun e w' => ∃ o1 c1 o2 c2 k, e = .returned (.tuple #[.slice (some ⟨b, o1, none⟩) body.length c1, .bool true]) ∧
      rest.length ≤ c2 ∧ Vw w b o2 rest ∧ w' = (w.drewN k).setCell ⟨p, 0, none⟩ (.slice (some ⟨b, o2, none⟩) rest.length c2) := by
  have HR : Hid (∀ w', (∀ a, w'.cell? a = w.cell? a) → Calls Yba.prog 16 #[.slice (some ⟨b, off, none⟩) N cap] w' fun e w'' => ReadOk w' b tag body rest e w'') :=
    fun w' hw' => read_any b off cap N tag body rest w' ht (fun j hj => (hw' _).trans (hv j hj)) hN hcap hb hr
  clear hN hcap hb hr hv
  go_enter Yba.func17, Yba.ntmps17
  go_wp2_with (go_at_call 16; refine (HR.out _ (fun _ => rfl)).mono ?_; rintro e w1 ⟨o1, c1, o2, c2, k, rfl, hc1, hc2, hv1, hv2, rfl⟩)
  go_ret2
  exact ⟨o1, c1, o2, c2, k, rfl, hc2, hv2, rfl⟩

set_option maxHeartbeats 1000000 in
set_option maxRecDepth 100000 in
/-- (*Fields).Next: the next field has another tag. -/
theorem next_no (p b off cap N : Nat) (tag tag' : Int) (body rest : List Int) (w : World) (hp : w.cell? ⟨p, 0, none⟩ = some (.slice (some ⟨b, off, none⟩) N cap))
    (ht : Tag tag) (hne : (tag != tag') = true) (hv : Vw w b off (elem tag body ++ rest)) (hN : N = (elem tag body ++ rest).length) (hcap : N ≤ cap) (hb : body.length < 65536) (hr : rest.length < 1000000) :
    Calls Yba.prog 17 #[.pointer (some ⟨p, 0, none⟩), .int .u8 tag'] w fun e w' => ∃ k, e = .returned (.tuple #[.slice none 0 0, .bool false]) ∧ w' = w.drewN k := by
  have HR : Hid (∀ w', (∀ a, w'.cell? a = w.cell? a) → Calls Yba.prog 16 #[.slice (some ⟨b, off, none⟩) N cap] w' fun e w'' => ReadOk w' b tag body rest e w'') :=
    fun w' hw' => read_any b off cap N tag body rest w' ht (fun j hj => (hw' _).trans (hv j hj)) hN hcap hb hr
  clear hN hcap hb hr hv
  go_enter Yba.func17, Yba.ntmps17
  go_wp2_with (go_at_call 16; refine (HR.out _ (fun _ => rfl)).mono ?_; rintro e w1 ⟨o1, c1, o2, c2, k, rfl, hc1, hc2, hv1, hv2, rfl⟩)
  go_ret2
  exact ⟨k, rfl, rfl⟩
end Go.Proofs.Ybulkbxqk
