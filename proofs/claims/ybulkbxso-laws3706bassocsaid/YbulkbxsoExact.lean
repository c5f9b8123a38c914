/-
  LawS3706BExact: the walk.
-/
import Derived.Test.YbulkbxsoBox
import Derived.Deep.DeepCutAuto
namespace Go.Proofs.Ybulkbxso
open Go.RowKit
set_option linter.unusedVariables false

/-- The three Ints. -/
def E3 (w W : World) (X C U : Nat) (x1 x2 c1 c2 u1 u2 : Option Addr) (a b ca cb ua ub : Int) : Prop :=
  Below w.heap.size w W ∧ Ob W X x1 x2 ∧ Ob W C c1 c2 ∧ Ob W U u1 u2 ∧ IntV W (.agg #[.pointer x1, .pointer x2]) a b ∧ IntV W (.agg #[.pointer c1, .pointer c2]) ca cb ∧ IntV W (.agg #[.pointer u1, .pointer u2]) ua ub
section
variable {w W W' : World} {X C U : Nat} {x1 x2 c1 c2 u1 u2 : Option Addr} {a b ca cb ua ub : Int}
theorem E3.go (h : E3 w W X C U x1 x2 c1 c2 u1 u2 a b ca cb ua ub) (hb : Below W.heap.size W W') : E3 w W' X C U x1 x2 c1 c2 u1 u2 a b ca cb ua ub := by
  obtain ⟨h1, h2, h3, h4, h5, h6, h7⟩ := h
  exact ⟨h1.trans (bel_less hb h1.size), h2.go hb, h3.go hb, h4.go hb, h5.below hb, h6.below hb, h7.below hb⟩
abbrev E3c (W : World) (X C U : Nat) (x1 x2 c1 c2 u1 u2 : Option Addr) : Prop :=
  W.cell? ⟨X, 0, none⟩ = some (.pointer x1) ∧ W.cell? ⟨X, 1, none⟩ = some (.pointer x2) ∧ W.cell? ⟨C, 0, none⟩ = some (.pointer c1) ∧ W.cell? ⟨C, 1, none⟩ = some (.pointer c2) ∧ W.cell? ⟨U, 0, none⟩ = some (.pointer u1) ∧ W.cell? ⟨U, 1, none⟩ = some (.pointer u2)
theorem E3.cells (h : E3 w W X C U x1 x2 c1 c2 u1 u2 a b ca cb ua ub) : E3c W X C U x1 x2 c1 c2 u1 u2 :=
  ⟨h.2.1.cells.1, h.2.1.cells.2, h.2.2.1.cells.1, h.2.2.1.cells.2, h.2.2.2.1.cells.1, h.2.2.2.1.cells.2⟩
abbrev Small (x : Int) : Prop := -4611686018427387904 < x ∧ x < 4611686018427387904
theorem unitP_small (k : Nat) : Small (unitP k).1 ∧ Small (unitP k).2 := by
  unfold unitP
  split <;> exact ⟨⟨by decide, by decide⟩, ⟨by decide, by decide⟩⟩
theorem E3.eq (h : E3 w W X C U x1 x2 c1 c2 u1 u2 a b ca cb ua ub) (y1 y2 : Option Addr) (p q : Int) (hp : Small p) (hq : Small q) (hI : IntV W (.agg #[.pointer y1, .pointer y2]) p q) :
    Calls Yba.prog 12 #[.agg #[.pointer y1, .pointer y2], .int .i64 p, .int .i64 q] W fun e W' => e = .returned (.bool true) ∧ E3 w W' X C U x1 x2 c1 c2 u1 u2 a b ca cb ua ub ∧ E3c W' X C U x1 x2 c1 c2 u1 u2 := by
  refine (beq_any y1 y2 p q p q W hp.1 hp.2 hq.1 hq.2 hI).mono ?_
  rintro e W' ⟨rfl, hb⟩
  exact ⟨by simp, h.go hb, (h.go hb).cells⟩
end

set_option maxHeartbeats 2000000 in
set_option maxRecDepth 100000 in
theorem exact_walk (HC : Hid Canon) (a b : Int) (z : Bool) (ha1 : -2147483648 ≤ a) (ha2 : a ≤ 2147483647) (hb1 : -2147483648 ≤ b) (hb2 : b ≤ 2147483647) (w : World) :
    Calls Yba.prog 3 #[.int .i32 a, .int .i32 b, .bool z] w fun e w' => e = .returned (.bool true) ∧ Below w.heap.size w w' := by
  have e1 : IntKind.i64.wrap a = a := by rw [IntKind.wrap_i64]; omega
  have e2 : IntKind.i64.wrap b = b := by rw [IntKind.wrap_i64]; omega
  have HA : Hid (Small a) := ⟨by omega, by omega⟩
  have HB : Hid (Small b) := ⟨by omega, by omega⟩
  have HS : Hid (a.natAbs + b.natAbs < 18446744073709551616) := by show _ < _; omega
  have HM : Hid (∀ k : Nat, k < 6 → ∀ W : World, Calls Yba.prog 10 #[.int .i64 (k : Int), .int .i64 a, .int .i64 b] W fun e w' => e = .returned (.tuple #[.int .i64 (mulP k a b).1, .int .i64 (mulP k a b).2]) ∧ w' = W) := fun k hk W => mul_any k hk a b (by omega) (by omega) (by omega) (by omega) W
  have HR : Hid (Small (mulP (kP a b) a b).1 ∧ Small (mulP (kP a b) a b).2) := by
    have := mulP_bound (kP a b) (kP_lt a b) a b 2147483648 (by omega) (by omega) (by omega) (by omega)
    exact ⟨⟨by omega, by omega⟩, ⟨by omega, by omega⟩⟩
  clear ha1 ha2 hb1 hb2
  go_enter Yba.func3, Yba.ntmps3
  go_upto_region 2 with fail
  go_cut [9] (fun v wx => Ex w wx v a b)
  case first => as_aux_lemma =>
    go_wp2_with (first
      | (go_at_call_of 8 (Value.int IntKind.i64 a); refine (newInt_any a _ HA.out.1 HA.out.2).mono ?_; rintro e W1 ⟨p, rfl, hp, hB1, hb1⟩)
      | (go_at_call_of 8 (Value.int IntKind.i64 b); refine (newInt_any b _ HB.out.1 HB.out.2).mono ?_; rintro e W2 ⟨q, rfl, hq, hB2, hb2⟩)
      | (go_at_call 7; refine (new_any (some ⟨p, 0, none⟩) (some ⟨q, 0, none⟩) _).mono ?_; rintro e W3 ⟨rfl, hW3⟩))
    go_meet
    case rel =>
      have s1 := hb1.size
      have s2 := hb2.size
      have hb3 : Below W2.heap.size W2 W3 := by rw [hW3]; exact (Below.refl _ _).alloc (Nat.le_refl _) _
      have s3 := hb3.size
      have hb4 : Below W3.heap.size W3 (W3.alloc (.cells #[ptr p, ptr q] 24)) := (Below.refl _ _).alloc (Nat.le_refl _) _
      have o : Ob (W3.alloc (.cells #[ptr p, ptr q] 24)) W3.heap.size (some ⟨p, 0, none⟩) (some ⟨q, 0, none⟩) := heap_alloc_new _ _
      rw [← hW3]
      have hb14 : Below W1.heap.size W1 _ := (hb2.trans (bel_less hb3 s2)).trans (bel_less hb4 (by omega))
      exact ⟨W3.heap.size, _, _, by rw [hW3]; simp, by omega, hb1.trans (bel_less hb14 s1), o, .inr ⟨p, q, rfl, hB1.ne hq, hB1.below hb14, (hB2.below (hb3.trans (bel_less hb4 s3)))⟩⟩
  case rest =>
    obtain ⟨X, x1, x2, rfl, hX, hb, hO, hI⟩ := hcut
    go_upto_region 3 with fail
    go_cut [36] (fun v wx => v = .bool (z && decide (a = 0) && decide (b = 0)) ∧ wx = wc)
    case first => as_aux_lemma =>
      by_cases h0 : z = true
      · by_cases h1 : a = 0
        · by_cases h2 : b = 0
          · subst h0 h1 h2
            go_wp2
            go_meet
            case rel => exact ⟨rfl, rfl⟩
          · subst h0 h1
            go_wp2
            go_meet
            case rel => exact ⟨by simp [h2], rfl⟩
        · subst h0
          go_wp2
          go_meet
          case rel => exact ⟨by simp [h1], rfl⟩
      · have h0 : z = false := by simpa using h0
        subst h0
        go_wp2
        go_meet
        case rel => exact ⟨rfl, rfl⟩
    case rest =>
      obtain ⟨rfl, rfl⟩ := hcut
      go_upto_if 36 with fail
      go_cut [9] (fun v wx => Ex w wx v a b)
      case first => as_aux_lemma =>
        obtain ⟨o1, o2⟩ := hO.cells
        obtain ⟨o3, o4⟩ := hO.free
        by_cases h0 : (z && decide (a = 0) && decide (b = 0)) = true
        · have h1 : a = 0 := by simp at h0; exact h0.1.2
          have h2 : b = 0 := by simp at h0; exact h0.2
          rw [h0]
          go_wp2
          go_meet
          case rel => exact ⟨X, none, none, rfl, hX, bel_putRes hb hX _ _, hO.put _ _, .inl ⟨rfl, h1, h2⟩⟩
        · have h0 : (z && decide (a = 0) && decide (b = 0)) = false := by simpa using h0
          rw [h0]
          go_wp2
          go_meet
          case rel => exact ⟨X, x1, x2, rfl, hX, hb, hO, hI⟩
      case rest =>
        clear hO hI hb hX
        obtain ⟨X, x1, x2, rfl, hX, hb, hO, hI⟩ := hcut
        go_upto_region 5 with fail
        go_cut [10, 11] (fun v10 v11 wx => ∃ C U c1 c2 u1 u2, v10 = ptr C ∧ v11 = ptr U ∧ E3 w wx X C U x1 x2 c1 c2 u1 u2 a b (mulP (kP a b) a b).1 (mulP (kP a b) a b).2 (unitP (kP a b)).1 (unitP (kP a b)).2)
        case first => as_aux_lemma =>
          obtain ⟨o1, o2⟩ := hO.cells
          go_wp2_with (go_at_call 9; refine (HC.out x1 x2 a b _ hI HS.out).mono ?_; rintro e W1 ⟨c1, c2, u1, u2, rfl, hc, hu, hb1⟩)
          go_meet
          case rel =>
            have s1 := hb.size
            have s2 := hb1.size
            have b1 : Below W1.heap.size W1 (W1.alloc (.cells #[.pointer c1, .pointer c2] 24)) := (Below.refl _ _).alloc (Nat.le_refl _) _
            have s3 := b1.size
            have z3 : (W1.alloc (.cells #[.pointer c1, .pointer c2] 24)).heap.size = W1.heap.size + 1 := by simp
            have b2 : Below (W1.alloc (.cells #[.pointer c1, .pointer c2] 24)).heap.size (W1.alloc (.cells #[.pointer c1, .pointer c2] 24)) ((W1.alloc (.cells #[.pointer c1, .pointer c2] 24)).alloc (.cells #[.pointer u1, .pointer u2] 24)) := (Below.refl _ _).alloc (Nat.le_refl _) _
            have o : Ob (W1.alloc (.cells #[.pointer c1, .pointer c2] 24)) W1.heap.size c1 c2 := heap_alloc_new _ _
            have o' : Ob ((W1.alloc (.cells #[.pointer c1, .pointer c2] 24)).alloc (.cells #[.pointer u1, .pointer u2] 24)) (W1.heap.size + 1) u1 u2 := by rw [← z3]; exact heap_alloc_new _ _
            have b12 : Below W1.heap.size W1 _ := b1.trans (bel_less b2 s3)
            have b02 : Below wc.heap.size wc _ := hb1.trans (bel_less b12 s2)
            exact ⟨W1.heap.size, W1.heap.size + 1, c1, c2, u1, u2, rfl, rfl, hb.trans (bel_less b02 s1), hO.go b02, o.go b2, o', hI.below b02, hc.below b12, hu.below b12⟩
        case rest =>
          clear hO hI hb hX
          obtain ⟨C, U, c1, c2, u1, u2, rfl, rfl, hE⟩ := hcut
          obtain ⟨S, hS6, HN, HY, HZ⟩ : ∃ S, S ≤ 6 ∧ (Hid (∀ j, j < S → ¬ Good j a b)) ∧ Hid (S < 6 → S = kP a b ∧ Good S a b) ∧ Hid (S = 6 → a = 0 ∧ b = 0) := by
            by_cases h : a = 0 ∧ b = 0
            · obtain ⟨rfl, rfl⟩ := h
              exact ⟨6, Nat.le_refl _, fun j hj => by rw [Good, mulP_zero j hj]; simp, fun h => by omega, fun _ => ⟨rfl, rfl⟩⟩
            · exact ⟨kP a b, by have := kP_lt a b; omega, fun j hj hg => by have := good_only a b j (by have := kP_lt a b; omega) hg; omega, fun _ => ⟨rfl, good_kP a b h⟩, fun e => by have := kP_lt a b; omega⟩
          obtain ⟨q1, q2, q3, q4, q5, q6⟩ := hE.cells
          have HE : Hid _ := hE
          clear hE
          go_wp2
          go_loop [12, 13, 14, 15, 16] (fun ea eb ua ub ix => ∃ j : Nat, j ≤ S ∧ ix = .int .i64 j ∧ ea = .int .i64 0 ∧ eb = .int .i64 0 ∧ ua = .int .i64 1 ∧ ub = .int .i64 0) (fun _ _ _ _ ix => 6 - (intOf ix).toNat)
          case atStart => exact ⟨0, Nat.zero_le _, rfl, rfl, rfl, rfl, rfl⟩
          case round =>
            obtain ⟨j, hj, rfl, rfl, rfl, rfl, rfl⟩ := hrel
            by_cases h6 : (j : Int) < 6
            · obtain ⟨P, Q, hPQ⟩ : ∃ P Q, mulP j a b = (P, Q) := ⟨_, _, rfl⟩
              have HMj : Hid (∀ W : World, Calls Yba.prog 10 #[.int .i64 (j : Int), .int .i64 a, .int .i64 b] W fun e w' => e = .returned (.tuple #[.int .i64 P, .int .i64 Q]) ∧ w' = W) := fun W => by have := HM.out j (by omega) W; rw [hPQ] at this; exact this
              by_cases hjS : j < S
              · have hn := HN.out j hjS
                rw [Good, hPQ] at hn
                by_cases h1 : 0 ≤ Q
                · have h2 : ¬ Q < P := fun h => hn ⟨h1, h⟩
                  clear hn hPQ
                  go_wp2_with (go_at_call 10; refine (HMj.out _).mono ?_; rintro e W1 ⟨rfl, rfl⟩)
                  go_round
                  case rel => exact ⟨j + 1, by omega, by go_num, rfl, rfl, rfl, rfl⟩
                  case measure => simp [intOf]; omega
                · clear hn hPQ
                  go_wp2_with (go_at_call 10; refine (HMj.out _).mono ?_; rintro e W1 ⟨rfl, rfl⟩)
                  go_round
                  case rel => exact ⟨j + 1, by omega, by go_num, rfl, rfl, rfl, rfl⟩
                  case measure => simp [intOf]; omega
              obtain rfl : j = S := by omega
              obtain ⟨UA, UB, hU⟩ : ∃ P Q, unitP j = (P, Q) := ⟨_, _, rfl⟩
              obtain ⟨hk, hg⟩ := HY.out (by omega)
              have HUj : Hid (∀ W : World, Calls Yba.prog 11 #[.int .i64 (j : Int)] W fun e w' => e = .returned (.tuple #[.int .i64 UA, .int .i64 UB]) ∧ w' = W) := fun W => by have := unitT_any j (by omega) W; rw [hU] at this; exact this
              rw [Good, hPQ] at hg
              rw [← hk, hPQ, hU] at HE
              rw [← hk, hPQ] at HR
              obtain ⟨h1, h2⟩ := hg
              have HP : Hid (Small P) := HR.out.1
              have HQ : Hid (Small Q) := HR.out.2
              have HUU : Small UA ∧ Small UB := by
                have := unitP_small j
                rw [hU] at this; exact this
              have HUA : Hid (Small UA) := HUU.1
              have HUB : Hid (Small UB) := HUU.2
              replace h1 : 0 ≤ Q := h1
              replace h2 : Q < P := h2
              clear hk hPQ hU HN HY HZ HR HUU hj hjS hS6
              go_wp2_with (first
                | (go_at_call 10; refine (HMj.out _).mono ?_; rintro e W1 ⟨rfl, rfl⟩)
                | (go_at_call 11; refine (HUj.out _).mono ?_; rintro e W1 ⟨rfl, rfl⟩)
                | (go_at_call_of 12 (Value.agg #[.pointer c1, .pointer c2]); refine (E3.eq HE.out c1 c2 P Q HP.out HQ.out HE.out.2.2.2.2.2.1).mono ?_; rintro e W2 ⟨rfl, E2, r1, r2, r3, r4, r5, r6⟩)
                | (go_at_call_of 12 (Value.agg #[.pointer u1, .pointer u2]); refine (E3.eq E2 u1 u2 UA UB HUA.out HUB.out E2.2.2.2.2.2.2).mono ?_; rintro e W3 ⟨rfl, E3', v1, v2, v3, v4, v5, v6⟩)
                | (go_at_call_of 12 (Value.agg #[.pointer x1, .pointer x2]); refine (E3.eq E3' x1 x2 a b HA.out HB.out E3'.2.2.2.2.1).mono ?_; rintro e W4 ⟨rfl, E4, y1, y2, y3, y4, y5, y6⟩))
              go_ret
              exact ⟨rfl, E4.1⟩
            · obtain rfl : j = S := by omega
              obtain ⟨rfl, rfl⟩ := HZ.out (by omega)
              have HP : Hid (Small 0) := ⟨by decide, by decide⟩
              have HQ : Hid (Small 0) := ⟨by decide, by decide⟩
              have HUA : Hid (Small 1) := ⟨by decide, by decide⟩
              have HUB : Hid (Small 0) := ⟨by decide, by decide⟩
              have HE : Hid (E3 w wc X C U x1 x2 c1 c2 u1 u2 0 0 0 0 1 0) := HE.out
              go_wp2_with (first
                | (go_at_call_of 12 (Value.agg #[.pointer c1, .pointer c2]); refine (E3.eq HE.out c1 c2 0 0 HP.out HQ.out HE.out.2.2.2.2.2.1).mono ?_; rintro e W2 ⟨rfl, E2, r1, r2, r3, r4, r5, r6⟩)
                | (go_at_call_of 12 (Value.agg #[.pointer u1, .pointer u2]); refine (E3.eq E2 u1 u2 1 0 HUA.out HUB.out E2.2.2.2.2.2.2).mono ?_; rintro e W3 ⟨rfl, E3', v1, v2, v3, v4, v5, v6⟩)
                | (go_at_call_of 12 (Value.agg #[.pointer x1, .pointer x2]); refine (E3.eq E3' x1 x2 0 0 HA.out HB.out E3'.2.2.2.2.1).mono ?_; rintro e W4 ⟨rfl, E4, y1, y2, y3, y4, y5, y6⟩))
              go_ret
              exact ⟨rfl, E4.1⟩
end Go.Proofs.Ybulkbxso
