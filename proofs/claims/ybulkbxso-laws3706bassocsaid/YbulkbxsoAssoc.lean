/-
  LawS3706BAssoc: the walk.
-/
import Derived.Test.YbulkbxsoExact
import Derived.Deep.LoopGhost
namespace Go.Proofs.Ybulkbxso
open Go.RowKit
set_option linter.unusedVariables false

set_option maxHeartbeats 1000000 in
set_option maxRecDepth 100000 in
theorem intCmp_same (p : Nat) (w : World) : Calls Yba.prog 14 #[.pointer (some ⟨p, 0, none⟩), .pointer (some ⟨p, 0, none⟩)] w fun e w' => e = .returned (.int .i64 0) ∧ ∃ m, w' = w.drewN m := by
  obtain ⟨j, hj1, hj2⟩ := size60
  have HE : (binOp .eql 22 (.pointer (some ⟨p, 0, none⟩)) (.pointer (some ⟨p, 0, none⟩))).run Yba.prog w = .ok (.bool true) w := run_eql_ptr_same w ⟨p, 0, none⟩ Yba.underlying22 hj1
  clear hj1 hj2
  go_enter Yba.func14, Yba.ntmps14
  go_wp2_with (simp only [HE])
  go_ret
  exact ⟨rfl, 0, rfl⟩
theorem intCmp_eq (p q : Nat) (v : Int) (w : World) (h : BigV w p v) (h' : BigV w q v) :
    Calls Yba.prog 14 #[ptr p, ptr q] w fun e w' => e = .returned (.int .i64 0) ∧ ∃ m, w' = w.drewN m := by
  by_cases hpq : p = q
  · subst hpq; exact intCmp_same p w
  · have := intCmp p q v v w hpq h h'
    have e : cmp3 v v = 0 := by unfold cmp3; rw [if_neg (by omega), if_neg (by omega)]
    rw [e] at this
    exact this

section
variable {w W W' : World} {X C U : Nat} {x1 x2 c1 c2 u1 u2 : Option Addr} {a b ca cb ua ub : Int}
theorem E3.beq (h : E3 w W X C U x1 x2 c1 c2 u1 u2 a b ca cb ua ub) (y1 y2 : Option Addr) (p q r s : Int) (hp : Small r) (hq : Small s) (hI : IntV W (.agg #[.pointer y1, .pointer y2]) p q) (o : Bool) (ho : (decide (p = r) && decide (q = s)) = o) :
    Calls Yba.prog 12 #[.agg #[.pointer y1, .pointer y2], .int .i64 r, .int .i64 s] W fun e W' => e = .returned (.bool o) ∧ E3 w W' X C U x1 x2 c1 c2 u1 u2 a b ca cb ua ub ∧ E3c W' X C U x1 x2 c1 c2 u1 u2 := by
  refine (beq_any y1 y2 p q r s W hp.1 hp.2 hq.1 hq.2 hI).mono ?_
  rintro e W' ⟨rfl, hb⟩
  exact ⟨by rw [ho], h.go hb, (h.go hb).cells⟩
theorem E3.A (h : E3 w W X C U x1 x2 c1 c2 u1 u2 a b ca cb ua ub) (y1 y2 : Option Addr) (p q : Int) (hI : IntV W (.agg #[.pointer y1, .pointer y2]) p q) :
    Calls Yba.prog 13 #[.agg #[.pointer y1, .pointer y2]] W fun e W' => ∃ r, e = .returned (ptr r) ∧ E3 w W' X C U x1 x2 c1 c2 u1 u2 a b ca cb ua ub ∧ E3c W' X C U x1 x2 c1 c2 u1 u2 ∧ BigV W' r p ∧ Below W.heap.size W W' := by
  refine (A_any y1 y2 p q W hI).mono ?_
  rintro e W' ⟨r, rfl, hB, hb⟩
  exact ⟨r, rfl, h.go hb, (h.go hb).cells, hB, hb⟩
theorem E3.B (h : E3 w W X C U x1 x2 c1 c2 u1 u2 a b ca cb ua ub) (y1 y2 : Option Addr) (p q : Int) (hI : IntV W (.agg #[.pointer y1, .pointer y2]) p q) :
    Calls Yba.prog 15 #[.agg #[.pointer y1, .pointer y2]] W fun e W' => ∃ r, e = .returned (ptr r) ∧ E3 w W' X C U x1 x2 c1 c2 u1 u2 a b ca cb ua ub ∧ E3c W' X C U x1 x2 c1 c2 u1 u2 ∧ BigV W' r q ∧ Below W.heap.size W W' := by
  refine (B_any y1 y2 p q W hI).mono ?_
  rintro e W' ⟨r, rfl, hB, hb⟩
  exact ⟨r, rfl, h.go hb, (h.go hb).cells, hB, hb⟩
theorem E3.cmp (h : E3 w W X C U x1 x2 c1 c2 u1 u2 a b ca cb ua ub) (r s : Nat) (v : Int) (hr : BigV W r v) (hs : BigV W s v) :
    Calls Yba.prog 14 #[ptr r, ptr s] W fun e W' => e = .returned (.int .i64 0) ∧ E3 w W' X C U x1 x2 c1 c2 u1 u2 a b ca cb ua ub ∧ E3c W' X C U x1 x2 c1 c2 u1 u2 := by
  refine (intCmp_eq r s v W hr hs).mono ?_
  rintro e W' ⟨rfl, m, rfl⟩
  exact ⟨rfl, h.go (bel_drewN _ _ m), (h.go (bel_drewN _ _ m)).cells⟩
end

/-- New of two new Ints. -/
theorem new_big {W1 W2 : World} {p q : Nat} {a b : Int} (hp : BigV W1 p a) (hb2 : Below W1.heap.size W1 W2) (hq : W1.heap.size ≤ q) (hB2 : BigV W2 q b) :
    Calls Yba.prog 7 #[ptr p, ptr q] W2 fun e W' => e = .returned (.agg #[ptr p, ptr q]) ∧ IntV W' (.agg #[ptr p, ptr q]) a b ∧ Below W2.heap.size W2 W' := by
  refine (new_any (some ⟨p, 0, none⟩) (some ⟨q, 0, none⟩) W2).mono ?_
  rintro e W' ⟨rfl, rfl⟩
  have hb : Below W2.heap.size W2 (W2.alloc (.cells #[ptr p, ptr q] 24)) := (Below.refl _ _).alloc (Nat.le_refl _) _
  exact ⟨rfl, .inr ⟨p, q, rfl, hp.ne hq, (hp.below hb2).below hb, hB2.below hb⟩, hb⟩
theorem two_boxes (W : World) (c1 c2 u1 u2 : Option Addr) :
    Ob ((W.alloc (.cells #[.pointer c1, .pointer c2] 24)).alloc (.cells #[.pointer u1, .pointer u2] 24)) W.heap.size c1 c2
    ∧ Ob ((W.alloc (.cells #[.pointer c1, .pointer c2] 24)).alloc (.cells #[.pointer u1, .pointer u2] 24)) (W.heap.size + 1) u1 u2
    ∧ Below W.heap.size W ((W.alloc (.cells #[.pointer c1, .pointer c2] 24)).alloc (.cells #[.pointer u1, .pointer u2] 24)) := by
  have z3 : (W.alloc (.cells #[.pointer c1, .pointer c2] 24)).heap.size = W.heap.size + 1 := by simp
  have b1 : Below W.heap.size W (W.alloc (.cells #[.pointer c1, .pointer c2] 24)) := (Below.refl _ _).alloc (Nat.le_refl _) _
  have b2 : Below (W.alloc (.cells #[.pointer c1, .pointer c2] 24)).heap.size (W.alloc (.cells #[.pointer c1, .pointer c2] 24)) ((W.alloc (.cells #[.pointer c1, .pointer c2] 24)).alloc (.cells #[.pointer u1, .pointer u2] 24)) := (Below.refl _ _).alloc (Nat.le_refl _) _
  have o : Ob (W.alloc (.cells #[.pointer c1, .pointer c2] 24)) W.heap.size c1 c2 := heap_alloc_new _ _
  exact ⟨o.go b2, by rw [← z3]; exact heap_alloc_new _ _, b1.trans (bel_less b2 b1.size)⟩
/-- A chain of calls that only make. -/
theorem bel_chain {W0 W1 W2 : World} (h1 : Below W0.heap.size W0 W1) (h2 : Below W1.heap.size W1 W2) : Below W0.heap.size W0 W2 := h1.trans (bel_less h2 h1.size)
abbrev Iv (w W : World) (D : Nat) (d1 d2 : Option Addr) (ca cb : Int) : Prop := Below w.heap.size w W ∧ Ob W D d1 d2 ∧ IntV W (.agg #[.pointer d1, .pointer d2]) ca cb

set_option maxHeartbeats 2000000 in
set_option maxRecDepth 100000 in
theorem assoc_walk (HC : Hid Canon) (a b : Int) (ha1 : -2147483648 ≤ a) (ha2 : a ≤ 2147483647) (hb1 : -2147483648 ≤ b) (hb2 : b ≤ 2147483647) (w : World) :
    Calls Yba.prog 4 #[.int .i32 a, .int .i32 b] w fun e w' => e = .returned (.bool true) ∧ Below w.heap.size w w' := by
  have e1 : IntKind.i64.wrap a = a := by rw [IntKind.wrap_i64]; omega
  have e2 : IntKind.i64.wrap b = b := by rw [IntKind.wrap_i64]; omega
  have HA : Hid (Small a) := ⟨by omega, by omega⟩
  have HB : Hid (Small b) := ⟨by omega, by omega⟩
  obtain ⟨CA, CB, hCC⟩ : ∃ P Q, mulP (kP a b) a b = (P, Q) := ⟨_, _, rfl⟩
  have H0 : Hid (∀ (x1 x2 : Option Addr) (W : World), IntV W (.agg #[.pointer x1, .pointer x2]) a b → Calls Yba.prog 9 #[.agg #[], .agg #[.pointer x1, .pointer x2]] W fun e w' => CanOut W CA CB (unitP (kP a b)).1 (unitP (kP a b)).2 e w') := fun x1 x2 W hI => by
    have := HC.out x1 x2 a b W hI (by omega)
    rw [hCC] at this; exact this
  -- what a round needs of its associate
  have HK : Hid (∀ k : Nat, k < 6 → ∃ P Q J UA UB : _, mulP k a b = (P, Q) ∧ J < 6 ∧ unitP J = (UA, UB) ∧ mulP J P Q = (CA, CB) ∧ Small P ∧ Small Q ∧ Small CA ∧ Small CB
      ∧ (∀ W : World, Calls Yba.prog 10 #[.int .i64 (k : Int), .int .i64 a, .int .i64 b] W fun e w' => e = .returned (.tuple #[.int .i64 P, .int .i64 Q]) ∧ w' = W)
      ∧ (∀ W : World, Calls Yba.prog 10 #[.int .i64 (J : Int), .int .i64 P, .int .i64 Q] W fun e w' => e = .returned (.tuple #[.int .i64 CA, .int .i64 CB]) ∧ w' = W)
      ∧ (∀ (x1 x2 : Option Addr) (W : World), IntV W (.agg #[.pointer x1, .pointer x2]) P Q → Calls Yba.prog 9 #[.agg #[], .agg #[.pointer x1, .pointer x2]] W fun e w' => CanOut W CA CB UA UB e w')) := by
    intro k hk
    obtain ⟨P, Q, hPQ⟩ : ∃ P Q, mulP k a b = (P, Q) := ⟨_, _, rfl⟩
    obtain ⟨UA, UB, hU⟩ : ∃ x y, unitP (kP P Q) = (x, y) := ⟨_, _, rfl⟩
    have hc := canon_assoc k hk a b
    have hb := mulP_bound k hk a b 2147483648 (by omega) (by omega) (by omega) (by omega)
    have hb' := mulP_bound (kP a b) (kP_lt a b) a b 2147483648 (by omega) (by omega) (by omega) (by omega)
    rw [hPQ] at hc hb
    rw [hCC] at hc hb'
    simp only at hc hb hb'
    refine ⟨P, Q, kP P Q, UA, UB, hPQ, kP_lt _ _, hU, hc, ⟨by omega, by omega⟩, ⟨by omega, by omega⟩, ⟨by omega, by omega⟩, ⟨by omega, by omega⟩, fun W => ?_, fun W => ?_, fun x1 x2 W hI => ?_⟩
    · have := mul_any k hk a b (by omega) (by omega) (by omega) (by omega) W
      rw [hPQ] at this; exact this
    · have := mul_any (kP P Q) (kP_lt _ _) P Q (by omega) (by omega) (by omega) (by omega) W
      rw [hc] at this; exact this
    · have := HC.out x1 x2 P Q W hI (by omega)
      rw [hc, hU] at this; exact this
  clear ha1 ha2 hb1 hb2 HC hCC
  go_enter Yba.func4, Yba.ntmps4
  go_upto_region 2 with fail
  go_cut [7, 8] (fun v v' wx => ∃ D d1 d2, v = ptr D ∧ Iv w wx D d1 d2 CA CB)
  case first => as_aux_lemma =>
    go_wp2_with (first
      | (go_at_call_of 8 (Value.int IntKind.i64 a); refine (newInt_any a _ HA.out.1 HA.out.2).mono ?_; rintro e W1 ⟨p, rfl, hp, hB1, hb1⟩)
      | (go_at_call_of 8 (Value.int IntKind.i64 b); refine (newInt_any b _ HB.out.1 HB.out.2).mono ?_; rintro e W2 ⟨q, rfl, hq, hB2, hb2⟩)
      | (go_at_call 7; refine (new_big hB1 hb2 hq hB2).mono ?_; rintro e W3 ⟨rfl, hI3, hb3⟩)
      | (go_at_call 9; refine (H0.out (some ⟨p, 0, none⟩) (some ⟨q, 0, none⟩) _ hI3).mono ?_; rintro e W4 ⟨c1, c2, u1, u2, rfl, hc, hu, hb4⟩))
    go_meet
    case rel =>
      obtain ⟨o, -, b5⟩ := two_boxes W4 c1 c2 u1 u2
      exact ⟨W4.heap.size, c1, c2, rfl, bel_chain (bel_chain (bel_chain (bel_chain hb1 hb2) hb3) hb4) b5, o, hc.below b5⟩
  case rest =>
    obtain ⟨D, d1, d2, rfl, hIv⟩ := hcut
    clear H0 e1 e2 HA HB
    have HI : Hid (Iv w wc D d1 d2 CA CB) := hIv
    clear hIv
    go_wp2
    go_loopg [9] 6 (fun n ix wr => ∃ k : Nat, n + k = 6 ∧ ix = .int .i64 k ∧ Hid (Iv w wr D d1 d2 CA CB))
    case atStart => exact ⟨0, rfl, rfl, HI⟩
    case round =>
      obtain ⟨k, hk, rfl, hIv⟩ := hrel
      by_cases h6 : (k : Int) < 6
      · obtain ⟨P, Q, J, UA, UB, hPQ, hJ, hU, hc, sP, sQ, sA, sB, m1, m2, m3⟩ := HK.out k (by omega)
        have HP : Hid (Small P) := sP
        have HQ : Hid (Small Q) := sQ
        have HSA : Hid (Small CA) := sA
        have HSB : Hid (Small CB) := sB
        have M1 : Hid _ := m1
        have M2 : Hid _ := m2
        have M3 : Hid _ := m3
        have HU : Hid (unitP J = (UA, UB)) := hU
        clear hPQ hc sP sQ sA sB m1 m2 m3 hU
        go_upto_region 7 with (go_at_call 10; refine (M1.out _).mono ?_; rintro e W1 ⟨rfl, rfl⟩)
        go_cut [12, 13] (fun v v' wx => ∃ C U c1 c2 u1 u2, v = ptr C ∧ v' = ptr U ∧ E3 w wx D C U d1 d2 c1 c2 u1 u2 CA CB CA CB UA UB)
        case first => as_aux_lemma =>
          go_wp2_with (first
            | (go_at_call_of 8 (Value.int IntKind.i64 P); refine (newInt_any P _ HP.out.1 HP.out.2).mono ?_; rintro e W1 ⟨p, rfl, hp, hB1, hb1⟩)
            | (go_at_call_of 8 (Value.int IntKind.i64 Q); refine (newInt_any Q _ HQ.out.1 HQ.out.2).mono ?_; rintro e W2 ⟨q, rfl, hq, hB2, hb2⟩)
            | (go_at_call 7; refine (new_big hB1 hb2 hq hB2).mono ?_; rintro e W3 ⟨rfl, hI3, hb3⟩)
            | (go_at_call 9; refine (M3.out (some ⟨p, 0, none⟩) (some ⟨q, 0, none⟩) _ hI3).mono ?_; rintro e W4 ⟨c1, c2, u1, u2, rfl, hc, hu, hb4⟩))
          go_meet
          case rel =>
            obtain ⟨o, o', b5⟩ := two_boxes W4 c1 c2 u1 u2
            have b := bel_chain (bel_chain (bel_chain (bel_chain hb1 hb2) hb3) hb4) b5
            obtain ⟨i1, i2, i3⟩ := hIv.out
            exact ⟨W4.heap.size, W4.heap.size + 1, c1, c2, u1, u2, rfl, rfl, i1.trans (bel_less b i1.size), i2.go b, o, o', i3.below b, hc.below b5, hu.below b5⟩
        case rest =>
          clear hIv M1 M3 HP HQ
          obtain ⟨C, U, c1, c2, u1, u2, rfl, rfl, hE⟩ := hcut
          go_upto_region 8 with fail
          go_cut [68] (fun v wx => v = .bool false ∧ E3 w wx D C U d1 d2 c1 c2 u1 u2 CA CB CA CB UA UB)
          case first => as_aux_lemma =>
            obtain ⟨q1, q2, q3, q4, q5, q6⟩ := hE.cells
            have hE0 : E3 w wc.drew D C U d1 d2 c1 c2 u1 u2 CA CB CA CB UA UB := hE.go (Below.refl _ _).drew
            go_region_with (first
              | (go_at_call_of 13 (Value.agg #[.pointer c1, .pointer c2]); refine (E3.A hE0 c1 c2 CA CB hE0.2.2.2.2.2.1).mono ?_; rintro e W1 ⟨r1, rfl, hE1, ⟨s1, s2, s3, s4, s5, s6⟩, hB1, hb1⟩)
              | (go_at_call_of 13 (Value.agg #[.pointer d1, .pointer d2]); refine (E3.A hE1 d1 d2 CA CB hE1.2.2.2.2.1).mono ?_; rintro e W2 ⟨r2, rfl, hE2, ⟨t1, t2, t3, t4, t5, t6⟩, hB2, hb2⟩)
              | (go_at_call_of 14 (ptr r1); refine (E3.cmp hE2 r1 r2 CA (hB1.below hb2) hB2).mono ?_; rintro e W3 ⟨rfl, hE3, ⟨v1, v2, v3, v4, v5, v6⟩⟩)
              | (go_at_call_of 15 (Value.agg #[.pointer c1, .pointer c2]); refine (E3.B hE3 c1 c2 CA CB hE3.2.2.2.2.2.1).mono ?_; rintro e W4 ⟨r3, rfl, hE4, ⟨x1, x2, x3, x4, x5, x6⟩, hB3, hb3⟩)
              | (go_at_call_of 15 (Value.agg #[.pointer d1, .pointer d2]); refine (E3.B hE4 d1 d2 CA CB hE4.2.2.2.2.1).mono ?_; rintro e W5 ⟨r4, rfl, hE5, ⟨y1, y2, y3, y4, y5, y6⟩, hB4, hb4⟩)
              | (go_at_call_of 14 (ptr r3); refine (E3.cmp hE5 r3 r4 CB (hB3.below hb4) hB4).mono ?_; rintro e W6 ⟨rfl, hE6, ⟨z1, z2, z3, z4, z5, z6⟩⟩))
            all_goals
              go_wp2_with fail
              go_meet
              exact ⟨rfl, hE6⟩
          case rest =>
            obtain ⟨rfl, hE'⟩ := hcut
            clear hE
            have HE0 : Hid (E3 w wc D C U d1 d2 c1 c2 u1 u2 CA CB CA CB UA UB) := hE'
            clear hE'
            go_wp2
            go_loopg [14, 15] 6 (fun n v ix wr => ∃ i : Nat, i ≤ J ∧ n + i = 6 ∧ ix = .int .i64 i ∧ v = .int .i64 (-1) ∧ Hid (E3 w wr D C U d1 d2 c1 c2 u1 u2 CA CB CA CB UA UB))
            case atStart => exact ⟨0, Nat.zero_le _, rfl, rfl, rfl, HE0⟩
            case round =>
              clear HE0
              obtain ⟨i, hi, hn, rfl, rfl, hEi⟩ := hrel
              obtain ⟨q1, q2, q3, q4, q5, q6⟩ := hEi.out.cells
              obtain ⟨VA, VB, hV⟩ : ∃ x y, unitP i = (x, y) := ⟨_, _, rfl⟩
              have HUi : Hid (∀ W : World, Calls Yba.prog 11 #[.int .i64 (i : Int)] W fun e w' => e = .returned (.tuple #[.int .i64 VA, .int .i64 VB]) ∧ w' = W) := fun W => by have := unitT_any i (by omega) W; rw [hV] at this; exact this
              have hS : Small VA ∧ Small VB := by
                have := unitP_small i
                rw [hV] at this; exact this
              have HVA : Hid (Small VA) := hS.1
              have HVB : Hid (Small VB) := hS.2
              have h6' : (i : Int) < 6 := by omega
              clear hS
              by_cases hiJ : i = J
              · subst hiJ
                have hVU : UA = VA ∧ UB = VB := by
                  have := HU.out
                  rw [hV] at this
                  injection this with h1 h2
                  exact ⟨h1.symm, h2.symm⟩
                have HO : Hid ((decide (UA = VA) && decide (UB = VB)) = true) := by rw [hVU.1, hVU.2]; show _ = _; simp
                have hi0 : ¬ ((i : Int) < 0) := by omega
                clear hV hVU HU
                go_wp2_with (first
                  | (go_at_call 11; refine (HUi.out _).mono ?_; rintro e W1 ⟨rfl, rfl⟩)
                  | (go_at_call 10; refine (M2.out _).mono ?_; rintro e W1 ⟨rfl, rfl⟩)
                  | (go_at_call_of 12 (Value.agg #[.pointer u1, .pointer u2]); refine (E3.beq hEi.out u1 u2 UA UB VA VB HVA.out HVB.out hEi.out.2.2.2.2.2.2 true HO.out).mono ?_; rintro e W2 ⟨rfl, hE2, r1, r2, r3, r4, r5, r6⟩)
                  | (go_at_call_of 12 (Value.agg #[.pointer c1, .pointer c2]); refine (E3.eq hE2 c1 c2 CA CB HSA.out HSB.out hE2.2.2.2.2.2.1).mono ?_; rintro e W3 ⟨rfl, hE3, v1, v2, v3, v4, v5, v6⟩))
                go_roundg (5 - k)
                case measure => omega
                case rel => exact ⟨k + 1, by omega, by go_num, hE3.1, hE3.2.1, hE3.2.2.2.2.1⟩
              · have HO : Hid ((decide (UA = VA) && decide (UB = VB)) = false) := by
                  show _ = _
                  rw [Bool.and_eq_false_iff]
                  by_cases h1 : UA = VA
                  · by_cases h2 : UB = VB
                    · exfalso
                      apply hiJ
                      refine unitP_inj i J (by omega) hJ ?_ ?_
                      · rw [hV, HU.out]; exact h1.symm
                      · rw [hV, HU.out]; exact h2.symm
                    · exact .inr (decide_eq_false h2)
                  · exact .inl (decide_eq_false h1)
                clear hV
                go_wp2_with (first
                  | (go_at_call 11; refine (HUi.out _).mono ?_; rintro e W1 ⟨rfl, rfl⟩)
                  | (go_at_call_of 12 (Value.agg #[.pointer u1, .pointer u2]); refine (E3.beq hEi.out u1 u2 UA UB VA VB HVA.out HVB.out hEi.out.2.2.2.2.2.2 false HO.out).mono ?_; rintro e W2 ⟨rfl, hE2, r1, r2, r3, r4, r5, r6⟩))
                go_roundg (5 - i)
                case measure => omega
                case rel => exact ⟨i + 1, by omega, by omega, by go_num, rfl, hE2⟩
      · go_wp2
        go_ret
        exact ⟨rfl, hIv.out.1⟩
end Go.Proofs.Ybulkbxso
