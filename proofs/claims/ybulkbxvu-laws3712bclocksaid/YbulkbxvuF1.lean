/-
  zzs3712bfound: the model's marks.
-/
import Derived.Test.YbulkbxvuF0
namespace Go.Proofs.Ybulkbxvu
open Go.RowKit
set_option linter.unusedVariables false

theorem info4 : (Yba.prog.info? 4).map (fun i => (i.zero, i.size, i.bytes)) = some (some (.bool false), 1, 1) := by kernel_rfl
/-- make([]T, n), elements of one cell. -/
theorem wp_make (t e : TypeId) (z : Value) (bytes : Nat) (ht : Yba.prog.underlying t = some (.slice e)) (hinfo : (Yba.prog.info? e).map (fun i => (i.zero, i.size, i.bytes)) = some (some z, 1, bytes)) (hz : z.cells = #[z])
    (w : World) {ops : Array Oper} {rest : List Oper} {o : Oper} {a : Act} {Q : Exit → Act → World → Prop} (hgd : o.guard = none) (l c : Operand) (ho : o.op = Op.makeSlice t l c)
    (C : Int) (n : Nat) (hl : a.eval l = .int .i64 C) (hc : a.eval c = .int .i64 C) (hC : C = (n : Int)) (hn : bytes * n ≤ 281474976710656) (hn' : n ≤ 281474976710656)
    (h : ∀ w' : World, (∃ cur : Array Value, w'.heap[w.heap.size]? = some (.cells cur e (0, 0)) ∧ cur.size = n ∧ ∀ j, j < n → cur[j]? = some z) → Below w.heap.size w w' → wpList Yba.prog ops Q rest (a.put o.dst (.slice (some ⟨w.heap.size, 0, none⟩) n n)) w') :
    wpList Yba.prog ops Q (o :: rest) a w := by
  obtain ⟨i0, hi, hz0, hz1, hz2⟩ := info_parts hinfo
  refine wpList_make_full w hgd l c t ho w.heap.size e i0 z 1 ht hi hz0 hz1 .i64 .i64 C C n hl hc hC hC (by rw [hz2]; exact hn) (by unfold maxLen; omega) (Nat.le_refl _) ?_
  intro w' h1 h2
  rw [hz, Nat.mul_one, toList_madeCells_one] at h1
  refine h w' ?_ ((Below.refl _ _).grown h2 (Nat.le_refl _) (fun k hk => by cases hk))
  rcases h1.2 with ⟨h', _⟩ | ⟨g', cap', cur, h', hb', hh, r1, r2, r3, r4⟩
  · simp at h'
  · simp only [Value.slice.injEq, Option.some.injEq, Addr.mk.injEq, and_true] at h'
    obtain ⟨rfl, -, rfl⟩ := h'
    refine ⟨cur, hh, by omega, fun j hj => ?_⟩
    have : (cur.toList.take (n * 1))[j]? = some z := by rw [r4]; simp [hj]
    rw [Nat.mul_one, List.getElem?_take_of_lt hj] at this
    simpa using this

/-- Where the law's arguments and rows lie. -/
structure FnIn (W : World) (eb eo ne : Nat) (E : EvD) (tb lb N : Nat) (th : Nat → Nat) (last : Nat → Int) (sb so nu : Nat) (su : Nat → Nat) : Prop where
  ev : EvA W eb eo ne E
  by' : ByA W sb so nu su
  tr : ∀ k, k < ne → W.cell? ⟨tb, k, none⟩ = some (.int .i64 (th k : Int))
  lr : ∀ t, t < N → W.cell? ⟨lb, t, none⟩ = some (.int .i32 (last t))
  lb' : ∀ t, t < N → -1 ≤ last t ∧ last t < (ne : Int)
  tb' : ∀ k, k < ne → th k < 3
theorem FnIn.below {W W' : World} {eb eo ne : Nat} {E : EvD} {tb lb N : Nat} {th : Nat → Nat} {last : Nat → Int} {sb so nu : Nat} {su : Nat → Nat} (h : FnIn W eb eo ne E tb lb N th last sb so nu su) (hb : Below W.heap.size W W') : FnIn W' eb eo ne E tb lb N th last sb so nu su :=
  ⟨h.ev.below hb, h.by'.below hb, fun k hk => (hb.cell (cell_lt (h.tr k hk))).trans (h.tr k hk), fun k hk => (hb.cell (cell_lt (h.lr k hk))).trans (h.lr k hk), h.lb', h.tb'⟩

set_option maxHeartbeats 4000000 in
set_option maxRecDepth 100000 in
theorem found_any (W : World) (ea sa : Option Addr) (eb eo ne ec : Nat) (E : EvD) (tb tc lb lc N st : Nat) (th : Nat → Nat) (last : Nat → Int) (sb so nu sc : Nat) (su : Nat → Nat)
    (h : FnIn W eb eo ne E tb lb N th last sb so nu su) (hea : 0 < ne → ea = some ⟨eb, eo, none⟩) (hsa : 0 < nu → sa = some ⟨sb, so, none⟩) (hne : ne ≤ 512) (hnu : nu ≤ 512) (hN : N ≤ 3) (hst : st < N) :
    Calls Yba.prog 9 #[.slice ea ne ec, sl tb 0 ne tc, sl lb 0 N lc, .int .i64 (st : Int), .slice sa nu sc] W fun e W' => e = .returned (sl W.heap.size 0 ne ne) ∧ MRP W' W.heap.size ne (FoundP E ne N st th last nu su) ∧ Below W.heap.size W W' := by
  have HI : Hid (FnIn W eb eo ne E tb lb N th last sb so nu su) := h
  clear h
  go_enter Yba.func9, Yba.ntmps9
  go_wp2_with (at_make; refine wp_make 44 4 (.bool false) 1 Yba.underlying44 info4 rfl _ rfl _ _ rfl _ ne rfl rfl rfl (by omega) (by omega) ?_; intro W1 hC1 hb1)
  have HM0 : Hid (MRP W1 W.heap.size ne (fun x => ∃ i, i < 0 ∧ HitB E ne N st last (su i) x) ∧ Below W.heap.size W W1) := by
    obtain ⟨cur, a1, a2, a3⟩ := hC1
    exact ⟨⟨cur, fun _ => false, a1, a2, a3, fun x hx => by simp⟩, hb1⟩
  clear hC1 hb1
  go_loopg [27] nu (fun g v wx => ∃ j : Nat, g + j = nu ∧ v = .int .i64 (j : Int) ∧ Hid (MRP wx W.heap.size ne (fun x => ∃ i, i < j ∧ HitB E ne N st last (su i) x) ∧ Below W.heap.size W wx))
  case atStart => exact ⟨0, by omega, rfl, HM0.out⟩
  case round =>
    clear HM0
    obtain ⟨j, hg, rfl, H⟩ := hrel
    by_cases hj : (j : Int) < (nu : Int)
    · obtain rfl := hsa (by omega)
      obtain ⟨c0, b0⟩ := (HI.out.below H.out.2).by' j (by omega)
      obtain ⟨b, hb⟩ : ∃ b, su j = b := ⟨_, rfl⟩
      rw [hb] at c0 b0
      obtain ⟨sel, hsel⟩ : ∃ sel, b % 7 = sel := ⟨_, rfl⟩
      have e7 : (b : Int).tmod 7 = (sel : Int) := by rw [Int.tmod_eq_emod_of_nonneg (by omega)]; omega
      have hs7 : sel < 7 := by omega
      have HSEL : Hid (su j % 7 = sel) := by show _ = _; rw [hb]; exact hsel
      clear hb hsel
      by_cases h6 : sel = 6
      · subst h6
        have HB6 : Hid (∀ x, HitB E ne N st last (su j) x ↔ ∃ t, t < N ∧ t ≠ st ∧ last t = (x : Int)) := fun x => by unfold HitB; rw [if_pos HSEL.out]
        clear HSEL
        go_wp2
        go_loopg [16] N (fun g v wx => ∃ t : Nat, g + t = N ∧ v = .int .i64 (t : Int) ∧ Hid (MRP wx W.heap.size ne (fun x => (∃ i, i < j ∧ HitB E ne N st last (su i) x) ∨ ∃ t', t' < t ∧ t' ≠ st ∧ last t' = (x : Int)) ∧ Below W.heap.size W wx))
        case atStart => exact ⟨0, by omega, rfl, H.out.1.congr fun x hx => by simp, H.out.2⟩
        case round =>
          clear H c0
          obtain ⟨t, hg2, rfl, H2⟩ := hrel
          by_cases ht : (t : Int) < (N : Int)
          · have l1 := (HI.out.below H2.out.2).lr t (by omega)
            obtain ⟨l2, l3⟩ := HI.out.lb' t (by omega)
            have KEEP : Hid ((t = st ∨ last t < 0) → MRP wr W.heap.size ne (fun x => (∃ i, i < j ∧ HitB E ne N st last (su i) x) ∨ ∃ t', t' < t + 1 ∧ t' ≠ st ∧ last t' = (x : Int))) := by
              intro hor
              refine H2.out.1.congr fun x hx => ?_
              constructor
              · rintro (h | ⟨t', a1, a2, a3⟩)
                · exact .inl h
                · by_cases e : t' = t
                  · subst e
                    rcases hor with h | h
                    · exact absurd h a2
                    · omega
                  · exact .inr ⟨t', by omega, a2, a3⟩
              · rintro (h | ⟨t', a1, a2, a3⟩)
                · exact .inl h
                · exact .inr ⟨t', by omega, a2, a3⟩
            by_cases hts : t = st
            · have hts2 : ((t : Int) != (st : Int)) = false := by rw [bne_eq_false_iff_eq]; omega
              go_wp2
              go_roundg (N - (t + 1))
              case measure => omega
              case rel => exact ⟨t + 1, by omega, by go_num, KEEP.out (.inl hts), H2.out.2⟩
            · have hts2 : ((t : Int) != (st : Int)) = true := by rw [bne_iff_ne]; omega
              obtain ⟨L, hL⟩ : ∃ L, last t = L := ⟨_, rfl⟩
              rw [hL] at l1 l2 l3 KEEP
              have HL : Hid (last t = L) := hL
              clear hL
              by_cases hL0 : 0 ≤ L
              · obtain ⟨Ln, rfl⟩ := Int.eq_ofNat_of_zero_le hL0
                obtain ⟨mv, m1, -, m2⟩ := H2.out.1.cells (x := Ln) (by omega)
                go_wp2
                go_roundg (N - (t + 1))
                case measure => omega
                case rel =>
                  refine ⟨t + 1, by omega, by go_num, H2.out.1.set (i := Ln) (by omega) fun x hx => ?_, H2.out.2.setCell (Nat.le_refl _) _⟩
                  constructor
                  · rintro (h | ⟨t', a1, a2, a3⟩)
                    · exact .inr (.inl h)
                    · by_cases e : t' = t
                      · subst e; rw [HL.out] at a3; exact .inl (by omega)
                      · exact .inr (.inr ⟨t', by omega, a2, a3⟩)
                  · rintro (h | h | ⟨t', a1, a2, a3⟩)
                    · exact .inr ⟨t, by omega, hts, by rw [HL.out, h]⟩
                    · exact .inl h
                    · exact .inr ⟨t', by omega, a2, a3⟩
              · go_wp2
                go_roundg (N - (t + 1))
                case measure => omega
                case rel => exact ⟨t + 1, by omega, by go_num, KEEP.out (.inr (by omega)), H2.out.2⟩
          · go_wp2
            go_roundg (nu - (j + 1))
            case measure => omega
            case rel =>
              refine ⟨j + 1, by omega, by go_num, H2.out.1.congr fun x hx => ?_, H2.out.2⟩
              constructor
              · rintro ⟨i, a1, a2⟩
                by_cases e : i = j
                · subst e
                  obtain ⟨t', q1, q2, q3⟩ := (HB6.out x).mp a2
                  exact .inr ⟨t', by omega, q2, q3⟩
                · exact .inl ⟨i, by omega, a2⟩
              · rintro (⟨i, a1, a2⟩ | ⟨t', q1, q2, q3⟩)
                · exact ⟨i, by omega, a2⟩
                · exact ⟨j, by omega, (HB6.out x).mpr ⟨t', by omega, q2, q3⟩⟩
      · have h62 : ((sel : Int) == 6) = false := by rw [beq_eq_false_iff_ne]; omega
        have HB6 : Hid (∀ x, HitB E ne N st last (su j) x ↔ HitO (fun k => E.ce (sel / 2) k % 3) ne (sel % 2 == 1) x) := fun x => by unfold HitB; rw [HSEL.out, if_neg h6]
        obtain ⟨o, ho⟩ : ∃ o, sel / 2 = o := ⟨_, rfl⟩
        have eo2 : (sel : Int).tdiv 2 = (o : Int) := by rw [Int.tdiv_eq_ediv_of_nonneg (by omega)]; omega
        have ho3 : o < 3 := by omega
        obtain ⟨wv, hwv⟩ : ∃ wv, (sel % 2 == 1) = wv := ⟨_, rfl⟩
        have ew2 : ((sel : Int) % 2 == 1) = wv := by
          rw [← hwv, Bool.eq_iff_iff, beq_iff_eq, beq_iff_eq]; omega
        rw [ho, hwv] at HB6
        clear ho hwv HSEL h6
        obtain ⟨m, hm⟩ : ∃ m : Nat → Nat, ∀ k, m k = E.ce o k % 3 := ⟨fun k => E.ce o k % 3, fun _ => rfl⟩
        have HB7 : Hid (∀ x, HitB E ne N st last (su j) x ↔ HitO m ne wv x) := fun x => by
          rw [HB6.out x, show (fun k => E.ce o k % 3) = m from funext fun k => (hm k).symm]
        have HMM : Hid (∀ k, m k = E.ce o k % 3) := hm
        clear hm HB6
        go_wp2
        go_loopg [19] ne (fun g v wx => ∃ q : Nat, g = q ∧ q ≤ ne ∧ v = .int .i64 ((q : Int) - 1) ∧ Hid (MRP wx W.heap.size ne (fun x => (∃ i, i < j ∧ HitB E ne N st last (su i) x) ∨ (q ≤ x ∧ HitO m ne wv x)) ∧ (∀ x, q ≤ x → x < ne → m x ≠ 2) ∧ Below W.heap.size W wx))
        case atStart => exact ⟨ne, rfl, Nat.le_refl _, rfl, H.out.1.congr fun x hx => by constructor; (· rintro (h | h); (· exact h); (· omega)); (· intro h; exact .inl h), fun x _ _ => by omega, H.out.2⟩
        case round =>
          clear H c0
          obtain ⟨q, hgq, hq, rfl, H2⟩ := hrel
          have HGQ : Hid (gk = q) := hgq
          clear hgq
          cases q with
          | zero =>
            go_wp2
            go_roundg (nu - (j + 1))
            case measure => omega
            case rel =>
              refine ⟨j + 1, by omega, by go_num, H2.out.1.congr fun x hx => ?_, H2.out.2.2⟩
              constructor
              · rintro ⟨i, a1, a2⟩
                by_cases e : i = j
                · subst e; exact .inr ⟨by omega, (HB7.out x).mp a2⟩
                · exact .inl ⟨i, by omega, a2⟩
              · rintro (⟨i, a1, a2⟩ | ⟨-, a2⟩)
                · exact ⟨i, by omega, a2⟩
                · exact ⟨j, by omega, (HB7.out x).mpr a2⟩
          | succ k =>
            have ek : ((k + 1 : Nat) : Int) - 1 = (k : Int) := by omega
            rw [ek]
            clear ek
            obtain rfl := hea (by omega)
            have hev := (HI.out.below H2.out.2.2).ev k (by omega)
            have c1 := hev.c1 o ho3
            have b1 := hev.b1 o ho3
            obtain ⟨C, hC⟩ : ∃ C, E.ce o k = C := ⟨_, rfl⟩
            rw [hC] at c1 b1
            obtain ⟨M, hM⟩ : ∃ M, m k = M := ⟨_, rfl⟩
            have e3 : (C : Int).tmod 3 = (M : Int) := by
              rw [← hM, HMM.out k, hC, Int.tmod_eq_emod_of_nonneg (by omega)]; omega
            have hM3 : M < 3 := by rw [← hM, HMM.out k]; omega
            have HM : Hid (m k = M) := hM
            clear hC hM hev hea
            obtain ⟨mv, m1, -, m2⟩ := H2.out.1.cells (x := k) (by omega)
            have hq' : Hid (k + 1 ≤ ne) := hq
            have STEP : Hid (∀ W', Below W.heap.size W W' → M ≠ 2 → MRP W' W.heap.size ne (fun x => (∃ i, i < j ∧ HitB E ne N st last (su i) x) ∨ (k ≤ x ∧ HitO m ne wv x)) → MRP W' W.heap.size ne (fun x => (∃ i, i < j ∧ HitB E ne N st last (su i) x) ∨ (k ≤ x ∧ HitO m ne wv x)) ∧ (∀ x, k ≤ x → x < ne → m x ≠ 2) ∧ Below W.heap.size W W') := by
              intro W' hb hM2 hP
              refine ⟨hP, fun x x1 x2 => ?_, hb⟩
              by_cases e : x = k
              · rw [e, HM.out]; exact hM2
              · exact H2.out.2.1 x (by omega) x2
            have SAMEP : Hid ((M = 0 ∨ (M = 1 ∧ wv = false)) → MRP wr W.heap.size ne (fun x => (∃ i, i < j ∧ HitB E ne N st last (su i) x) ∨ (k ≤ x ∧ HitO m ne wv x))) := by
              intro hor
              refine H2.out.1.congr fun x hx => ?_
              constructor
              · rintro (h | ⟨h1, h2⟩)
                · exact .inl h
                · by_cases e : x = k
                  · subst e
                    obtain ⟨q1, q2, q3⟩ := h2
                    rw [HM.out] at q1 q3
                    rcases hor with h | ⟨h, h'⟩
                    · exact absurd h q1
                    · rcases q3 with q3 | q3
                      · omega
                      · rw [h'] at q3; cases q3
                  · exact .inr ⟨by omega, h2⟩
              · rintro (h | ⟨h1, h2⟩)
                · exact .inl h
                · exact .inr ⟨by omega, h2⟩
            have HITK : Hid ((M = 2 ∨ (M = 1 ∧ wv = true)) → HitO m ne wv k) := by
              intro hor
              refine ⟨by rw [HM.out]; omega, fun k' h1 h2 => H2.out.2.1 k' (by omega) h2, ?_⟩
              rw [HM.out]
              rcases hor with h | ⟨h, h'⟩
              · exact .inl h
              · exact .inr h'
            have SETP : Hid ((M = 2 ∨ (M = 1 ∧ wv = true)) → MRP (wr.setCell ⟨W.heap.size, k, none⟩ (.bool true)) W.heap.size ne (fun x => (∃ i, i < j ∧ HitB E ne N st last (su i) x) ∨ (k ≤ x ∧ HitO m ne wv x))) := by
              intro hor
              refine H2.out.1.set (i := k) (by omega) fun x hx => ?_
              constructor
              · rintro (h | ⟨h1, h2⟩)
                · exact .inr (.inl h)
                · by_cases e : x = k
                  · exact .inl e
                  · exact .inr (.inr ⟨by omega, h2⟩)
              · rintro (h | h | ⟨h1, h2⟩)
                · subst h; exact .inr ⟨Nat.le_refl _, HITK.out hor⟩
                · exact .inl h
                · exact .inr ⟨by omega, h2⟩
            by_cases hM0 : M = 0
            · have hM0' : ((M : Int) == 0) = true := by rw [beq_iff_eq]; omega
              go_wp2
              go_roundg k
              case measure => have := HGQ.out; omega
              case rel => exact ⟨k, rfl, by omega, rfl, STEP.out _ H2.out.2.2 (by omega) (SAMEP.out (.inl hM0))⟩
            · have hM0' : ((M : Int) == 0) = false := by rw [beq_eq_false_iff_ne]; omega
              by_cases hM2 : M = 2
              · have hM2' : ((M : Int) == 2) = true := by rw [beq_iff_eq]; omega
                go_wp2
                go_roundg (nu - (j + 1))
                case measure => omega
                case rel =>
                  refine ⟨j + 1, by omega, by go_num, (SETP.out (.inl hM2)).congr fun x hx => ?_, H2.out.2.2.setCell (Nat.le_refl _) _⟩
                  constructor
                  · rintro ⟨i, a1, a2⟩
                    by_cases e : i = j
                    · subst e
                      have hh := (HB7.out x).mp a2
                      refine .inr ⟨?_, hh⟩
                      rcases Nat.lt_or_ge x k with hlt | hge
                      · exact absurd (by rw [HM.out]; exact hM2) (hh.2.1 k hlt (by omega))
                      · exact hge
                    · exact .inl ⟨i, by omega, a2⟩
                  · rintro (⟨i, a1, a2⟩ | ⟨-, a2⟩)
                    · exact ⟨i, by omega, a2⟩
                    · exact ⟨j, by omega, (HB7.out x).mpr a2⟩
              · have hM2' : ((M : Int) == 2) = false := by rw [beq_eq_false_iff_ne]; omega
                have hM1 : M = 1 := by omega
                cases wv
                · go_wp2
                  go_roundg k
                  case measure => have := HGQ.out; omega
                  case rel => exact ⟨k, rfl, by omega, rfl, STEP.out _ H2.out.2.2 hM2 (SAMEP.out (.inr ⟨hM1, trivial⟩))⟩
                · go_wp2
                  go_roundg k
                  case measure => have := HGQ.out; omega
                  case rel => exact ⟨k, rfl, by omega, rfl, STEP.out _ (H2.out.2.2.setCell (Nat.le_refl _) _) hM2 (SETP.out (.inr ⟨hM1, trivial⟩))⟩
    · have HJ : Hid (j = nu) := by show _ = _; omega
      rcases Nat.eq_zero_or_pos ne with rfl | hne0
      · go_wp2
        go_ret
        refine ⟨rfl, ?_, H.out.2⟩
        exact H.out.1.congr fun x hx => by omega
      · obtain rfl := hea hne0
        have e4 := ((HI.out.below H.out.2).ev (ne - 1) (by omega)).c4
        have t1 := (HI.out.below H.out.2).tr (ne - 1) (by omega)
        have hth3 := HI.out.tb' (ne - 1) (by omega)
        obtain ⟨T, hT⟩ : ∃ T, th (ne - 1) = T := ⟨_, rfl⟩
        rw [hT] at t1 hth3
        have HT : Hid (th (ne - 1) = T) := hT
        clear hT hea
        obtain ⟨mv, m1, -, m2⟩ := H.out.1.cells (x := ne - 1) (by omega)
        obtain ⟨en, hen⟩ : ∃ en, E.en (ne - 1) = en := ⟨_, rfl⟩
        rw [hen] at e4
        have HEN : Hid (E.en (ne - 1) = en) := hen
        clear hen
        have NOT : Hid ((en = false ∨ T = st) → MRP wr W.heap.size ne (FoundP E ne N st th last nu su)) := by
          intro hor
          refine H.out.1.congr fun x hx => ?_
          unfold FoundP
          rw [HJ.out]
          constructor
          · rintro (h | ⟨h1, h2, h3⟩)
            · exact h
            · have : x = ne - 1 := by omega
              subst this
              rw [HEN.out] at h2; rw [HT.out] at h3
              rcases hor with h | h
              · rw [h] at h2; cases h2
              · exact absurd h h3
          · intro h; exact .inl h
        cases en
        · go_wp2
          go_ret
          exact ⟨rfl, NOT.out (.inl trivial), H.out.2⟩
        · by_cases hTs : T = st
          · have hTs2 : ((T : Int) != (st : Int)) = false := by rw [bne_eq_false_iff_eq]; omega
            go_wp2
            go_ret
            exact ⟨rfl, NOT.out (.inr hTs), H.out.2⟩
          · have hTs2 : ((T : Int) != (st : Int)) = true := by rw [bne_iff_ne]; omega
            go_wp2
            go_ret
            refine ⟨rfl, H.out.1.set (by omega) fun x hx => ?_, H.out.2.setCell (Nat.le_refl _) _⟩
            unfold FoundP
            rw [HJ.out]
            constructor
            · rintro (h | ⟨h1, h2, h3⟩)
              · exact .inr h
              · exact .inl (by omega)
            · rintro (h | h)
              · exact .inr ⟨by omega, by rw [h]; exact HEN.out, by rw [h, HT.out]; exact hTs⟩
              · exact .inl h
end Go.Proofs.Ybulkbxvu
