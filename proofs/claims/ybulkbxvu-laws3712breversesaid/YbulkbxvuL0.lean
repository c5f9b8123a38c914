/-
  LawS3712BReverse: the walk.
-/
import Derived.Test.YbulkbxvuP3
import Derived.Test.YbulkbxvuG4
import Derived.Test.YbulkbxvuB1
import Derived.Test.YbulkbxvuC0
namespace Go.Proofs.Ybulkbxvu
open Go.RowKit
set_option linter.unusedVariables false

theorem MaxF.uniq {P : Nat → Prop} {ne : Nat} {K K' : Int} (h : MaxF P ne K) (h' : MaxF P ne K') : K = K' := by
  rcases h with ⟨e, h1⟩ | ⟨k, e, h1, h2, h3⟩ <;> rcases h' with ⟨e', h1'⟩ | ⟨k', e', h1', h2', h3'⟩
  · omega
  · exact absurd h2' (h1 k' h1')
  · exact absurd h2 (h1' k h1)
  · have := h3 k' h1' h2'; have := h3' k h1 h2; omega
theorem MaxF.no {P : Nat → Prop} {k : Nat} {K : Int} (h : MaxF P k K) (hn : ¬ P k) : MaxF P (k + 1) K := by
  rcases h with ⟨e, h1⟩ | ⟨q, e, h1, h2, h3⟩
  · exact .inl ⟨e, fun x hx => by by_cases e : x = k; (· subst e; exact hn); (· exact h1 x (by omega))⟩
  · exact .inr ⟨q, e, by omega, h2, fun x hx hP => by by_cases e : x = k; (· subst e; exact absurd hP hn); (· exact h3 x (by omega) hP)⟩
theorem MaxF.yes {P : Nat → Prop} {k : Nat} (hn : P k) : MaxF P (k + 1) (k : Int) := .inr ⟨k, rfl, by omega, hn, fun x hx _ => by omega⟩
theorem MaxF.rng {P : Nat → Prop} {ne : Nat} {K : Int} (h : MaxF P ne K) : -1 ≤ K ∧ K < (ne : Int) := by
  rcases h with ⟨e, _⟩ | ⟨k, e, h1, _⟩ <;> omega

set_option maxHeartbeats 4000000 in
set_option maxRecDepth 100000 in
theorem big1 (W : World) (ea sa : Option Addr) (ne ec nu sc : Nat) (h : (512 : Int) < (ne : Int)) : Calls Yba.prog 4 #[.slice ea ne ec, .slice sa nu sc] W fun e W' => e = .returned (.bool true) ∧ Below W.heap.size W W' := by
  go_enter Yba.func4, Yba.ntmps4
  go_wp2
  go_ret
  exact ⟨rfl, Below.refl _ _⟩
set_option maxHeartbeats 4000000 in
set_option maxRecDepth 100000 in
theorem big2 (W : World) (ea sa : Option Addr) (ne ec nu sc : Nat) (h1 : (ne : Int) ≤ 512) (h : (512 : Int) < (nu : Int)) : Calls Yba.prog 4 #[.slice ea ne ec, .slice sa nu sc] W fun e W' => e = .returned (.bool true) ∧ Below W.heap.size W W' := by
  go_enter Yba.func4, Yba.ntmps4
  go_wp2
  go_ret
  exact ⟨rfl, Below.refl _ _⟩

/-- What the law holds in hand after races. -/
structure AfR (W W7 : World) (X T L gp cp bf cf ne : Nat) (run : Nat → Bool) (P : Nat → Prop) (K : Int) : Prop where
  bel : Below W.heap.size W W7
  mx : MaxF P ne K
  f0 : W7.cell? ⟨bf, 0, none⟩ = some (.int .i32 (K + 1))
  f1 : W7.cell? ⟨bf, 1, none⟩ = some (.int .i32 0)
  x1 : 0 < ne → W7.cell? ⟨X, 1, none⟩ = some (.slice (some ⟨gp, 0, none⟩) ne cp)
  no : ∀ k, k < ne → ¬ ((k : Int) = K ∧ run k = true) → W7.cell? ⟨gp, k * 9 + 8, none⟩ = some (.pointer none)
  yes : ∀ k, k < ne → (k : Int) = K → run k = true → ∃ q b c, W7.cell? ⟨gp, k * 9 + 8, none⟩ = some (pt q) ∧ W7.cell? ⟨q, 0, none⟩ = some (.slice (some ⟨b, 0, none⟩) 1 c) ∧ W7.cell? ⟨b, 0, none⟩ = some (.int .i64 1)
  tr : ∀ k, k < ne → W7.cell? ⟨T, k, none⟩ = some (.int .i64 0)
  l0 : W7.cell? ⟨L, 0, none⟩ = some (.int .i32 ((ne : Int) - 1))
  l1 : W7.cell? ⟨L, 1, none⟩ = some (.int .i32 (-1))
theorem AfR.below {W W7 W8 : World} {X T L gp cp bf cf ne : Nat} {run : Nat → Bool} {P : Nat → Prop} {K : Int} (h : AfR W W7 X T L gp cp bf cf ne run P K) (hb : Below W7.heap.size W7 W8) : AfR W W8 X T L gp cp bf cf ne run P K := by
  have c : ∀ {b o : Nat} {v : Value}, W7.cell? ⟨b, o, none⟩ = some v → W8.cell? ⟨b, o, none⟩ = some v := fun hc => (hb.cell (cell_lt hc)).trans hc
  refine ⟨h.bel.trans (hb.mono h.bel.size), h.mx, c h.f0, c h.f1, fun hn => c (h.x1 hn), fun k hk hno => c (h.no k hk hno), fun k hk h1 h2 => ?_, fun k hk => c (h.tr k hk), c h.l0, c h.l1⟩
  obtain ⟨q, b, cc, m1, m2, m3⟩ := h.yes k hk h1 h2
  exact ⟨q, b, cc, c m1, c m2, c m3⟩
/-- What races leaves, at the law. -/
theorem AfR.of {W W6 W7 : World} {p : Pc} {E : EvD} {ne : Nat} {vv : Nat → Value} (h : BS W W6 p E (Sk E ne) ne ((ne : Int) - 1) ne vv vv (fun o => vv (6 + o))) {gp cp bf cf : Nat} {P : Nat → Prop} {K : Int} (hm : MaxF P ne K) (hr : RcsOut W6 W7 p.X gp ne E.ru K bf)
    (hb : p.base ≤ gp) (hx : 0 < ne → W6.cell? ⟨p.X, 1, none⟩ = some (.slice (some ⟨gp, 0, none⟩) ne cp)) : AfR W W7 p.X p.T p.L gp cp bf cf ne E.ru P K := by
  obtain ⟨a1, a2, a3, a4, a5⟩ := h.hi
  obtain ⟨l1, l2, l3, l4, l5⟩ := h.lo
  have hs := h.hb
  have fs := h.fr.size
  have bT := hr.blk p.T (by omega) (Ne.symm h.d1.2.1) (by omega)
  have bL := hr.blk p.L (by omega) (Ne.symm h.d1.2.2.1) (by omega)
  refine ⟨⟨hr.os.trans h.fr.os, hr.tape.trans h.fr.tape, hr.output.trans h.fr.output, Nat.le_trans fs hr.size, fun k hk => (hr.blk k (by omega) (by omega) (by omega)).trans (h.fr.block k hk)⟩, hm, hr.f0, hr.f1, fun hn => hr.x1.trans (hx hn), hr.no, hr.yes, fun k hk => (World.cell?_of_block bT).trans (h.pT.cell (by unfold gZ; rw [if_pos hk])), (World.cell?_of_block bL).trans (h.pL.cell (o := 0) rfl), (World.cell?_of_block bL).trans (h.pL.cell (o := 1) rfl)⟩

set_option maxHeartbeats 100000000 in
set_option maxRecDepth 100000 in
theorem law_walk (W : World) (ea sa : Option Addr) (eb eo ne ec : Nat) (E : EvD) (sb so nu sc : Nat) (su : Nat → Nat) (hE : EvA W eb eo ne E) (hB : ByA W sb so nu su) (hea : 0 < ne → ea = some ⟨eb, eo, none⟩) (hsa : 0 < nu → sa = some ⟨sb, so, none⟩) (hne : ne ≤ 512) (hnu : nu ≤ 512) :
    Calls Yba.prog 4 #[.slice ea ne ec, .slice sa nu sc] W fun e W' => e = .returned (.bool true) ∧ Below W.heap.size W W' := by
  have HE : Hid (EvA W eb eo ne E) := hE
  have HBy : Hid (ByA W sb so nu su) := hB
  have HBD : Hid _ := build_any W ea eb eo ne ec E hE hea hne
  have hne' : (ne : Int) ≤ 512 := by omega
  have hnu' : (nu : Int) ≤ 512 := by omega
  clear hE hB
  go_enter Yba.func4, Yba.ntmps4
  go_upto_region 5 with (go_at_call 5; refine Calls.mono HBD.out ?_; rintro e W1 ⟨p, vv, rfl, hbs⟩; obtain ⟨base, X, M, T, L, C⟩ := p; have H1 : Hid (BS W W1 ⟨base, X, M, T, L, C⟩ E (Sk E ne) ne ((ne : Int) - 1) ne vv vv (fun o => vv (6 + o))) := hbs; clear hbs)
  clear HBD
  have HCL : Hid _ := clone_any W1 L 2 ((ne : Int) - 1) (-1) (H1.out.pL.cell (o := 0) rfl) (H1.out.pL.cell (o := 1) rfl)
  go_upto_region 6 with (go_at_call 6; refine Calls.mono HCL.out ?_; rintro e W2 ⟨lb, lc, rfl, hlb, hl0, hl1, hb2⟩; have H2 : Hid (W1.heap.size ≤ lb ∧ W2.cell? ⟨lb, 0, none⟩ = some (.int .i32 ((ne : Int) - 1)) ∧ W2.cell? ⟨lb, 1, none⟩ = some (.int .i32 (-1)) ∧ Below W1.heap.size W1 W2) := ⟨hlb, hl0, hl1, hb2⟩; clear hlb hl0 hl1 hb2)
  clear HCL
  obtain ⟨W4, hW4⟩ : ∃ W4, (W2.alloc (.cells #[.int .i32 (-1), .int .i32 (-1)] 21)).alloc (.cells #[.pointer none, .bool false, .int .i64 0, .int .i64 0, .int .i64 0, .bool false, .int .i64 0, .slice none 0 0, .slice none 0 0, .int .i64 0, .bool false, .slice none 0 0, .slice none 0 0, .slice none 0 0, sl lb 0 2 lc, .slice (some ⟨W2.heap.size, 0, none⟩) 2 2, .slice none 0 0] 38) = W4 := ⟨_, rfl⟩
  obtain ⟨rb, hrb⟩ : ∃ rb, W2.heap.size = rb := ⟨_, rfl⟩
  have H4 : Hid (Below W2.heap.size W2 W4 ∧ W4.cell? ⟨W2.heap.size + 1, 14, none⟩ = some (sl lb 0 2 lc) ∧ W4.cell? ⟨W2.heap.size + 1, 15, none⟩ = some (sl W2.heap.size 0 2 2) ∧ W4.cell? ⟨W2.heap.size, 1, none⟩ = some (.int .i32 (-1))) := by
    have hA : (W2.alloc (.cells #[.int .i32 (-1), .int .i32 (-1)] 21)).heap.size = W2.heap.size + 1 := by simp
    have hn := heap_alloc_new (W2.alloc (.cells #[.int .i32 (-1), .int .i32 (-1)] 21)) (.cells #[.pointer none, .bool false, .int .i64 0, .int .i64 0, .int .i64 0, .bool false, .int .i64 0, .slice none 0 0, .slice none 0 0, .int .i64 0, .bool false, .slice none 0 0, .slice none 0 0, .slice none 0 0, sl lb 0 2 lc, .slice (some ⟨W2.heap.size, 0, none⟩) 2 2, .slice none 0 0] 38)
    rw [hA] at hn
    have ho : ((W2.alloc (.cells #[.int .i32 (-1), .int .i32 (-1)] 21)).alloc (.cells #[.pointer none, .bool false, .int .i64 0, .int .i64 0, .int .i64 0, .bool false, .int .i64 0, .slice none 0 0, .slice none 0 0, .int .i64 0, .bool false, .slice none 0 0, .slice none 0 0, .slice none 0 0, sl lb 0 2 lc, .slice (some ⟨W2.heap.size, 0, none⟩) 2 2, .slice none 0 0] 38)).heap[W2.heap.size]? = (W2.alloc (.cells #[.int .i32 (-1), .int .i32 (-1)] 21)).heap[W2.heap.size]? := heap_alloc_old _ _ (by omega)
    rw [heap_alloc_new W2 _] at ho
    rw [← hW4]
    refine ⟨((Below.refl _ _).alloc (Nat.le_refl _) _).alloc (by omega) _, ?_, ?_, ?_⟩
    · simp only [World.cell?, hn]; rfl
    · simp only [World.cell?, hn]; rfl
    · simp only [World.cell?, ho]; rfl
  rw [hrb] at H4
  rw [hW4, hrb]
  have H4b : Hid (W2.heap.size = rb) := hrb
  clear hW4 hrb
  have HB4 : Hid (BS W W4 ⟨base, X, M, T, L, C⟩ E (Sk E ne) ne ((ne : Int) - 1) ne vv vv (fun o => vv (6 + o))) := BI.keep (BI.keep H1.out H2.out.2.2.2) (by have := H4.out.1; rw [← H4b.out] at this; exact this)
  have HDC : Hid _ := decode_any W4 sa sb so nu sc su (HBy.out.below HB4.out.fr) hsa hnu
  go_upto_region 7 with (go_at_call 7; refine Calls.mono HDC.out ?_; rintro e W5 ⟨gs, cs, rfl, hus, hgs, hb5⟩; have H5 : Hid (UsR W5 gs 0 nu (fun j => dec (su j)) ∧ W4.heap.size ≤ gs ∧ Below W4.heap.size W4 W5) := ⟨hus, hgs, hb5⟩; clear hus hgs hb5)
  clear HDC
  obtain ⟨W6, hW6⟩ : ∃ W6, W5.alloc (.cells #[.int .i64 (ne : Int), .int .i64 1, .slice (some ⟨gs, 0, none⟩) nu cs, .slice none 0 0] 42) = W6 := ⟨_, rfl⟩
  obtain ⟨S, hS⟩ : ∃ S, W5.heap.size = S := ⟨_, rfl⟩
  have HB6 : Hid (BS W W6 ⟨base, X, M, T, L, C⟩ E (Sk E ne) ne ((ne : Int) - 1) ne vv vv (fun o => vv (6 + o)) ∧ RsIn W6 X base ne (rb + 1) S lb lc rb 2 gs cs nu su) := by
    have b6 : Below W5.heap.size W5 W6 := by rw [← hW6]; exact (Below.refl _ _).alloc (Nat.le_refl _) _
    have hn := heap_alloc_new W5 (.cells #[.int .i64 (ne : Int), .int .i64 1, .slice (some ⟨gs, 0, none⟩) nu cs, .slice none 0 0] 42)
    rw [hW6, hS] at hn
    have b56 : Below W4.heap.size W4 W6 := H5.out.2.2.trans (b6.mono H5.out.2.2.size)
    have b26 : Below W2.heap.size W2 W6 := by
      have h1 := H4.out.1
      rw [← H4b.out] at h1
      exact h1.trans (b56.mono h1.size)
    have s1 := H1.out.hb
    have s2 := H2.out.2.2.2.size
    have s3 := H4.out.1.size
    have s4 := H5.out.2.2.size
    have s5 := H4b.out
    have hx := H1.out.hi.1
    simp only at s1 hx
    have c4 : ∀ {b o : Nat} {v : Value}, W4.cell? ⟨b, o, none⟩ = some v → W6.cell? ⟨b, o, none⟩ = some v := fun hc => (b56.cell (cell_lt hc)).trans hc
    have c2 : ∀ {b o : Nat} {v : Value}, W2.cell? ⟨b, o, none⟩ = some v → W6.cell? ⟨b, o, none⟩ = some v := fun hc => (b26.cell (cell_lt hc)).trans hc
    refine ⟨BI.keep HB4.out b56, ⟨by simp only [World.cell?, hn]; rfl, by simp only [World.cell?, hn]; rfl, by simp only [World.cell?, hn]; rfl, by simp only [World.cell?, hn]; rfl, H5.out.1.below b6, c4 H4.out.2.1, c4 H4.out.2.2.1, c2 H2.out.2.1, c2 H2.out.2.2.1, c4 H4.out.2.2.2, ?_⟩⟩
    have := H2.out.1
    have := H5.out.2.1
    exact ⟨by omega, by omega, by omega, by omega, by omega⟩
  rw [hW6, hS]
  clear hW6 hS HB4 H1 H2 H4 H4b H5
  obtain ⟨pl, u, D, U, q, R, hRc, eX, ene, eRB, eS, hgp, hx1⟩ := BS.rcIn HB6.out.1 hne hnu HB6.out.2
  have HRC : Hid _ := races_any W6 pl u D U q R E.ru _ E nu su hRc
  rw [eX, ene, eRB, eS] at HRC
  obtain ⟨gp, hgq⟩ : ∃ gp, q.gp = gp := ⟨_, rfl⟩
  obtain ⟨cp, hcq⟩ : ∃ cp, q.cp = cp := ⟨_, rfl⟩
  rw [hgq] at HRC hgp hx1
  rw [hcq] at hx1
  have HGP : Hid (base ≤ gp ∧ (0 < ne → W6.cell? ⟨X, 1, none⟩ = some (.slice (some ⟨gp, 0, none⟩) ne cp))) := ⟨hgp, hx1⟩
  simp only at HRC
  clear hRc eX ene eRB eS hgp hx1 hgq hcq
  go_upto_region 8 with (go_at_call 8; refine Calls.mono HRC.out ?_; rintro e W7 ⟨bf, cf, K, rfl, hmx, hro⟩; have H7 : Hid (AfR W W7 X T L gp cp bf cf ne E.ru (FoundP E ne 2 1 (fun _ => 0) (lastR ne) nu su) K) := AfR.of HB6.out.1 hmx hro HGP.out.1 HGP.out.2; clear hmx hro)
  clear HRC HB6 HGP
  have HFN : Hid _ := found_any W7 ea sa eb eo ne ec E T ne L 2 2 1 (fun _ => 0) (lastR ne) sb so nu sc su ⟨HE.out.below H7.out.bel, HBy.out.below H7.out.bel, H7.out.tr, fun t ht => by
      match t, ht with
      | 0, _ => exact H7.out.l0
      | 1, _ => exact H7.out.l1, fun t ht => by
      match t, ht with
      | 0, _ => simp only [lastR, if_true]; omega
      | 1, _ => simp only [lastR]; omega, fun k hk => by decide⟩ hea hsa hne hnu (by decide) (by decide)
  go_upto_region 9 with (go_at_call 9; refine Calls.mono HFN.out ?_; rintro e W8 ⟨rfl, hmr, hb8⟩; have H8 : Hid (AfR W W8 X T L gp cp bf cf ne E.ru (FoundP E ne 2 1 (fun _ => 0) (lastR ne) nu su) K ∧ MRP W8 W7.heap.size ne (FoundP E ne 2 1 (fun _ => 0) (lastR ne) nu su)) := ⟨H7.out.below hb8, hmr⟩; clear hmr hb8)
  clear HFN H7
  obtain ⟨mb, hmb⟩ : ∃ mb, W7.heap.size = mb := ⟨_, rfl⟩
  rw [hmb] at H8 ⊢
  clear hmb
  go_wp2
  go_loopg [13, 14] ne (fun g v13 v14 wx => ∃ (k : Nat) (Kv : Int), g + k = ne ∧ v14 = .int .i64 (k : Int) ∧ v13 = .int .i64 Kv ∧ wx = W8 ∧ Hid (MaxF (FoundP E ne 2 1 (fun _ => 0) (lastR ne) nu su) k Kv))
  case atStart => exact ⟨0, -1, by omega, rfl, rfl, rfl, .inl ⟨rfl, fun x hx => by omega⟩⟩
  case round =>
    obtain ⟨k, Kv, hgk, rfl, rfl, hw, HM⟩ := hrel
    subst hw
    by_cases hk : (k : Int) < (ne : Int)
    · obtain ⟨mv, m1, m2, -⟩ := H8.out.2.cells (x := k) (by omega)
      have HMV : Hid (mv = true ↔ (FoundP E ne 2 1 (fun _ => 0) (lastR ne) nu su) k) := m2
      clear m2
      cases mv
      · go_wp2
        go_roundg (ne - (k + 1))
        case measure => omega
        case rel => exact ⟨k + 1, Kv, by omega, by go_num, rfl, rfl, HM.out.no (fun h => nomatch (HMV.out.mpr h))⟩
      · go_wp2
        go_roundg (ne - (k + 1))
        case measure => omega
        case rel => exact ⟨k + 1, (k : Int), by omega, by go_num, rfl, rfl, MaxF.yes (by first | exact HMV.out.mp rfl | exact HMV.out.mp trivial)⟩
    · have hkn : k = ne := by omega
      have hKK : Kv = K := by have := HM.out; rw [hkn] at this; exact this.uniq H8.out.1.mx
      obtain ⟨r1, r2⟩ := H8.out.1.mx.rng
      have f0 := H8.out.1.f0
      have f1 := H8.out.1.f1
      rw [hKK]
      have hwK : IntKind.i32.wrap (K + 1) = K + 1 := by rw [IntKind.wrap_i32]; omega
      have hbK : ((K + 1) != (K + 1)) = false := by simp
      clear hkn hKK HM
      go_wp2
      go_loopg [15] ne (fun g v wx => ∃ k : Nat, g + k = ne ∧ v = .int .i64 (k : Int) ∧ wx = wr)
      case atStart => exact ⟨0, by omega, rfl, rfl⟩
      case round =>
        obtain ⟨j, hgj, rfl, hw2⟩ := hrel
        subst hw2
        by_cases hj : (j : Int) < (ne : Int)
        · obtain rfl := hea (by omega)
          have x1 := H8.out.1.x1 (by omega)
          clear f0 f1
          by_cases hjK : (j : Int) = K
          · have hjK' : ((j : Int) == K) = true := by rw [beq_iff_eq]; exact hjK
            have e5 := ((HE.out.below H8.out.1.bel) j (by omega)).c5
            obtain ⟨ru, hru⟩ : ∃ ru, E.ru j = ru := ⟨_, rfl⟩
            rw [hru] at e5
            cases ru
            · have n8 := H8.out.1.no j (by omega) (fun h => by rw [hru] at h; exact nomatch h.2)
              have hpe : (binOp .neq 51 (.pointer none) (.pointer none)).run Yba.prog wr = .ok (.bool false) wr := by kernel_rfl
              clear hru hjK
              go_wp2
              go_roundg (ne - (j + 1))
              case measure => omega
              case rel => exact ⟨j + 1, by omega, by go_num, rfl⟩
            · obtain ⟨qq, bb, c9, m1, m2, m3⟩ := H8.out.1.yes j (by omega) hjK hru
              have hpe : (binOp .eql 51 (pt qq) (.pointer none)).run Yba.prog wr = .ok (.bool false) wr := by kernel_rfl
              clear hru hjK
              go_wp2
              go_roundg (ne - (j + 1))
              case measure => omega
              case rel => exact ⟨j + 1, by omega, by go_num, rfl⟩
          · have hjK' : ((j : Int) == K) = false := by rw [beq_eq_false_iff_ne]; exact hjK
            have n8 := H8.out.1.no j (by omega) (fun h => hjK h.1)
            have hpe : (binOp .neq 51 (.pointer none) (.pointer none)).run Yba.prog wr = .ok (.bool false) wr := by kernel_rfl
            go_wp2
            go_roundg (ne - (j + 1))
            case measure => omega
            case rel => exact ⟨j + 1, by omega, by go_num, rfl⟩
        · go_wp2
          go_ret
          exact ⟨rfl, H8.out.1.bel⟩
end Go.Proofs.Ybulkbxvu
