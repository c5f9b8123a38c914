/-
  The explorer as the readers see it: clockOf, at, follows.
-/
import Derived.Test.YbulkbxvuS0
namespace Go.Proofs.Ybulkbxvu
open Go.RowKit
set_option linter.unusedVariables false

/-- What the events say. -/
structure Dat where
  N : Nat
  ne : Nat
  t : Nat → Nat
  nth : Nat → Int
  ck : Nat → Int
  U : Nat → Nat
/-- Where the events and the clocks lie. -/
structure Pl where
  X : Nat
  ge : Nat
  ce : Nat
  gc : Nat
  cc : Nat
/-- The events, as they are read. -/
structure EvR (W : World) (p : Pl) (D : Dat) : Prop where
  x2 : W.cell? ⟨p.X, 2, none⟩ = some (.slice (some ⟨p.ge, 0, none⟩) D.ne p.ce)
  x3 : W.cell? ⟨p.X, 3, none⟩ = some (.slice (some ⟨p.gc, 0, none⟩) (D.ne * D.N) p.cc)
  e0 : ∀ k, k < D.ne → W.cell? ⟨p.ge, k * 4, none⟩ = some (.int .i32 (D.t k : Int))
  e1 : ∀ k, k < D.ne → W.cell? ⟨p.ge, k * 4 + 1, none⟩ = some (.int .i32 (D.nth k))
  e2 : ∀ k, k < D.ne → W.cell? ⟨p.ge, k * 4 + 2, none⟩ = some (.int .i32 ((k * D.N : Nat) : Int))
  e3 : ∀ k, k < D.ne → W.cell? ⟨p.ge, k * 4 + 3, none⟩ = some (.int .i32 (D.U k : Int))
  cl : ∀ j, j < D.ne * D.N → W.cell? ⟨p.gc, j, none⟩ = some (.int .i32 (D.ck j))
  cap : D.ne * D.N ≤ p.cc
  capm : p.cc ≤ 9223372036854775807
  small : D.ne ≤ 512 ∧ D.N ≤ 3 ∧ 1 ≤ D.N
  tN : ∀ k, k < D.ne → D.t k < D.N

theorem EvR.drewN {W : World} {p : Pl} {D : Dat} (h : EvR W p D) (k : Nat) : EvR (W.drewN k) p D := ⟨h.x2, h.x3, h.e0, h.e1, h.e2, h.e3, h.cl, h.cap, h.capm, h.small, h.tN⟩

set_option maxHeartbeats 2000000 in
set_option maxRecDepth 100000 in
theorem clockOf_any (W : World) (p : Pl) (D : Dat) (h : EvR W p D) (k : Nat) (hk : k < D.ne) :
    Calls Yba.prog 24 #[pt p.X, .int .i64 (k : Int)] W fun e W' => e = .returned (.slice (some ⟨p.gc, k * D.N, none⟩) D.N (p.cc - k * D.N)) ∧ ∃ m, W' = W.drewN m := by
  obtain ⟨N, hN⟩ : ∃ N, D.N = N := ⟨_, rfl⟩
  obtain ⟨ne, hne⟩ : ∃ ne, D.ne = ne := ⟨_, rfl⟩
  obtain ⟨X, hX⟩ : ∃ X, p.X = X := ⟨_, rfl⟩
  obtain ⟨ge, hge⟩ : ∃ X, p.ge = X := ⟨_, rfl⟩
  obtain ⟨gc, hgc⟩ : ∃ X, p.gc = X := ⟨_, rfl⟩
  obtain ⟨ce, hce⟩ : ∃ X, p.ce = X := ⟨_, rfl⟩
  obtain ⟨cc, hcc⟩ : ∃ X, p.cc = X := ⟨_, rfl⟩
  have x2 := h.x2
  have x3 := h.x3
  have e2 := h.e2 k hk
  have e2' := h.e2 (k + 1)
  have hcap := h.cap
  have hcapm := h.capm
  obtain ⟨s1, s2, s3⟩ := h.small
  rw [hX, hge, hne, hce] at x2
  rw [hX, hgc, hne, hN, hcc] at x3
  rw [hge, hN] at e2 e2'
  rw [hne] at hk e2' s1 hcap
  rw [hN] at hcap s2 s3
  rw [hcc] at hcap hcapm
  rw [hX, hgc, hN, hcc]
  clear h hX hge hgc hce hcc
  obtain ⟨kn, hkn⟩ : ∃ kn, k * N = kn := ⟨_, rfl⟩
  obtain ⟨tot, htot⟩ : ∃ tot, ne * N = tot := ⟨_, rfl⟩
  have hle : kn + N ≤ tot := by
    rw [← hkn, ← htot]
    calc k * N + N = (k + 1) * N := by rw [Nat.add_mul, Nat.one_mul]
      _ ≤ ne * N := Nat.mul_le_mul_right _ hk
  have htot2 : tot ≤ 1536 := by
    rw [← htot]
    calc ne * N ≤ 512 * 3 := Nat.mul_le_mul s1 s2
      _ = 1536 := rfl
  rw [htot] at x3 hcap
  rw [hkn] at e2
  rw [hkn]
  by_cases hlast : (k : Int) + 1 < (ne : Int)
  · have e2'' := e2' (by omega)
    have e : (k + 1) * N = kn + N := by rw [Nat.add_mul, Nat.one_mul, hkn]
    rw [e] at e2''
    have r1 : Hid (kn + N - kn = N) := by show _ = _; omega
    clear e2' e hkn htot hN hne
    go_enter Yba.func24, Yba.ntmps24
    go_wp2
    go_quiet (fail)
    go_wp2
    go_ret
    refine ⟨?_, _, rfl⟩
    show Ending.returned (Value.slice (some ⟨gc, kn, none⟩) (kn + N - kn) (cc - kn)) = _
    rw [r1.out]
  · have hk1 : k + 1 = ne := by omega
    have e : kn + N = tot := by rw [← htot, ← hk1, Nat.add_mul, Nat.one_mul, hkn]
    have r1 : tot - kn = N := by omega
    have Hk : Hid (k + 1 = ne) := hk1
    clear e2' hkn htot hN hne e hk1
    go_enter Yba.func24, Yba.ntmps24
    go_wp2
    go_quiet (fail)
    go_wp2
    go_ret
    exact ⟨rfl, _, rfl⟩

set_option maxHeartbeats 2000000 in
set_option maxRecDepth 100000 in
theorem at_any (W : World) (b o n c t : Nat) (v : Int) (ht : t < n) (hn : n ≤ 512) (hv : W.cell? ⟨b, o + t, none⟩ = some (.int .i32 v)) :
    Calls Yba.prog 30 #[sl b o n c, .int .i64 (t : Int)] W fun e W' => e = .returned (.int .i32 v) ∧ W' = W := by
  go_enter Yba.func30, Yba.ntmps30
  go_wp2
  go_ret
  exact ⟨rfl, rfl⟩

set_option maxHeartbeats 2000000 in
set_option maxRecDepth 100000 in
theorem follows_any (W : World) (p : Pl) (D : Dat) (h : EvR W p D) (k : Nat) (hk : k < D.ne) (b o c : Nat) (cv : Nat → Int) (hc : ∀ t, t < D.N → W.cell? ⟨b, o + t, none⟩ = some (.int .i32 (cv t))) :
    Calls Yba.prog 20 #[pt p.X, sl b o D.N c, .int .i64 (k : Int)] W fun e W' => e = .returned (.bool (decide (D.nth k ≤ cv (D.t k)))) ∧ ∃ m, W' = W.drewN m := by
  obtain ⟨X, ge, ce, gc, cc⟩ := p
  obtain ⟨N, ne, t, nth, ck, U⟩ := D
  have x2 := h.x2
  have e0 := h.e0 k hk
  have e1 := h.e1 k hk
  have ht := h.tN k hk
  obtain ⟨s1, s2, s3⟩ := h.small
  simp only at hk x2 e0 e1 ht s1 s2 s3 hc
  have hcv := hc (t k) ht
  obtain ⟨T, hT⟩ : ∃ T, t k = T := ⟨_, rfl⟩
  obtain ⟨M, hM⟩ : ∃ M, nth k = M := ⟨_, rfl⟩
  show Calls Yba.prog 20 #[pt X, sl b o N c, .int .i64 (k : Int)] W fun e W' => e = .returned (.bool (decide (nth k ≤ cv (t k)))) ∧ ∃ m, W' = W.drewN m
  rw [hT] at ht hcv e0
  rw [hM] at e1
  rw [hT, hM]
  have HA : Hid (∀ m, Calls Yba.prog 30 #[sl b o N c, .int .i64 (T : Int)] (W.drewN m) fun e W' => e = .returned (.int .i32 (cv T)) ∧ W' = W.drewN m) := fun m => at_any (W.drewN m) b o N c T (cv T) ht (by omega) hcv
  clear h hc hT hM hcv
  go_enter Yba.func20, Yba.ntmps20
  go_wp2
  go_quiet ((go_at_call 30; exact Calls.quiet_of_same (HA.out _)))
  go_wp2
  go_ret
  exact ⟨rfl, _, rfl⟩

theorem cell_lt {W : World} {b o : Nat} {v : Value} (h : W.cell? ⟨b, o, none⟩ = some v) : b < W.heap.size := World.block_lt_of_cell? W ⟨b, o, none⟩ h
theorem Fr.cell {w W : World} {blk b o : Nat} {v : Value} (h : Fr w W blk) (hb : b ≠ blk) (hc : w.cell? ⟨b, o, none⟩ = some v) : W.cell? ⟨b, o, none⟩ = some v := by
  rw [World.cell?_of_block (h.2.2.2.2 b (cell_lt hc) hb)]; exact hc
theorem Fr.trans {w W V : World} {blk : Nat} (h : Fr w W blk) (h' : Fr W V blk) : Fr w V blk := by
  obtain ⟨a1, a2, a3, a4, a5⟩ := h
  obtain ⟨b1, b2, b3, b4, b5⟩ := h'
  exact ⟨b1.trans a1, b2.trans a2, b3.trans a3, by omega, fun k hk hne => (b5 k (by omega) hne).trans (a5 k hk hne)⟩
theorem EvR.fr {W W' : World} {p : Pl} {D : Dat} {b : Nat} (h : EvR W p D) (hf : Fr W W' b) (h1 : p.X ≠ b) (h2 : p.ge ≠ b) (h3 : p.gc ≠ b) : EvR W' p D :=
  ⟨hf.cell h1 h.x2, hf.cell h1 h.x3, fun k hk => hf.cell h2 (h.e0 k hk), fun k hk => hf.cell h2 (h.e1 k hk), fun k hk => hf.cell h2 (h.e2 k hk), fun k hk => hf.cell h2 (h.e3 k hk), fun j hj => hf.cell h3 (h.cl j hj), h.cap, h.capm, h.small, h.tN⟩
theorem RowG.drewN {W : World} {blk off m n : Nat} {G : Nat → Int} (h : RowG W blk off m n G) (k : Nat) : RowG (W.drewN k) blk off m n G := h
theorem RowG.congr {W : World} {blk off m n : Nat} {G G' : Nat → Int} (h : RowG W blk off m n G) (e : ∀ t, t < n → G t = G' t) : RowG W blk off m n G' := by
  obtain ⟨C, h1, h2, h3, h4⟩ := h
  exact ⟨C, h1, h2, h3, fun j hj => by rw [h4 j hj, e j hj]⟩

set_option maxHeartbeats 2000000 in
set_option maxRecDepth 100000 in
/-- join: the pointwise max with the event's clock. -/
theorem join_any (W : World) (p : Pl) (D : Dat) (h : EvR W p D) (k : Nat) (hk : k < D.ne) (b m c : Nat) (cv : Nat → Int) (hR : RowG W b 0 m D.N cv) (h1 : p.X ≠ b) (h2 : p.ge ≠ b) (h3 : p.gc ≠ b) :
    Calls Yba.prog 12 #[pt p.X, sl b 0 D.N c, .int .i64 (k : Int)] W fun e W' => e = .returned (.tuple #[]) ∧ RowG W' b 0 m D.N (fun t => max (cv t) (D.ck (k * D.N + t))) ∧ Fr W W' b := by
  have HC : Hid _ := clockOf_any W p D h k hk
  have HE : Hid (EvR W p D) := h
  obtain ⟨X, ge, ce, gc, cc⟩ := p
  obtain ⟨N, ne, t, nth, ck, U⟩ := D
  obtain ⟨s1, s2, s3⟩ := h.small
  have hcl := h.cl
  simp only at hk s1 s2 s3 h1 h2 h3 hcl
  have HR : Hid (RowG W b 0 m N cv) := hR
  have hN : k * N + N ≤ ne * N := by
    calc k * N + N = (k + 1) * N := by rw [Nat.add_mul, Nat.one_mul]
      _ ≤ ne * N := Nat.mul_le_mul_right _ hk
  have HCL : Hid (∀ t, t < N → W.cell? ⟨gc, k * N + t, none⟩ = some (.int .i32 (ck (k * N + t)))) := fun t ht => hcl _ (by omega)
  show Calls Yba.prog 12 #[pt X, sl b 0 N c, .int .i64 (k : Int)] W fun e W' => e = .returned (.tuple #[]) ∧ RowG W' b 0 m N (fun t => max (cv t) (ck (k * N + t))) ∧ Fr W W' b
  simp only at HC HE
  clear h hR hcl hN
  go_enter Yba.func12, Yba.ntmps12
  go_wp2_with (go_at_call 24; refine Calls.mono HC.out ?_; rintro e W1 ⟨rfl, q, rfl⟩)
  obtain ⟨kn, hkn⟩ : ∃ kn, k * N = kn := ⟨_, rfl⟩
  rw [hkn] at HCL
  simp only [hkn]
  have HKN : Hid (k * N = kn) := hkn
  clear hkn HC
  go_loopg [12] N (fun g v wx => ∃ (i : Nat), g + i = N ∧ v = .int .i64 (i : Int) ∧ Hid (RowG wx b 0 m N (fun t => if t < i then max (cv t) (ck (kn + t)) else cv t) ∧ Fr W wx b))
  case atStart => exact ⟨0, by omega, rfl, HR.out.congr (fun t _ => by simp), Fr.refl _ _⟩
  case round =>
    obtain ⟨i, hg, rfl, H⟩ := hrel
    by_cases hi : (i : Int) < (N : Int)
    · obtain ⟨c1, c2⟩ := H.out.1.cells
      have a1 := c1 i (by omega)
      have a2 := c2 i (by omega)
      have a3 := H.out.2.cell (Ne.symm h3 ∘ Eq.symm) (HCL.out i (by omega))
      simp only [Nat.zero_add, Nat.lt_irrefl, if_false] at a1 a2
      clear c1 c2
      go_wp2
      all_goals
        go_roundg (N - (i + 1))
        case measure => omega
        case rel =>
          have r := H.out.1.set i (by omega) (max (cv i) (ck (kn + i)))
          refine ⟨i + 1, by omega, by go_num, ?_, H.out.2.set _ _ _ (.inl rfl)⟩
          rw [Nat.zero_add] at r
          have hx : ∀ x, x = max (cv i) (ck (kn + i)) → RowG (wr.setCell ⟨b, i, none⟩ (.int .i32 x)) b 0 m N (fun t => if t < i + 1 then max (cv t) (ck (kn + t)) else cv t) := by
            rintro x rfl
            refine r.congr fun t ht => ?_
            by_cases e : t = i
            · rw [if_pos e, if_pos (by omega), e]
            · rw [if_neg e]
              by_cases e2 : t < i
              · rw [if_pos e2, if_pos (by omega)]
              · rw [if_neg e2, if_neg (by omega)]
          exact hx _ (by omega)
    · go_wp2
      go_end0
      refine ⟨rfl, H.out.1.congr (fun t ht => by rw [if_pos (by omega), HKN.out]), H.out.2⟩
end Go.Proofs.Ybulkbxvu
