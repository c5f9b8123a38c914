/-
  What an event does: Contains at []machine.Use, usesOf, writes.
-/
import Derived.Test.YbulkbxvuR0
import Derived.Laws.StructEq
namespace Go.Proofs.Ybulkbxvu
open Go.RowKit
set_option linter.unusedVariables false

/-- A use: kind, id, index, writes. -/
structure Use4 where
  k : Int
  i : Int
  x : Int
  w : Bool
abbrev Use4.v (u : Use4) : Value := .agg #[.int .u8 u.k, .int .u32 u.i, .int .u32 u.x, .bool u.w]
def Use4.eq (a b : Use4) : Bool := a.k == b.k && a.i == b.i && a.x == b.x && a.w == b.w

set_option maxRecDepth 10000 in
theorem eqUse (a b : Use4) (w : World) : (binOp .eql 72 a.v b.v).run Yba.prog w = .ok (.bool (a.eq b)) w := by
  have u72 : Yba.prog.underlying 72 = some (.struct (Yba.prog.fieldsOf 72)) := by kernel_rfl
  have u70 : Yba.prog.underlying 70 = some (.struct (Yba.prog.fieldsOf 70)) := by kernel_rfl
  have hp : Yba.prog.stoodInHeld 72 = false := by kernel_rfl
  have hp0 : Yba.prog.stoodInHeld 70 = false := by kernel_rfl
  have a67 := Yba.isAgg67
  have a68 := Yba.isAgg68
  have a70 := Yba.isAgg70
  have a4 := Yba.isAgg4
  have z70 := Yba.sizeOf70
  have z67 := Yba.sizeOf67
  have z68 := Yba.sizeOf68
  have z4 := Yba.sizeOf4
  have t67 := Yba.underlying67
  have t68 := Yba.underlying68
  have t4 := Yba.underlying4
  obtain ⟨n, hn⟩ : ∃ n : Nat, (10000 : Nat) = n + 1 + 1 + 1 := ⟨9997, rfl⟩
  simp only [Use4.v]
  rw [run_eql_struct, hn, run_equalIn_agg w (n + 1 + 1) 72 _ _ u72 hp]
  simp only [Program.fieldsOf, Yba.underlying72]
  have h70 : ∀ (xs ys : Array Value), (Op.equalIn (n + 1 + 1) 70 (.agg xs) (.agg ys)).run Yba.prog w = _ := fun xs ys => run_equalIn_agg w (n + 1) 70 xs ys u70 hp0
  simp only [Program.fieldsOf, Yba.underlying70] at h70
  clear hn u72 u70 hp hp0
  go_simp
  by_cases h1 : a.k = b.k <;> by_cases h2 : a.i = b.i <;> by_cases h3 : a.x = b.x <;> by_cases h4 : a.w = b.w <;> simp [Use4.eq, h1, h2, h3, h4]

/-- A slice of uses, as it is read. -/
def UsR (W : World) (g o n : Nat) (F : Nat → Use4) : Prop := ∀ j, j < n → W.cell? ⟨g, o + j * 4, none⟩ = some (.int .u8 (F j).k) ∧ W.cell? ⟨g, o + j * 4 + 1, none⟩ = some (.int .u32 (F j).i) ∧ W.cell? ⟨g, o + j * 4 + 2, none⟩ = some (.int .u32 (F j).x) ∧ W.cell? ⟨g, o + j * 4 + 3, none⟩ = some (.bool (F j).w)

set_option maxHeartbeats 2000000 in
set_option maxRecDepth 100000 in
theorem index_any (W : World) (ao : Option Addr) (g o n c : Nat) (F : Nat → Use4) (hao : 0 < n → ao = some ⟨g, o, none⟩) (hn : (n : Int) < 1000000) (h : UsR W g o n F) (u : Use4) :
    Calls Yba.prog 38 #[.slice ao n c, u.v] W fun e W' => ∃ r : Int, e = .returned (.int .i64 r) ∧ (0 ≤ r ↔ ∃ j, j < n ∧ u.eq (F j) = true) ∧ Below W.heap.size W W' := by
  obtain ⟨uk, ui, ux, uw⟩ := u
  have HQ : Hid (∀ b w, (binOp .eql 72 (Use4.v ⟨uk, ui, ux, uw⟩) (Use4.v b)).run Yba.prog w = .ok (.bool (Use4.eq ⟨uk, ui, ux, uw⟩ b)) w) := fun b w => eqUse _ b w
  simp only [Use4.v] at HQ ⊢
  have HU : Hid (UsR W g o n F) := h
  clear h
  go_enter Yba.func38, Yba.ntmps38
  go_wp2
  go_loopg [8] n (fun gh v wx => ∃ (i : Nat), gh + i = n ∧ v = .int .i64 (i : Int) ∧ Hid ((∃ q, wx = (W.alloc (.cells #[.int .u8 uk, .int .u32 ui, .int .u32 ux, .bool uw] 72)).drewN q) ∧ ∀ j, j < i → Use4.eq ⟨uk, ui, ux, uw⟩ (F j) = false))
  case atStart => exact ⟨0, by omega, rfl, ⟨0, rfl⟩, fun j hj => by omega⟩
  case round =>
    obtain ⟨i, hg, rfl, H⟩ := hrel
    by_cases hi : (i : Int) < (n : Int)
    · obtain ⟨q, hq⟩ := H.out.1
      subst hq
      obtain rfl := hao (by omega)
      clear hao
      obtain ⟨f0, f1, f2, f3⟩ := HU.out i (by omega)
      have hlt := cell_lt f0
      have heq := HQ.out (F i)
      obtain ⟨o1, ho1⟩ : ∃ o1, Use4.eq ⟨uk, ui, ux, uw⟩ (F i) = o1 := ⟨_, rfl⟩
      rw [ho1] at heq
      have HO : Hid (Use4.eq ⟨uk, ui, ux, uw⟩ (F i) = o1) := ho1
      clear ho1
      obtain ⟨⟨fk, fi, fx, fw⟩, hF⟩ : ∃ f, F i = f := ⟨_, rfl⟩
      rw [hF] at f0 f1 f2 f3 heq
      simp only at f0 f1 f2 f3 heq
      clear hF
      go_wp2
      go_quiet (fail)
      cases o1
      · go_wp2
        go_roundg (n - (i + 1))
        case measure => omega
        case rel =>
          refine ⟨i + 1, by omega, by go_num, ⟨q + nq, rfl⟩, fun j hj => ?_⟩
          by_cases e : j = i
          · rw [e]; exact HO.out
          · exact H.out.2 j (by omega)
      · go_wp2
        go_ret
        refine ⟨(i : Int), rfl, ⟨fun _ => ⟨i, by omega, HO.out⟩, fun _ => by omega⟩, ?_⟩
        exact ((Below.refl _ _).alloc (Nat.le_refl _) _).trans ⟨rfl, rfl, rfl, Nat.le_refl _, fun _ _ => rfl⟩
    · go_wp2
      go_ret
      obtain ⟨q, hq⟩ := H.out.1
      refine ⟨-1, rfl, ⟨fun h => absurd h (by omega), fun ⟨j, h1, h2⟩ => by rw [H.out.2 j (by omega)] at h2; cases h2⟩, ?_⟩
      rw [hq]
      exact ((Below.refl _ _).alloc (Nat.le_refl _) _).trans ⟨rfl, rfl, rfl, Nat.le_refl _, fun _ _ => rfl⟩

theorem UsR.below {W W' : World} {g o n : Nat} {F : Nat → Use4} (h : UsR W g o n F) (hb : Below W.heap.size W W') : UsR W' g o n F := by
  intro j hj
  obtain ⟨h1, h2, h3, h4⟩ := h j hj
  have hl := cell_lt h1
  exact ⟨by rw [hb.cell hl]; exact h1, by rw [hb.cell hl]; exact h2, by rw [hb.cell hl]; exact h3, by rw [hb.cell hl]; exact h4⟩

set_option maxHeartbeats 2000000 in
set_option maxRecDepth 100000 in
theorem contains_any (W : World) (ao : Option Addr) (g o n c : Nat) (F : Nat → Use4) (hao : 0 < n → ao = some ⟨g, o, none⟩) (hn : (n : Int) < 1000000) (h : UsR W g o n F) (u : Use4) :
    Calls Yba.prog 25 #[.slice ao n c, u.v] W fun e W' => ∃ r : Bool, e = .returned (.bool r) ∧ (r = true ↔ ∃ j, j < n ∧ u.eq (F j) = true) ∧ Below W.heap.size W W' := by
  obtain ⟨uk, ui, ux, uw⟩ := u
  have hb : Below W.heap.size W (W.alloc (.cells #[.int .u8 uk, .int .u32 ui, .int .u32 ux, .bool uw] 72)) := (Below.refl _ _).alloc (Nat.le_refl _) _
  have HI : Hid _ := index_any (W.alloc (.cells #[.int .u8 uk, .int .u32 ui, .int .u32 ux, .bool uw] 72)) ao g o n c F hao hn (h.below hb) ⟨uk, ui, ux, uw⟩
  have hsz := hb.size
  have HB : Hid (Below W.heap.size W (W.alloc (.cells #[.int .u8 uk, .int .u32 ui, .int .u32 ux, .bool uw] 72)) ∧ W.heap.size ≤ (W.alloc (.cells #[.int .u8 uk, .int .u32 ui, .int .u32 ux, .bool uw] 72)).heap.size) := ⟨hb, hsz⟩
  simp only [Use4.v] at HI ⊢
  clear h hb hsz hao
  go_enter Yba.func25, Yba.ntmps25
  go_wp2_with (go_at_call 38; refine Calls.mono HI.out ?_; rintro e W1 ⟨r, rfl, hr, hb1⟩; have HR : Hid (0 ≤ r ↔ ∃ j, j < n ∧ Use4.eq ⟨uk, ui, ux, uw⟩ (F j) = true) := hr; clear hr)
  go_ret
  refine ⟨decide (0 ≤ r), rfl, by rw [decide_eq_true_iff]; exact HR.out, HB.out.1.trans (hb1.mono HB.out.2)⟩

/-- Where the uses and the gates lie. -/
structure Pu where
  au : Option Addr
  cu : Nat
  ag : Option Addr
  cg : Nat
/-- The uses, as they are read; the gates. -/
structure UseR (W : World) (p : Pl) (u : Pu) (D : Dat) (gu : Nat) (F : Nat → Use4) : Prop where
  x4 : W.cell? ⟨p.X, 4, none⟩ = some (.slice u.au (D.U D.ne) u.cu)
  x5 : W.cell? ⟨p.X, 5, none⟩ = some (.slice u.ag (D.U D.ne) u.cg)
  au : 0 < D.U D.ne → u.au = some ⟨gu, 0, none⟩
  us : UsR W gu 0 (D.U D.ne) F
  cu : D.U D.ne ≤ u.cu
  cg : D.U D.ne ≤ u.cg
  mono : ∀ k, k < D.ne → D.U k ≤ D.U (k + 1)
  tot : ∀ k, k ≤ D.ne → D.U k ≤ D.U D.ne
  small : D.U D.ne ≤ 2048

set_option maxHeartbeats 2000000 in
set_option maxRecDepth 100000 in
/-- usesOf: what event k does. -/
theorem usesOf_any (W : World) (p : Pl) (u : Pu) (D : Dat) (gu : Nat) (F : Nat → Use4) (h : EvR W p D) (hu : UseR W p u D gu F) (k : Nat) (hk : k < D.ne) :
    Calls Yba.prog 15 #[pt p.X, .int .i64 (k : Int)] W fun e W' => ∃ (ao : Option Addr) (c : Nat) (v : Value), e = .returned (.tuple #[.slice ao (D.U (k + 1) - D.U k) c, v]) ∧ (0 < D.U (k + 1) - D.U k → ao = some ⟨gu, D.U k * 4, none⟩) ∧ ∃ m, W' = W.drewN m := by
  obtain ⟨X, ge, ce, gc, cc⟩ := p
  obtain ⟨au, cu, ag, cg⟩ := u
  obtain ⟨N, ne, t, nth, ck, U⟩ := D
  have x2 := h.x2
  have x4 := hu.x4
  have x5 := hu.x5
  have e3 := h.e3 k hk
  have e3' := h.e3 (k + 1)
  have hau := hu.au
  have hcu := hu.cu
  have hcg := hu.cg
  have hm := hu.mono k hk
  have ht := hu.tot (k + 1) hk
  have hs := hu.small
  obtain ⟨s1, s2, s3⟩ := h.small
  simp only at hk x2 x4 x5 e3 e3' hau hcu hcg hm ht hs s1
  clear h hu s2 s3
  show Calls Yba.prog 15 #[pt X, .int .i64 (k : Int)] W fun e W' => ∃ (ao : Option Addr) (c : Nat) (v : Value), e = .returned (.tuple #[.slice ao (U (k + 1) - U k) c, v]) ∧ (0 < U (k + 1) - U k → ao = some ⟨gu, U k * 4, none⟩) ∧ ∃ m, W' = W.drewN m
  obtain ⟨a, ha⟩ : ∃ a, U k = a := ⟨_, rfl⟩
  obtain ⟨b, hb⟩ : ∃ b, U (k + 1) = b := ⟨_, rfl⟩
  obtain ⟨T, hT⟩ : ∃ T, U ne = T := ⟨_, rfl⟩
  rw [hT] at x4 x5 hau hcu hcg ht hs
  rw [hb] at ht hm e3'
  rw [ha] at hm e3
  rw [ha, hb]
  by_cases hlast : (k : Int) + 1 < (ne : Int)
  · have e3'' := e3' (by omega)
    clear e3' ha hb hT
    by_cases hT0 : 0 < T
    · obtain rfl := hau hT0
      clear hau
      go_enter Yba.func15, Yba.ntmps15
      go_wp2
      go_quiet (fail)
      go_wp2
      all_goals
        go_ret2
        exact ⟨_, ⟨_, _, rfl⟩, fun h => by first | rfl | omega, _, rfl⟩
    · obtain rfl : T = 0 := by omega
      obtain rfl : b = 0 := by omega
      obtain rfl : a = 0 := by omega
      clear hau hm ht hT0
      go_enter Yba.func15, Yba.ntmps15
      go_wp2
      go_quiet (fail)
      go_wp2
      all_goals
        go_ret2
        first | exact ⟨_, ⟨_, _, rfl⟩, fun h => by omega, _, rfl⟩ | exact ⟨_, _, _, rfl, fun h => by omega, _, rfl⟩
  · have hbT : b = T := by rw [← hb, ← hT]; congr 1; omega
    clear e3' ha hb hT
    subst hbT
    by_cases hT0 : 0 < b
    · obtain rfl := hau hT0
      clear hau
      go_enter Yba.func15, Yba.ntmps15
      go_wp2
      go_quiet (fail)
      go_wp2
      all_goals
        go_ret2
        exact ⟨_, ⟨_, _, rfl⟩, fun h => by first | rfl | omega, _, rfl⟩
    · obtain rfl : b = 0 := by omega
      obtain rfl : a = 0 := by omega
      clear hau hm ht hT0
      go_enter Yba.func15, Yba.ntmps15
      go_wp2
      go_quiet (fail)
      go_wp2
      all_goals
        go_ret2
        first | exact ⟨_, ⟨_, _, rfl⟩, fun h => by omega, _, rfl⟩ | exact ⟨_, _, _, rfl, fun h => by omega, _, rfl⟩

set_option maxHeartbeats 2000000 in
set_option maxRecDepth 100000 in
/-- writes: does event k write the object? -/
theorem writes_any (W : World) (p : Pl) (u : Pu) (D : Dat) (gu : Nat) (F : Nat → Use4) (h : EvR W p D) (hu : UseR W p u D gu F) (k : Nat) (hk : k < D.ne) (ok oi ox : Int) :
    Calls Yba.prog 13 #[pt p.X, .int .i64 (k : Int), .agg #[.int .u8 ok, .int .u32 oi, .int .u32 ox]] W fun e W' => ∃ r : Bool, e = .returned (.bool r) ∧ (r = true ↔ ∃ j, D.U k ≤ j ∧ j < D.U (k + 1) ∧ Use4.eq ⟨ok, oi, ox, true⟩ (F j) = true) ∧ Below W.heap.size W W' := by
  have hb : Below W.heap.size W (W.alloc (.cells #[.int .u8 ok, .int .u32 oi, .int .u32 ox] 70)) := (Below.refl _ _).alloc (Nat.le_refl _) _
  have H15 : Hid _ := usesOf_any (W.alloc (.cells #[.int .u8 ok, .int .u32 oi, .int .u32 ox] 70)) p u D gu F
    ⟨by rw [hb.cell (cell_lt h.x2)]; exact h.x2, by rw [hb.cell (cell_lt h.x3)]; exact h.x3, fun k hk => by rw [hb.cell (cell_lt (h.e0 k hk))]; exact h.e0 k hk, fun k hk => by rw [hb.cell (cell_lt (h.e1 k hk))]; exact h.e1 k hk, fun k hk => by rw [hb.cell (cell_lt (h.e2 k hk))]; exact h.e2 k hk, fun k hk => by rw [hb.cell (cell_lt (h.e3 k hk))]; exact h.e3 k hk, fun k hk => by rw [hb.cell (cell_lt (h.cl k hk))]; exact h.cl k hk, h.cap, h.capm, h.small, h.tN⟩
    ⟨by rw [hb.cell (cell_lt hu.x4)]; exact hu.x4, by rw [hb.cell (cell_lt hu.x5)]; exact hu.x5, hu.au, hu.us.below hb, hu.cu, hu.cg, hu.mono, hu.tot, hu.small⟩ k hk
  have H25 : Hid (∀ (ao : Option Addr) (c m : Nat), (0 < D.U (k + 1) - D.U k → ao = some ⟨gu, D.U k * 4, none⟩) → Calls Yba.prog 25 #[.slice ao (D.U (k + 1) - D.U k) c, .agg #[.int .u8 ok, .int .u32 oi, .int .u32 ox, .bool true]] ((W.alloc (.cells #[.int .u8 ok, .int .u32 oi, .int .u32 ox] 70)).drewN m) fun e W' => ∃ r : Bool, e = .returned (.bool r) ∧ (r = true ↔ ∃ j, j < D.U (k + 1) - D.U k ∧ Use4.eq ⟨ok, oi, ox, true⟩ (F (D.U k + j)) = true) ∧ Below W.heap.size W W') := by
    intro ao c m hao
    have hs := hu.small
    have ht := hu.tot (k + 1) hk
    have hus := hu.us.below hb
    refine (contains_any ((W.alloc (.cells #[.int .u8 ok, .int .u32 oi, .int .u32 ox] 70)).drewN m) ao gu (D.U k * 4) (D.U (k + 1) - D.U k) c (fun j => F (D.U k + j)) hao (by omega) ?_ ⟨ok, oi, ox, true⟩).mono ?_
    · intro j hj
      have := hus (D.U k + j) (by omega)
      rw [show 0 + (D.U k + j) * 4 = D.U k * 4 + j * 4 by omega] at this
      exact this
    · rintro e W' ⟨r, he, hr, hb'⟩
      have hbm : Below W.heap.size W ((W.alloc (.cells #[.int .u8 ok, .int .u32 oi, .int .u32 ox] 70)).drewN m) := hb.trans ⟨rfl, rfl, rfl, Nat.le_refl _, fun _ _ => rfl⟩
      exact ⟨r, he, hr, hbm.trans (hb'.mono hb.size)⟩
  clear h hu hb
  go_enter Yba.func13, Yba.ntmps13
  go_wp2_with (first
    | (go_at_call 15; refine Calls.mono H15.out ?_; rintro e W1 ⟨ao, c, v, rfl, hao, m, rfl⟩)
    | (go_at_call 25; refine (H25.out ao c m hao).mono ?_; rintro e W2 ⟨r, rfl, hr, hb2⟩; have HR : Hid _ := hr; clear hr))
  go_ret
  refine ⟨r, rfl, ?_, hb2⟩
  rw [HR.out]
  constructor
  · rintro ⟨j, h1, h2⟩; exact ⟨D.U k + j, by omega, by omega, h2⟩
  · rintro ⟨j, h1, h2, h3⟩; exact ⟨j - D.U k, by omega, by rw [show D.U k + (j - D.U k) = j by omega]; exact h3⟩
end Go.Proofs.Ybulkbxvu
