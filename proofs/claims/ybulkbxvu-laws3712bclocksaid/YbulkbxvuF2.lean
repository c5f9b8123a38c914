/-
  zzs3712bobj, zzs3712bdecode.
-/
import Derived.Test.YbulkbxvuF1
import Derived.Test.YbulkbxvuR1
import Derived.Deep.AppendLies
namespace Go.Proofs.Ybulkbxvu
open Go.RowKit
set_option linter.unusedVariables false

/-- The three objects. -/
def objK (o : Nat) : Int := if o = 2 then 3 else 1
def objI (o : Nat) : Int := if o = 1 then 1 else 0
set_option maxHeartbeats 1000000 in
set_option maxRecDepth 100000 in
theorem obj_any (W : World) (o : Nat) (ho : o < 3) : Calls Yba.prog 10 #[.int .i64 (o : Int)] W fun e W' => e = .returned (.agg #[.int .u8 (objK o), .int .u32 (objI o), .int .u32 0]) ∧ Below W.heap.size W W' := by
  match o, ho with
  | 0, _ =>
    go_enter Yba.func10, Yba.ntmps10
    go_wp2
    refine bodyPost_ret (v := .agg #[.int .u8 1, .int .u32 0, .int .u32 0]) (by simp [results, Yba.results10, go_sem]) rfl ?_
    exact ⟨rfl, (Below.refl _ _).alloc (Nat.le_refl _) _⟩
  | 1, _ =>
    go_enter Yba.func10, Yba.ntmps10
    go_wp2
    refine bodyPost_ret (v := .agg #[.int .u8 1, .int .u32 1, .int .u32 0]) (by simp [results, Yba.results10, go_sem]) rfl ?_
    exact ⟨rfl, (Below.refl _ _).alloc (Nat.le_refl _) _⟩
  | 2, _ =>
    go_enter Yba.func10, Yba.ntmps10
    go_wp2
    refine bodyPost_ret (v := .agg #[.int .u8 3, .int .u32 0, .int .u32 0]) (by simp [results, Yba.results10, go_sem]) rfl ?_
    exact ⟨rfl, (Below.refl _ _).alloc (Nat.le_refl _) _⟩

/-- A byte's use. -/
def dec (b : Nat) : Use4 := if b % 7 = 6 then ⟨7, 0, 0, true⟩ else ⟨objK (b % 7 / 2), objI (b % 7 / 2), 0, b % 7 % 2 == 1⟩
abbrev Use4.cs (u : Use4) : List Value := [.int .u8 u.k, .int .u32 u.i, .int .u32 u.x, .bool u.w]
/-- The first n uses, cell by cell. -/
def flatU (F : Nat → Use4) : Nat → List Value
  | 0 => []
  | n + 1 => flatU F n ++ (F n).cs
theorem flatU_length (F : Nat → Use4) (n : Nat) : (flatU F n).length = n * 4 := by
  induction n with
  | zero => rfl
  | succ n ih => rw [flatU, List.length_append, ih]; simp; omega
theorem flatU_get (F : Nat → Use4) : ∀ (n j i : Nat), j < n → i < 4 → (flatU F n)[j * 4 + i]? = (F j).cs[i]?
  | 0, j, i, h, _ => by omega
  | n + 1, j, i, h, hi => by
    rw [flatU]
    by_cases e : j = n
    · subst e
      rw [List.getElem?_append_right (by rw [flatU_length]; omega), flatU_length, show j * 4 + i - j * 4 = i by omega]
    · rw [List.getElem?_append_left (by rw [flatU_length]; omega)]
      exact flatU_get F n j i (by omega) hi
theorem UsR.of_own {W : World} {base : Nat} {g n cap : Nat} {F : Nat → Use4} (h : W.ownsRow base 72 4 (.slice (some ⟨g, 0, none⟩) n cap) n (flatU F n)) : UsR W g 0 n F := by
  intro j hj
  have hc := h.cells (g := g) rfl
  have f : ∀ i, i < 4 → ∀ u, (F j).cs[i]? = some u → W.cell? ⟨g, 0 + j * 4 + i, none⟩ = some u := by
    intro i hi u hu
    have := hc (j * 4 + i) u (by rw [flatU_get F n j i hj hi]; exact hu)
    have e : (⟨g, 0, none⟩ : Addr).add (j * 4 + i) = ⟨g, 0 + j * 4 + i, none⟩ := by simp [Addr.add]; omega
    rw [← e]; exact this
  exact ⟨f 0 (by decide) _ rfl, f 1 (by decide) _ rfl, f 2 (by decide) _ rfl, f 3 (by decide) _ rfl⟩

theorem info72 : (Yba.prog.info? 72).map (fun i => (i.zero, i.size, i.bytes)) = some (some (.agg #[.int .u8 0, .int .u32 0, .int .u32 0, .bool false]), 4, 16) := by kernel_rfl
/-- append of one use. -/
theorem wp_app33 (w : World) {ops : Array Oper} {rest : List Oper} {o : Oper} {a : Act} {Q : Exit → Act → World → Prop} (hgd : o.guard = none) (s x : Operand)
    (ho : o.op = .call { callee := .builtin .append, args := #[s, x], argTypes := #[33, 33] })
    (base : Nat) (v : Value) (n : Nat) (xs : List Value) (hs : a.eval s = v) (hown : w.ownsRow base 72 4 v n xs) (u : Use4) (b c : Nat) (hx : a.eval x = .slice (some ⟨b, 0, none⟩) 1 c)
    (hb : w.heap[b]? = some (.cells #[.int .u8 u.k, .int .u32 u.i, .int .u32 u.x, .bool u.w] 72 (0, 0))) (hn : n ≤ 4096) (hbase : base ≤ w.heap.size)
    (h : ∀ g cap w', w'.ownsRow base 72 4 (.slice (some ⟨g, 0, none⟩) (n + 1) cap) (n + 1) (xs ++ u.cs) → w.grownBy w' v.ownBlock → (v.ownBlock = some g ∨ g = w.heap.size) → g < w'.heap.size → wpList Yba.prog ops Q rest (a.put o.dst (.slice (some ⟨g, 0, none⟩) (n + 1) cap)) w') :
    wpList Yba.prog ops Q (o :: rest) a w := by
  obtain ⟨i0, hi, hz0, hz1, hz2⟩ := info_parts info72
  refine wpList_append_lies w hgd s x 33 ho base 72 i0 _ 4 16 Yba.underlying33 hi hz0 hz1 hz2 rfl (by decide) v n xs hs hown ⟨b, 0, none⟩ 1 c u.cs hx rfl ?_ ?_ (by decide) (by unfold maxLen; omega) (by omega) hbase _ rfl h
  · intro j y hy
    have hl : j < 4 := by
      rcases Nat.lt_or_ge j 4 with h | h
      · exact h
      · rw [List.getElem?_eq_none (by simpa using h)] at hy; cases hy
    match j, hl with
    | 0, _ => cases hy; simp [World.cell?, Addr.add, hb]
    | 1, _ => cases hy; simp [World.cell?, Addr.add, hb]
    | 2, _ => cases hy; simp [World.cell?, Addr.add, hb]
    | 3, _ => cases hy; simp [World.cell?, Addr.add, hb]
  · intro y hy
    simp only [List.mem_cons, List.not_mem_nil, or_false] at hy
    rcases hy with rfl | rfl | rfl | rfl <;> rfl

/-- make([]Use, 0, n). -/
theorem wp_make33 (w : World) {ops : Array Oper} {rest : List Oper} {o : Oper} {a : Act} {Q : Exit → Act → World → Prop} (hgd : o.guard = none) (l c : Operand) (ho : o.op = Op.makeSlice 33 l c)
    (C : Int) (n : Nat) (hl : a.eval l = .int .i64 0) (hc : a.eval c = .int .i64 C) (hC : C = (n : Int)) (hn : n ≤ 512)
    (h : ∀ w' : World, w'.ownsRow w.heap.size 72 4 (.slice (some ⟨w.heap.size, 0, none⟩) 0 n) 0 [] → Below w.heap.size w w' → wpList Yba.prog ops Q rest (a.put o.dst (.slice (some ⟨w.heap.size, 0, none⟩) 0 n)) w') :
    wpList Yba.prog ops Q (o :: rest) a w := by
  obtain ⟨i0, hi, hz0, hz1, hz2⟩ := info_parts info72
  refine wpList_make_own w hgd l c 33 ho w.heap.size 72 i0 _ 4 Yba.underlying33 hi hz0 hz1 .i64 .i64 C n hl hc hC (by rw [hz2]; omega) (by unfold maxLen; omega) (Nat.le_refl _) ?_
  intro w' h1 h2
  exact h w' h1 ((Below.refl _ _).grown h2 (Nat.le_refl _) (fun k hk => by cases hk))
theorem own_ge {w : World} {base : Nat} {v : Value} {n : Nat} {xs : List Value} (h : w.ownsRow base 72 4 v n xs) : ∀ k, v.ownBlock = some k → base ≤ k := fun k hk => (h.lt k hk).1

/-- What decode hands back. -/
def DecOut (W : World) (nu : Nat) (su : Nat → Nat) (e : Ending) (W' : World) : Prop := ∃ g cap, e = .returned (.slice (some ⟨g, 0, none⟩) nu cap) ∧ UsR W' g 0 nu (fun j => dec (su j)) ∧ W.heap.size ≤ g ∧ Below W.heap.size W W'

set_option maxHeartbeats 4000000 in
set_option maxRecDepth 100000 in
theorem decode_any (W : World) (sa : Option Addr) (sb so nu sc : Nat) (su : Nat → Nat) (h : ByA W sb so nu su) (hsa : 0 < nu → sa = some ⟨sb, so, none⟩) (hnu : nu ≤ 512) :
    Calls Yba.prog 7 #[.slice sa nu sc] W fun e W' => DecOut W nu su e W' := by
  have HI : Hid (ByA W sb so nu su) := h
  clear h
  go_enter Yba.func7, Yba.ntmps7
  go_wp2_with (at_make; refine wp_make33 _ rfl _ _ rfl _ nu rfl rfl rfl hnu ?_; intro W1 ho1 hb1)
  have HO1 : Hid (W1.ownsRow W.heap.size 72 4 (.slice (some ⟨W.heap.size, 0, none⟩) 0 nu) 0 (flatU (fun j => dec (su j)) 0) ∧ Below W.heap.size W W1) := ⟨ho1, hb1⟩
  clear ho1 hb1
  go_loopg [3, 12] nu (fun g v3 v wx => ∃ (j gg cap : Nat), g + j = nu ∧ v = .int .i64 (j : Int) ∧ v3 = .slice (some ⟨gg, 0, none⟩) j cap ∧ Hid (wx.ownsRow W.heap.size 72 4 (.slice (some ⟨gg, 0, none⟩) j cap) j (flatU (fun j => dec (su j)) j) ∧ Below W.heap.size W wx))
  case atStart => exact ⟨0, W.heap.size, nu, by omega, rfl, rfl, HO1.out⟩
  case round =>
    clear HO1
    obtain ⟨j, gg, cap, hg, rfl, rfl, H⟩ := hrel
    by_cases hj : (j : Int) < (nu : Int)
    · obtain rfl := hsa (by omega)
      obtain ⟨c0, b0⟩ := (HI.out.below H.out.2) j (by omega)
      obtain ⟨b, hb⟩ : ∃ b, su j = b := ⟨_, rfl⟩
      rw [hb] at c0 b0
      obtain ⟨sel, hsel⟩ : ∃ sel, b % 7 = sel := ⟨_, rfl⟩
      have e7 : (b : Int).tmod 7 = (sel : Int) := by rw [Int.tmod_eq_emod_of_nonneg (by omega)]; omega
      have hs7 : sel < 7 := by omega
      have HSEL : Hid (su j % 7 = sel) := by show _ = _; rw [hb]; exact hsel
      clear hb hsel
      by_cases h6 : sel = 6
      · subst h6
        have HD : Hid (dec (su j) = ⟨7, 0, 0, true⟩) := by show _ = _; unfold dec; rw [if_pos HSEL.out]
        clear HSEL
        go_wp2_with (at_builtin; refine wp_app33 _ rfl _ _ rfl W.heap.size _ j _ rfl (H.out.1.alloc _) ⟨7, 0, 0, true⟩ _ _ rfl (heap_alloc_new _ _) (by omega) (by have := H.out.2.size; simp; omega) ?_; intro g' cap' W2 hown hgr hat hlt)
        go_roundg (nu - (j + 1))
        case measure => omega
        case rel =>
          refine ⟨j + 1, g', cap', by omega, by go_num, rfl, ?_, ?_⟩
          · rw [flatU, HD.out]; exact hown
          · exact (H.out.2.alloc H.out.2.size _).grown hgr (by have := H.out.2.size; simp; omega) (own_ge H.out.1)
      · have h62 : ((sel : Int) == 6) = false := by rw [beq_eq_false_iff_ne]; omega
        obtain ⟨o, ho⟩ : ∃ o, sel / 2 = o := ⟨_, rfl⟩
        have eo2 : (sel : Int).tdiv 2 = (o : Int) := by rw [Int.tdiv_eq_ediv_of_nonneg (by omega)]; omega
        have ho3 : o < 3 := by omega
        obtain ⟨wv, hwv⟩ : ∃ wv, (sel % 2 == 1) = wv := ⟨_, rfl⟩
        have ew2 : ((sel : Int) % 2 == 1) = wv := by
          rw [← hwv, Bool.eq_iff_iff, beq_iff_eq, beq_iff_eq]; omega
        have HD : Hid (dec (su j) = ⟨objK o, objI o, 0, wv⟩) := by show _ = _; unfold dec; rw [HSEL.out, if_neg h6, ho, hwv]
        clear HSEL ho hwv h6
        have HOB : Hid _ := obj_any wr o ho3
        obtain ⟨ok, hok⟩ : ∃ ok, objK o = ok := ⟨_, rfl⟩
        obtain ⟨oi, hoi⟩ : ∃ oi, objI o = oi := ⟨_, rfl⟩
        rw [hok, hoi] at HD HOB
        clear hok hoi
        go_wp2_with (first
          | (go_at_call 10; refine Calls.mono HOB.out ?_; rintro e W3 ⟨rfl, hb3⟩; have hsz3 := hb3.size; have hO3 : Hid (W3.ownsRow W.heap.size 72 4 (.slice (some ⟨gg, 0, none⟩) j cap) j (flatU (fun j => dec (su j)) j) ∧ Below W.heap.size W W3) := ⟨H.out.1.kept (row := none) ⟨hb3.os, hb3.tape, hb3.output, hb3.size, fun k hk _ => hb3.block k hk⟩ (.inr (by simp [Value.ownBlock])), H.out.2.trans (hb3.mono H.out.2.size)⟩)
          | (at_builtin; refine wp_app33 _ rfl _ _ rfl W.heap.size _ j _ rfl (hO3.out.1.alloc _) ⟨ok, oi, 0, wv⟩ _ _ rfl (heap_alloc_new _ _) (by omega) (by have := hO3.out.2.size; simp; omega) ?_; intro g' cap' W2 hown hgr hat hlt))
        go_roundg (nu - (j + 1))
        case measure => omega
        case rel =>
          refine ⟨j + 1, g', cap', by omega, by go_num, rfl, ?_, ?_⟩
          · rw [flatU, HD.out]; exact hown
          · exact (hO3.out.2.alloc hO3.out.2.size _).grown hgr (by have := hO3.out.2.size; simp; omega) (own_ge hO3.out.1)
    · go_wp2
      go_ret
      have hjn : j = nu := by omega
      subst hjn
      exact (show DecOut W j su _ _ from ⟨gg, cap, rfl, UsR.of_own H.out.1, (H.out.1.lt gg rfl).1, H.out.2⟩)
end Go.Proofs.Ybulkbxvu
