/-
  tlv.ParseObjectID over digits that base128 wrote.
-/
import Derived.Test.YbulkbxqkRead3
import Derived.Test.YbulkbxqkDigits
namespace Go.Proofs.Ybulkbxqk
open Go.RowKit

/-- int's as cells. -/
def I (l : List Int) : List Value := l.map (Value.int .i64)
theorem I_length (l : List Int) : (I l).length = l.length := by simp [I]
theorem I_one (l : List Int) : ∀ u ∈ I l, u.oneCell' = true := ints_oneCell .i64 l
theorem I_append (l m : List Int) : I l ++ I m = I (l ++ m) := by simp [I]
theorem I_get (l : List Int) (j : Nat) (h : j < l.length) : (I l)[j]? = some (.int .i64 (l.getD j 0)) := by simp [I, h]
theorem srcI_one (w : World) (x : Int) : Src1 (w.alloc (.cells #[.int .i64 x] 3)) (some ⟨w.heap.size, 0, none⟩) 1 1 (I [x]) := by
  refine Src1.own (base := 0) (e := 3) ?_ (I_one _)
  exact World.ownsRow_lit w #[.int .i64 x] 1 (Nat.zero_le _) (by decide) rfl

/-- append at a slice type t over int. -/
theorem wp_appI (t : TypeId) (ht : Yba.prog.underlying t = some (.slice 3)) (w : World) {ops : Array Oper} {rest : List Oper} {o : Oper} {a : Act} {Q : Exit → Act → World → Prop} (hgd : o.guard = none) (s x : Operand)
    (ho : o.op = .call { callee := .builtin .append, args := #[s, x], argTypes := #[t, t] })
    (base g n cap : Nat) (l : List Int) (hs : a.eval s = .slice (some ⟨g, 0, none⟩) n cap) (hown : w.ownsRow base 3 1 (.slice (some ⟨g, 0, none⟩) n cap) n (I l))
    (ao : Option Addr) (m c : Nat) (l' : List Int) (hx : a.eval x = .slice ao m c) (hsrc : Src1 w ao m c (I l'))
    (hbytes : n + m ≤ 1000000000) (hbase : base ≤ w.heap.size)
    (h : ∀ g' cap' w', base ≤ g' → w'.ownsRow base 3 1 (.slice (some ⟨g', 0, none⟩) (n + m) cap') (n + m) (I (l ++ l')) → Below base w w' → wpList Yba.prog ops Q rest (a.put o.dst (.slice (some ⟨g', 0, none⟩) (n + m) cap')) w') :
    wpList Yba.prog ops Q (o :: rest) a w := by
  obtain ⟨i0, hi, hz0, hz1, hz2⟩ := info_parts info3
  refine wp_app w hgd s x t ho base 3 i0 (.int .i64 0) 8 ht hi hz0 hz1 hz2 rfl g n cap (I l) hs hown ao m c (I l') hx hsrc (by omega) (by decide) hbase ?_
  rw [I_append]
  exact h

/-- make(asn1.ObjectIdentifier, 1, n + 1). -/
theorem wp_make35 (w : World) {ops : Array Oper} {rest : List Oper} {o : Oper} {a : Act} {Q : Exit → Act → World → Prop} (hgd : o.guard = none) (l c : Operand) (ho : o.op = Op.makeSlice 35 l c)
    (C : Int) (n : Nat) (hl : a.eval l = .int .i64 1) (hc : a.eval c = .int .i64 C) (hC : C = ((n + 1 : Nat) : Int)) (hn : n ≤ 1000000000)
    (h : ∀ w', w'.ownsRow w.heap.size 3 1 (.slice (some ⟨w.heap.size, 0, none⟩) 1 (n + 1)) 1 (I [0]) → Below w.heap.size w w' → wpList Yba.prog ops Q rest (a.put o.dst (.slice (some ⟨w.heap.size, 0, none⟩) 1 (n + 1))) w') :
    wpList Yba.prog ops Q (o :: rest) a w := by
  obtain ⟨i0, hi, hz0, hz1, hz2⟩ := info_parts info3
  refine wpList_plain hgd fun K hK' => ?_
  have hrun := run_make (P := Yba.prog) w 35 3 i0 (.int .i64 0) Yba.underlying35 hi hz0 .i64 .i64 1 ((n + 1 : Nat) : Int) (by decide) (by omega) (by rw [hz2]; omega) (by omega)
  subst hC
  unfold Oper.wp
  simp only [execOp, ho, hl, hc, hrun, Result.andThen, Sem.run_bind]
  refine hK' _ _ ?_
  rw [show ((n + 1 : Nat) : Int).toNat = n + 1 from by omega, show (1 : Int).toNat = 1 from rfl, hz1]
  refine h _ ⟨rfl, .inr ⟨w.heap.size, n + 1, _, rfl, Nat.le_refl _, heap_alloc_new w _, by omega, by unfold maxLen; omega, size_madeCells _ _, ?_⟩⟩ ((Below.refl _ _).alloc (Nat.le_refl _) _)
  rw [show (Value.int .i64 0).cells = #[.int .i64 0] from rfl, toList_madeCells_one]
  simp [I, List.take_replicate]

theorem u8_and127 (x : Int) (h0 : 0 ≤ x) (h1 : x < 256) : bits .and .u8 x 127 = x % 128 := bits_mask .u8 8 (by decide) wraps_u8 7 (by decide) x h0 h1
theorem i64_or7 (x y : Int) (hx : 0 ≤ x) (hx1 : x < 1000000000000) (h0 : 0 ≤ y) (h1 : y < 128) : bits .or .i64 (x * 128) y = x * 128 + y :=
  bits_join .i64 63 (by decide) wraps_i64 7 (x * 128) y (by omega) (by omega) (by omega) h0 h1 (by omega)
theorem u8_and128 (x : Nat) (h : x < 256) : bits .and .u8 (x : Int) 128 = ((x / 128 * 128 : Nat) : Int) := by
  have h1 := u8_and_nat x 128 h (by decide)
  rw [show ((128 : Nat) : Int) = 128 from rfl] at h1
  rw [h1]
  have := nat_bit 7 x
  rw [show (2 : Nat) ^ 7 = 128 from rfl] at this
  rw [this]
  congr 1
  omega

/-- The row that ParseObjectID makes out of the arcs' numbers. -/
def split1 (f : Nat) : List Int := if f < 80 then [((f / 40 : Nat) : Int), ((f % 40 : Nat) : Int)] else [2, ((f - 80 : Nat) : Int)]
def ids (v : Nat) (vs : List Nat) : List Int := split1 v ++ vs.map (fun x : Nat => (x : Int))

def lenOfV : Value → Nat | .slice _ n _ => n | _ => 0
theorem Vw.tail {w : World} {b off : Nat} {x : Int} {l : List Int} (h : Vw w b off (x :: l)) : Vw w b (off + 1) l := Vw.right (l := [x]) h

set_option maxHeartbeats 4000000 in
set_option maxRecDepth 100000 in
theorem oid_any (b off cap N : Nat) (v : Nat) (vs : List Nat) (w : World) (hv : Vw w b off (flat (v :: vs))) (hN : N = (flat (v :: vs)).length) (hcap : N ≤ cap) (hb : ∀ x ∈ v :: vs, x < 2147483648) (hl : N < 1000) :
    Calls Yba.prog 20 #[.slice (some ⟨b, off, none⟩) N cap] w fun e w' => ∃ g c, e = .returned (.tuple #[.slice (some ⟨g, 0, none⟩) (vs.length + 2) c, .bool true]) ∧
      w'.ownsRow w.heap.size 3 1 (.slice (some ⟨g, 0, none⟩) (vs.length + 2) c) (vs.length + 2) (I (ids v vs)) ∧ Below w.heap.size w w' := by
  have hN0 : 0 < N := by rw [hN, flat_cons, List.length_append]; have := b128_pos v; omega
  have hN0' : (0 : Int) < (N : Int) := by omega
  have hNe : ((N : Int) == 0) = false := by simp; omega
  have hl' : (N : Int) < 1000 := by omega
  have HN : Hid (N = (flat (v :: vs)).length) := hN
  have HC : Hid (N ≤ cap) := hcap
  clear hl hN hcap
  go_enter Yba.func20, Yba.ntmps20
  go_wp2_with (at_make; refine wp_make35 _ rfl _ (.tmp 13) rfl _ N rfl rfl (by omega) (by omega) ?_; intro w1 hown1 hbel1)
  have HVL : Hid (vs.length + 1 < 1000) := by have h1 := flat_ge (v :: vs); have := HN.out; simp at h1; show vs.length + 1 < 1000; omega
  have hbw : b < w.heap.size := hv.lt (by have := HN.out; omega)
  go_loopw [0, 4] (fun a s wr => ∃ (done rem : List Nat) (o c n g cp : Nat), v :: vs = done ++ rem ∧ a = .slice (some ⟨b, o, none⟩) n c ∧ n = (flat rem).length ∧ n ≤ c ∧ n < 1000 ∧ Vw w b o (flat rem) ∧
      s = .slice (some ⟨g, 0, none⟩) (done.length + 1) cp ∧ wr.ownsRow w.heap.size 3 1 (.slice (some ⟨g, 0, none⟩) (done.length + 1) cp) (done.length + 1) (I (0 :: done.map (fun x : Nat => (x : Int)))) ∧ Below w.heap.size w wr) (fun a _ _ => lenOfV a)
  case atStart => exact ⟨[], v :: vs, off, cap, N, w.heap.size, N + 1, rfl, rfl, HN.out, HC.out, by omega, hv, rfl, hown1, hbel1⟩
  case round =>
    clear hown1 hbel1 HC HN hv
    obtain ⟨done, rem, o, c, n, g, cp, hsp, rfl, hn, hnc, hn1, hvr, rfl, hown, hbel⟩ := hrel
    have HS : Hid (v :: vs = done ++ rem) := hsp
    have hsz := hbel.size
    clear hsp
    rcases rem with _ | ⟨x, rem'⟩
    · obtain rfl : n = 0 := hn
      have hd : done = v :: vs := by have := HS.out; rw [List.append_nil] at this; exact this.symm
      subst hd
      have hc0 : wr.cell? ⟨g, 0, none⟩ = some (.int .i64 0) := by rw [hown.cellAt 0 (by simp)]; rfl
      have hc1 : wr.cell? ⟨g, 1, none⟩ = some (.int .i64 (v : Int)) := by rw [hown.cellAt 1 (by simp)]; rfl
      have hf0 : wr.frozen? ⟨g, 0, none⟩ = false := hown.frozenAt 0
      have hf1 : wr.frozen? ⟨g, 1, none⟩ = false := hown.frozenAt 1
      simp only [List.length_cons] at hown ⊢
      have HO : Hid (wr.ownsRow w.heap.size 3 1 (Value.slice (some { block := g, off := 0 }) (vs.length + 1 + 1) cp) (vs.length + 1 + 1) (I (0 :: List.map (fun x : Nat => (x : Int)) (v :: vs)))) := hown
      have hgb := (own_lt hown).1
      have HB : Hid (Below w.heap.size w wr) := hbel
      clear hown hbel hvr HS hnc hn1
      by_cases h80 : (v : Int) < 80
      · go_wp2
        go_ret2
        have hfin := (((HO.out.stored 0 (.int .i64 ((v : Int) / 40))).1).stored 1 (.int .i64 ((v : Int) % 40))).1
        have e1 : I (ids v vs) = ((I (0 :: List.map (fun x : Nat => (x : Int)) (v :: vs))).set 0 (.int .i64 ((v : Int) / 40))).set 1 (.int .i64 ((v : Int) % 40)) := by
          simp [ids, split1, I, show v < 80 from by omega]
        refine ⟨g, cp, rfl, ?_, ((HB.out.setCell (p := ⟨g, 0, none⟩) hgb _).setCell (p := ⟨g, 1, none⟩) hgb _)⟩
        rw [e1]; exact hfin
      · have hv64 : wrap64 ((v : Int) - 80) = (v : Int) - 80 := by have := hb v (by simp); unfold wrap64; omega
        go_wp2
        go_ret2
        have hfin := (((HO.out.stored 0 (.int .i64 2)).1).stored 1 (.int .i64 ((v : Int) - 80))).1
        have e1 : I (ids v vs) = ((I (0 :: List.map (fun x : Nat => (x : Int)) (v :: vs))).set 0 (.int .i64 2)).set 1 (.int .i64 ((v : Int) - 80)) := by
          simp [ids, split1, I, show ¬ v < 80 from by omega]; omega
        refine ⟨g, cp, rfl, ?_, ((HB.out.setCell (p := ⟨g, 0, none⟩) hgb _).setCell (p := ⟨g, 1, none⟩) hgb _)⟩
        rw [e1]; exact hfin
    · have hx : x < 2147483648 := hb x (by rw [HS.out]; simp)
      obtain ⟨L, ht, hlt, hle⟩ := b128_td x
      have hhead := td_head x L hlt hle
      rw [flat_cons, ht] at hvr hn
      have hn' : n = L + 1 + (flat rem').length := by rw [hn, List.length_append, td_length]
      obtain ⟨c0, hc0⟩ : ∃ c0, c0 = x / 128 ^ L % 128 + (if L = 0 then 0 else 128) := ⟨_, rfl⟩
      rw [← hc0] at hhead
      have hcell : wr.cell? ⟨b, o, none⟩ = some (.int .u8 (c0 : Int)) := by
        rw [hbel.cell (p := ⟨b, o, none⟩) hbw]
        exact hvr.at 0 _ (by simp [td, hc0])
      have hc0' : ((c0 : Int) == 128) = false := by simp; omega
      have hn0 : (0 : Int) < (n : Int) := by omega
      have HV : Hid (Vw w b o (td x (L + 1) ++ flat rem')) := hvr
      have HX : Hid (x < 2147483648 ∧ x < 128 ^ (L + 1) ∧ n = L + 1 + (flat rem').length) := ⟨hx, hlt, hn'⟩
      clear hx hlt hn' hc0 hhead ht hle hn hvr
      go_wp2
      go_loop [0, 5, 6] (fun a arc more => ∃ (j o' c' n' : Nat), j ≤ L + 1 ∧ a = .slice (some ⟨b, o', none⟩) n' c' ∧ n' = j + (flat rem').length ∧ n' ≤ c' ∧ Vw w b o' (td x j ++ flat rem') ∧ arc = .int .i64 ((x / 128 ^ j : Nat) : Int) ∧ more = .bool (decide (0 < j)))
        (fun a _ _ => lenOfV a)
      case atStart => exact ⟨L + 1, o, c, n, Nat.le_refl _, rfl, HX.out.2.2, hnc, HV.out, by rw [Nat.div_eq_of_lt HX.out.2.1]; rfl, by simp⟩
      case round =>
        obtain ⟨j, o', c', n', hj, rfl, hn', hnc', hv', rfl, rfl⟩ := hrel
        have hbd : ((done.length + 1 : Nat) : Int) < 1001 := by have h1 := congrArg List.length HS.out; have := HVL.out; simp at h1; omega
        rcases j with _ | j
        · have HN : Hid (n' = (flat rem').length) := by show n' = _; omega
          have HV' : Hid (Vw w b o' (flat rem')) := hv'
          clear hn' hv'
          go_wp2_with (at_builtin; refine wp_appI 35 Yba.underlying35 _ rfl (.tmp 43) (.tmp 45) rfl w.heap.size g (done.length + 1) cp _ rfl (hown.alloc _) _ _ _ [(x : Int)] rfl (srcI_one _ _) (by omega) (by simp; omega) ?_; intro g' cap' w2 hg' hown' hbel2)
          go_roundw
          case rel => exact ⟨done ++ [x], rem', o', c', n', g', cap', by rw [HS.out]; simp, rfl, HN.out, hnc', by have := HX.out.2.2; have := HN.out; omega, HV'.out, by simp, own_eq (by simpa using hown') (by simp), (hbel.alloc hsz _).trans hbel2⟩
          case measure =>
            have := HX.out.2.2; have := HN.out
            simp [lenOfV]; omega
        · have hx31 := HX.out.1
          have hstep := div_step x j
          have hbyte := td_byte x j
          have hA31 : x / 128 ^ j ≤ x := Nat.div_le_self _ _
          have hA32 : x / 128 ^ (j + 1) ≤ x := Nat.div_le_self _ _
          have hdlt : x / 128 ^ j % 128 < 128 := Nat.mod_lt _ (by decide)
          have htd : td x (j + 1) = ((x / 128 ^ j % 128 + (if j = 0 then 0 else 128) : Nat) : Int) :: td x j := rfl
          have hcd : (x / 128 ^ j % 128 + (if j = 0 then 0 else 128)) % 128 = x / 128 ^ j % 128 := by split <;> omega
          have hcm : (x / 128 ^ j % 128 + (if j = 0 then 0 else 128)) / 128 * 128 = if j = 0 then 0 else 128 := by split <;> omega
          rw [htd] at hv'
          obtain ⟨A, hA⟩ : ∃ A, A = x / 128 ^ (j + 1) := ⟨_, rfl⟩
          obtain ⟨A', hA'⟩ : ∃ A', A' = x / 128 ^ j := ⟨_, rfl⟩
          obtain ⟨c1, hc1⟩ : ∃ c1, c1 = x / 128 ^ j % 128 + (if j = 0 then 0 else 128) := ⟨_, rfl⟩
          rw [← hc1] at hv' hcd hcm hbyte
          rw [← hA, ← hA'] at hstep
          rw [← hA'] at hA31 hdlt hcd
          rw [← hA] at hA32
          obtain ⟨d, hd⟩ : ∃ d, d = A' % 128 := ⟨_, rfl⟩
          rw [← hd] at hstep hdlt hcd
          have hcell' : wr.cell? ⟨b, o', none⟩ = some (.int .u8 (c1 : Int)) := by
            rw [hbel.cell (p := ⟨b, o', none⟩) hbw]
            exact hv'.at 0 _ rfl
          have f1 : bits .and .u8 (c1 : Int) 127 = (d : Int) := by rw [u8_and127 _ (by omega) (by omega)]; omega
          have f2 : IntKind.i64.wrap ((A : Int) * 128) = (A : Int) * 128 := by rw [IntKind.wrap_i64]; omega
          have f2' : wrap64 ((A : Int) * 128) = (A : Int) * 128 := by unfold wrap64; omega
          have f3 : bits .or .i64 ((A : Int) * 128) (d : Int) = (A' : Int) := by rw [i64_or7 _ _ (by omega) (by omega) (by omega) (by omega)]; omega
          have f4 : ¬ (2147483647 : Int) < (A' : Int) := by omega
          have f5 : (bits .and .u8 (c1 : Int) 128 != 0) = decide (0 < j) := by
            rw [u8_and128 c1 hbyte, hcm]
            by_cases hj0 : j = 0
            · subst hj0; rfl
            · rw [if_neg hj0]; simp; omega
          have hn0' : ((n' : Int) == 0) = false := by simp; omega
          have hn1' : (0 : Int) < (n' : Int) := by omega
          have hn2' : (1 : Int) ≤ (n' : Int) := by omega
          have HN : Hid (n' = j + 1 + (flat rem').length) := hn'
          have HV' : Hid (Vw w b (o' + 1) (td x j ++ flat rem')) := Vw.tail hv'
          have HA : Hid (A' = x / 128 ^ j) := hA'
          have hd' : (d : Int) < 128 := by omega
          have HA1 : Hid (A = x / 128 ^ (j + 1)) := hA
          clear hn' hv' hcm hcd hstep hbyte hA31 hA32 hdlt htd hc1 hA hA' hd hx31
          rw [show ((x / 128 ^ (j + 1) : Nat) : Int) = (A : Int) from by rw [HA1.out]]
          by_cases hc1 : c' = 1
          · subst hc1
            have hj0 : j = 0 := by have := HN.out; omega
            have hr0 : flat rem' = [] := List.eq_nil_of_length_eq_zero (by have := HN.out; omega)
            have HJ : Hid (j = 0 ∧ flat rem' = []) := ⟨hj0, hr0⟩
            have hn1 : n' = 1 := by have := HN.out; omega
            subst hn1
            clear hj0 hr0
            go_wp2
            go_round
            case rel => exact ⟨0, o', 0, 0, by omega, rfl, by rw [HJ.out.2]; rfl, by omega, by rw [HJ.out.2]; exact Vw.nil _ _ _, by rw [HA.out, HJ.out.1], by rw [HJ.out.1]⟩
            case measure => simp [lenOfV]
          · go_wp2
            go_round
            case rel => exact ⟨j, o' + 1, c' - 1, n' - 1, by omega, rfl, by have := HN.out; omega, by omega, HV'.out, by rw [HA.out], rfl⟩
            case measure => simp [lenOfV]; omega
end Go.Proofs.Ybulkbxqk
