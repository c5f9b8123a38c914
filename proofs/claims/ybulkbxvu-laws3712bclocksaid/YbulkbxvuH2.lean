/-
  Clock: zzs3712bbuild with the drawn threads and clocks: what stands after k events; the stages of one event.
-/
import Derived.Test.YbulkbxvuG37
namespace Go.Proofs.Ybulkbxvu.Ck
open Go.RowKit
set_option linter.unusedVariables false

/-- The thread of event k; how many events thread t has before k; its last before k. -/
def tt (E : EvD) (N k : Nat) : Nat := E.th k % N
def cnt (E : EvD) (N t : Nat) : Nat → Nat
  | 0 => 0
  | k + 1 => if t = tt E N k then cnt E N t k + 1 else cnt E N t k
def la (E : EvD) (N t : Nat) : Nat → Int
  | 0 => -1
  | k + 1 => if t = tt E N k then (k : Int) else la E N t k
theorem cnt_le (E : EvD) (N t : Nat) : ∀ k, cnt E N t k ≤ k
  | 0 => Nat.le_refl _
  | k + 1 => by have := cnt_le E N t k; rw [cnt]; split <;> omega
theorem la_lt (E : EvD) (N t : Nat) : ∀ k, -1 ≤ la E N t k ∧ la E N t k < (k : Int)
  | 0 => by rw [la]; omega
  | k + 1 => by have := la_lt E N t k; rw [la]; split <;> omega
theorem tt_lt (E : EvD) {N : Nat} (hN : 1 ≤ N) (k : Nat) : tt E N k < N := Nat.mod_lt _ hN

def ckC (E : EvD) (k : Nat) : Nat → List Value
  | 0 => []
  | i + 1 => ckC E k i ++ [.int .i32 (E.ck i k)]
def ckL (E : EvD) (N : Nat) : Nat → List Value
  | 0 => []
  | k + 1 => ckL E N k ++ ckC E k N
def paL (E : EvD) (N : Nat) : Nat → List Value
  | 0 => []
  | k + 1 => paL E N k ++ [.int .i32 (tt E N k : Int), .int .i32 0, .int .i32 0, .int .i32 0, .int .i32 0, .int .i32 0, .bool false, .slice none 0 0, .pointer none]
def evL (E : EvD) (N : Nat) : Nat → List Value
  | 0 => []
  | k + 1 => evL E N k ++ [.int .i32 (tt E N k : Int), .int .i32 (cnt E N (tt E N k) (k + 1) : Int), .int .i32 ((ckL E N k).length : Int), .int .i32 ((useL E k).length : Int)]
theorem ckC_len (E : EvD) (k i : Nat) : (ckC E k i).length = i := by
  induction i with
  | zero => rfl
  | succ i ih => rw [ckC, List.length_append, ih]; rfl
theorem ckL_len (E : EvD) (N k : Nat) : (ckL E N k).length = k * N := by
  induction k with
  | zero => simp [ckL]
  | succ k ih => rw [ckL, List.length_append, ih, ckC_len, Nat.succ_mul]

def xS (E : EvD) (N : Nat) (S : Sg) : Nat → List Value
  | 0 => paL E N S.kp
  | 1 => evL E N S.ke
  | 2 => S.ck
  | 3 => S.us.flatMap Use4.cs
  | 4 => List.replicate S.gt (.int .u8 0)
  | 5 => S.rn
  | i => (S.ob (i - 6)).map (fun k : Nat => .int .i32 (k : Int))
section
variable (E : EvD) (N : Nat) (S : Sg)
theorem xS0 : upd (xS E N S) 0 (paL E N S.kp ++ [.int .i32 (tt E N S.kp : Int), .int .i32 0, .int .i32 0, .int .i32 0, .int .i32 0, .int .i32 0, .bool false, .slice none 0 0, .pointer none]) = xS E N { S with kp := S.kp + 1 } := by funext x; match x with | 0 | 1 | 2 | 3 | 4 | 5 | x + 6 => rfl
theorem xS1 : upd (xS E N S) 1 (evL E N S.ke ++ [.int .i32 (tt E N S.ke : Int), .int .i32 (cnt E N (tt E N S.ke) (S.ke + 1) : Int), .int .i32 ((ckL E N S.ke).length : Int), .int .i32 ((useL E S.ke).length : Int)]) = xS E N { S with ke := S.ke + 1 } := by funext x; match x with | 0 | 1 | 2 | 3 | 4 | 5 | x + 6 => rfl
theorem xS2 (u : Value) : upd (xS E N S) 2 (S.ck ++ [u]) = xS E N { S with ck := S.ck ++ [u] } := by funext x; match x with | 0 | 1 | 2 | 3 | 4 | 5 | x + 6 => rfl
theorem xS3 (u : Use4) : upd (xS E N S) 3 (S.us.flatMap Use4.cs ++ u.cs) = xS E N { S with us := S.us ++ [u] } := by funext x; match x with | 0 | 1 | 2 | 4 | 5 | x + 6 => rfl | 3 => simp [xS, upd]
theorem xS4 : upd (xS E N S) 4 (List.replicate S.gt (.int .u8 0) ++ [.int .u8 0]) = xS E N { S with gt := S.gt + 1 } := by funext x; match x with | 0 | 1 | 2 | 3 | 5 | x + 6 => rfl | 4 => simp [xS, upd, List.replicate_succ']
theorem xS6 (o k : Nat) : upd (xS E N S) (6 + o) ((S.ob o).map (fun k : Nat => .int .i32 (k : Int)) ++ [.int .i32 (k : Int)]) = xS E N { S with ob := upd S.ob o (S.ob o ++ [k]) } := by
  funext x
  match x with
  | 0 | 1 | 2 | 3 | 4 | 5 => simp [xS, upd] <;> omega
  | x + 6 =>
    by_cases h : x = o
    · subst h; simp [xS, upd, Nat.add_comm]
    · simp only [xS, upd]; rw [if_neg (by omega), Nat.add_sub_cancel, if_neg h]
end

/-- The small rows. -/
def gT (E : EvD) (N ne k : Nat) : Nat → Option Value := fun j => if j < k then some (.int .i64 (tt E N j : Int)) else if j < ne then some (.int .i64 0) else none
def gN (N : Nat) (f : Nat → Int) : Nat → Option Value := fun t => if t < N then some (.int .i32 (f t)) else none
theorem gN_at {N t : Nat} {f : Nat → Int} (h : t < N) : gN N f t = some (.int .i32 (f t)) := by unfold gN; rw [if_pos h]
theorem gT_at {E : EvD} {N ne k : Nat} (h : k < ne) : gT E N ne k k = some (.int .i64 0) := by unfold gT; rw [if_neg (by omega), if_pos h]
theorem gT_set (E : EvD) (N ne k : Nat) : (fun x => if x = k then some (.int .i64 (tt E N k : Int)) else gT E N ne k x) = gT E N ne (k + 1) := by
  funext x
  unfold gT
  by_cases h : x = k
  · subst h; rw [if_pos rfl, if_pos (by omega)]
  · rw [if_neg h]
    by_cases h1 : x < k
    · rw [if_pos h1, if_pos (by omega)]
    · rw [if_neg h1, if_neg (show ¬ x < k + 1 by omega)]
theorem gN_set (N : Nat) (f f' : Nat → Int) (t : Nat) (ht : t < N) (v : Int) (hf : ∀ x, f' x = if x = t then v else f x) : (fun x => if x = t then some (.int .i32 v) else gN N f x) = gN N f' := by
  funext x
  unfold gN
  by_cases h : x = t
  · subst h; rw [if_pos rfl, if_pos ht, hf, if_pos rfl]
  · rw [if_neg h, hf, if_neg h]
/-- The world at a stage. -/
def BS (W0 W : World) (p : Pc) (E : EvD) (N : Nat) (S : Sg) (ne kT kL kC : Nat) (xv v : Nat → Value) (m : Nat → Value) : Prop :=
  BI W0 W p (N : Int) xv v (nS S) (xS E N S) m (gT E N ne kT) (gN N (fun t => la E N t kL)) (gN N (fun t => (cnt E N t kC : Int)))

/-- What stands after k events. -/
def Sk (E : EvD) (N k : Nat) : Sg := { kp := k, ke := k, ck := ckL E N k, us := useL E k, gt := (useL E k).length, rn := [], ob := fun o => obL E o k }
/-- What build hands back. -/
def BldOut (W : World) (ne : Nat) (E : EvD) (N : Nat) (e : Ending) (W' : World) : Prop := ∃ p v, e = .returned (.tuple #[pt p.X, sl p.T 0 ne ne, sl p.L 0 N N]) ∧ BS W W' p E N (Sk E N ne) ne ne ne ne v v (fun o => v (6 + o))

/-- Before the counts are made. -/
structure SBx (W0 W : World) (X M T L ne N : Nat) (E : EvD) (g : Nat → Option Value) : Prop where
  pX : RowP W X 77 (xg M (N : Int) (fun _ => .slice none 0 0))
  pT : RowP W T 3 (gT E N ne 0)
  pL : RowP W L 21 g
  mp : MapR W M (fun _ => .slice none 0 0)
  fr : Below W0.heap.size W0 W
  at' : W0.heap.size = M ∧ M + 1 = X ∧ M + 2 = T ∧ T < L ∧ L < W.heap.size
theorem SBx.set {W0 W : World} {X M T L ne N : Nat} {E : EvD} {g : Nat → Option Value} (h : SBx W0 W X M T L ne N E g) {o : Nat} {u : Value} (hg : g o = some u) (a : Value) : SBx W0 (W.setCell ⟨L, o, none⟩ a) X M T L ne N E (fun x => if x = o then some a else g x) := by
  have hne : ∀ k, k ≠ L → (W.setCell ⟨L, o, none⟩ a).heap[k]? = W.heap[k]? := fun k hk => heap_setCell_other _ _ k _ (by simpa using hk)
  obtain ⟨a1, a2, a3, a4, a5⟩ := h.at'
  exact ⟨h.pX.blk (hne _ (by omega)), h.pT.blk (hne _ (by omega)), h.pL.set hg a, h.mp.blk (hne _ (by omega)), h.fr.setCell (by simp; omega) _, a1, a2, a3, a4, by simp [World.setCell]; exact a5⟩
theorem SBx.start {W W1 W2 : World} {ne N : Nat} (E : EvD) (cx : Array Value) (h1 : ∃ cur : Array Value, W1.heap[((W.alloc (.map #[] 0)).alloc (.cells cx 77)).heap.size]? = some (.cells cur 3 (0, 0)) ∧ cur.size = ne ∧ ∀ j, j < ne → cur[j]? = some (.int .i64 0))
    (hb1 : Below ((W.alloc (.map #[] 0)).alloc (.cells cx 77)).heap.size ((W.alloc (.map #[] 0)).alloc (.cells cx 77)) W1) (h2 : ∃ cur : Array Value, W2.heap[W1.heap.size]? = some (.cells cur 21 (0, 0)) ∧ cur.size = N ∧ ∀ j, j < N → cur[j]? = some (.int .i32 0)) (hb2 : Below W1.heap.size W1 W2)
    (hx : ∀ o v, xg W.heap.size (N : Int) (fun _ => .slice none 0 0) o = some v → cx[o]? = some v) : SBx W W2 (W.heap.size + 1) W.heap.size (W.heap.size + 2) W1.heap.size ne N E (gN N (fun _ => 0)) := by
  have z1 : ((W.alloc (.map #[] 0)).alloc (.cells cx 77)).heap.size = W.heap.size + 2 := by simp
  have z0 : (W.alloc (.map #[] 0)).heap.size = W.heap.size + 1 := by simp
  have x1 := heap_alloc_new (W.alloc (.map #[] 0)) (.cells cx 77)
  rw [z0] at x1
  have x0 := (show ((W.alloc (.map #[] 0)).alloc (.cells cx 77)).heap[W.heap.size]? = (W.alloc (.map #[] 0)).heap[W.heap.size]? from heap_alloc_old _ _ (by omega)).trans (heap_alloc_new W (.map #[] 0))
  rw [z1] at h1 hb1
  obtain ⟨c1, a1, a2, a3⟩ := h1
  obtain ⟨c2, b1, b2, b3⟩ := h2
  have hs1 := (Array.getElem?_eq_some_iff.1 a1).1
  have hs2 := (Array.getElem?_eq_some_iff.1 b1).1
  refine ⟨⟨cx, ?_, hx⟩, ⟨c1, ?_, fun o v h => ?_⟩, ⟨c2, b1, fun o v h => ?_⟩, ⟨#[], 0, ?_, ?_⟩, ?_, rfl, rfl, rfl, hs1, hs2⟩
  · rw [hb2.block _ (by omega), hb1.block _ (by omega)]; exact x1
  · rw [hb2.block _ hs1]; exact a1
  · unfold gT at h
    rw [if_neg (by omega)] at h
    split at h
    · rename_i hlt; injection h with h; rw [← h]; exact a3 o hlt
    · cases h
  · unfold gN at h
    split at h
    · rename_i hlt; injection h with h; rw [← h]; exact b3 o hlt
    · cases h
  · rw [hb2.block _ (by omega), hb1.block _ (by omega)]; exact x0
  · exact ⟨fun x h => by simp at h, fun _ _ _ => rfl, ⟨by simp, by simp, by simp⟩⟩
  · exact ((((Below.refl _ W).alloc (Nat.le_refl _) _).alloc (by omega) _).trans (hb1.mono (by omega))).trans (hb2.mono (by omega))
theorem BS.start {W0 W W' : World} {X M T L ne N : Nat} (E : EvD) (h : SBx W0 W X M T L ne N E (gN N (fun _ => -1))) (hb : Below W.heap.size W W') (hc : RowP W' W.heap.size 21 (gN N (fun _ => 0))) :
    BS W0 W' ⟨W.heap.size + 1, X, M, T, L, W.heap.size⟩ E N (Sk E N 0) ne 0 0 0 (fun _ => .slice none 0 0) (fun _ => .slice none 0 0) (fun _ => .slice none 0 0) := by
  obtain ⟨a1, a2, a3, a4, a5⟩ := h.at'
  have hl := hc.lt
  refine ⟨h.pX.blk (hb.block _ (by omega)), h.pT.blk (hb.block _ (by omega)), h.pL.blk (hb.block _ (by omega)), hc, h.mp.blk (hb.block _ (by omega)), fun i hi => ?_, ?_, h.fr.trans (hb.mono (by omega)), hl, ?_, ?_, ?_, ?_, ?_⟩
  · refine ⟨?_, .inl ⟨rfl, ?_⟩⟩
    · match i, hi with
      | 0, _ | 1, _ | 2, _ | 3, _ | 4, _ | 5, _ | 6, _ | 7, _ | 8, _ => rfl
    · match i, hi with
      | 0, _ | 1, _ | 2, _ | 3, _ | 4, _ | 5, _ | 6, _ | 7, _ | 8, _ => rfl
  · intro i j _ _ _ b hb' _
    cases hb'
  all_goals (simp only; omega)

/-- The stages. -/
def S1 (E : EvD) (N k : Nat) : Sg := { kp := k, ke := k + 1, ck := ckL E N k, us := useL E k, gt := (useL E k).length, rn := [], ob := fun o => obL E o k }
def S2 (E : EvD) (N k i : Nat) : Sg := { kp := k, ke := k + 1, ck := ckL E N k ++ ckC E k i, us := useL E k, gt := (useL E k).length, rn := [], ob := fun o => obL E o k }
def S3 (E : EvD) (N k o : Nat) : Sg := { kp := k, ke := k + 1, ck := ckL E N (k + 1), us := useL E k ++ chTo E k o, gt := (useL E k ++ chTo E k o).length, rn := [], ob := fun o' => if o' < o then obL E o' (k + 1) else obL E o' k }
def S4 (E : EvD) (N k : Nat) : Sg := { kp := k, ke := k + 1, ck := ckL E N (k + 1), us := useL E (k + 1), gt := (useL E (k + 1)).length, rn := [], ob := fun o' => if o' < 3 then obL E o' (k + 1) else obL E o' k }
def S5 (E : EvD) (N k : Nat) : Sg := { kp := k + 1, ke := k + 1, ck := ckL E N (k + 1), us := useL E (k + 1), gt := (useL E (k + 1)).length, rn := [], ob := fun o' => if o' < 3 then obL E o' (k + 1) else obL E o' k }
section
variable (E : EvD) (N k : Nat)
theorem S2_0 : S2 E N k 0 = S1 E N k := by simp [S2, S1, ckC]
theorem S2_s (i : Nat) : S2 E N k (i + 1) = { S2 E N k i with ck := (S2 E N k i).ck ++ [.int .i32 (E.ck i k)] } := by simp [S2, ckC]
theorem S3_0 : S3 E N k 0 = S2 E N k N := by simp [S3, S2, ckL, chTo]
def S3a (o : Nat) : Sg := { S3 E N k o with us := (S3 E N k o).us ++ [usO E k o] }
def S3b (o : Nat) : Sg := { S3a E N k o with gt := (S3a E N k o).gt + 1 }
theorem S3_same (o : Nat) (h : E.ce o k % 3 = 0) : S3 E N k (o + 1) = S3 E N k o := by
  have h1 : chTo E k (o + 1) = chTo E k o := by rw [chTo, if_pos h, List.append_nil]
  have h2 : (fun o' => if o' < o + 1 then obL E o' (k + 1) else obL E o' k) = (fun o' => if o' < o then obL E o' (k + 1) else obL E o' k) := by
    funext o'
    by_cases e : o' = o
    · subst e; rw [if_pos (by omega), if_neg (by omega), obL, if_pos h, List.append_nil]
    · by_cases e2 : o' < o
      · rw [if_pos (by omega), if_pos e2]
      · rw [if_neg (by omega), if_neg e2]
  unfold S3
  rw [h1, h2]
theorem S3_next (o : Nat) (h : E.ce o k % 3 ≠ 0) : S3 E N k (o + 1) = { S3b E N k o with ob := upd (S3b E N k o).ob o ((S3b E N k o).ob o ++ [k]) } := by
  have h1 : chTo E k (o + 1) = chTo E k o ++ [usO E k o] := by rw [chTo, if_neg h]; rfl
  have h2 : (fun o' => if o' < o + 1 then obL E o' (k + 1) else obL E o' k) = upd (S3b E N k o).ob o ((S3b E N k o).ob o ++ [k]) := by
    funext o'
    show _ = upd (fun o' => if o' < o then obL E o' (k + 1) else obL E o' k) o ((if o < o then obL E o (k + 1) else obL E o k) ++ [k]) o'
    by_cases e : o' = o
    · subst e; rw [upd_same, if_pos (by omega), if_neg (by omega), obL, if_neg h]
    · simp only [upd, if_neg e]
      by_cases e2 : o' < o
      · rw [if_pos (by omega), if_pos e2]
      · rw [if_neg (by omega), if_neg e2]
  unfold S3
  rw [h1, h2]
  simp [S3b, S3a, S3, List.append_assoc, Nat.add_assoc]
theorem S4_no (h : E.en k = false) : S4 E N k = S3 E N k 3 := by
  simp [S4, S3, useL, chunk, h]
def S4a : Sg := { S3 E N k 3 with us := (S3 E N k 3).us ++ [⟨7, 0, 0, true⟩] }
theorem S4_yes (h : E.en k = true) : S4 E N k = { S4a E N k with gt := (S4a E N k).gt + 1 } := by
  simp [S4, S4a, S3, useL, chunk, h, List.append_assoc, Nat.add_assoc]
end
section
variable {W0 W W6 W' : World} {p : Pc} {E : EvD} {S : Sg} {N ne kT kL kC : Nat} {vv : Nat → Value} {g cap k : Nat}
theorem BS.cong {S' : Sg} (h : BS W0 W p E N S ne kT kL kC vv vv (fun o => vv (6 + o))) (hn : ∀ i, i < 9 → nS S i = nS S' i) (hx : ∀ i, i < 9 → xS E N S i = xS E N S' i) : BS W0 W p E N S' ne kT kL kC vv vv (fun o => vv (6 + o)) :=
  ⟨h.pX, h.pT, h.pL, h.pC, h.mp, fun i hi => by rw [← hn i hi, ← hx i hi]; exact h.own i hi, h.ap, h.fr, h.hb, h.lo, h.hi, h.d1, h.d2, h.d3⟩
theorem BS.push (h : BS W0 W p E N S ne kT kL kC vv vv (fun o => vv (6 + o))) (hk : Below W.heap.size W W6) (i : Nat) (hi : i < 6) (S' : Sg) (cs : List Value) (hn : upd (nS S) i (nS S i + 1) = nS S') (hx : upd (xS E N S) i (xS E N S i ++ cs) = xS E N S')
    (hown : W'.ownsRow p.base (re i) (rs i) (.slice (some ⟨g, 0, none⟩) (nS S i + 1) cap) (nS S i + 1) (xS E N S i ++ cs)) (hg : W6.grownBy W' (vv i).ownBlock) (hat : (vv i).ownBlock = some g ∨ g = W6.heap.size) :
    ∃ v', BS W0 (W'.setCell ⟨p.X, xo i, none⟩ (.slice (some ⟨g, 0, none⟩) (nS S i + 1) cap)) p E N S' ne kT kL kC v' v' (fun o => v' (6 + o)) ∧ Bxs W (W'.setCell ⟨p.X, xo i, none⟩ (.slice (some ⟨g, 0, none⟩) (nS S i + 1) cap)) p.base vv v' := by
  refine ⟨upd vv i (.slice (some ⟨g, 0, none⟩) (nS S i + 1) cap), ?_, fun EB e ge hb => hb.push hk i (by omega) hg hat h.hi.1 _ _⟩
  have := BI.push h hk i hi hown hg hat
  rw [hn, hx] at this
  exact this
theorem BS.cells (h : BS W0 W p E N S ne kT kL kC vv vv (fun o => vv (6 + o))) (hk : Below W.heap.size W W6) (i : Nat) (hi : i < 6) (hg : W6.grownBy W' (vv i).ownBlock) : W'.cell? ⟨p.X, xo i, none⟩ = some (vv i) ∧ W'.frozen? ⟨p.X, xo i, none⟩ = false := by
  have hf := BI.far h hk i (by omega) hg p.X h.hi.1
  exact ⟨(World.cell?_of_block hf).trans (h.pX.cell (xg_xo _ _ _ i hi)), (World.frozen?_of_block hf).trans (h.pX.fz _)⟩
theorem BS.own (h : BS W0 W p E N S ne kT kL kC vv vv (fun o => vv (6 + o))) (hk : Below W.heap.size W W6) (i : Nat) (hi : i < 9) : W6.ownsRow p.base (re i) (rs i) (vv i) (nS S i) (xS E N S i) := (BI.keep h hk).own i hi
/-- The next event's start. -/
theorem BS.next (h : BS W0 W p E N (S5 E N k) ne kT kL kC vv vv (fun o => vv (6 + o))) : BS W0 W p E N (Sk E N (k + 1)) ne kT kL kC vv vv (fun o => vv (6 + o)) := by
  refine h.cong (fun i hi => ?_) (fun i hi => ?_)
  · match i, hi with
    | 0, _ | 1, _ | 2, _ | 3, _ | 4, _ | 5, _ | 6, _ | 7, _ | 8, _ => rfl
  · match i, hi with
    | 0, _ | 1, _ | 2, _ | 3, _ | 4, _ | 5, _ | 6, _ | 7, _ | 8, _ => rfl
end
end Go.Proofs.Ybulkbxvu.Ck
