/-
  zzs3712bbuild: the appends, and what stands after k events (the chain).
-/
import Derived.Test.YbulkbxvuG1
import Derived.Test.YbulkbxvuE0
namespace Go.Proofs.Ybulkbxvu
open Go.RowKit
set_option linter.unusedVariables false

theorem info53 : (Yba.prog.info? 53).map (fun i => (i.zero, i.size, i.bytes)) = some (some (.agg #[.int .i32 0, .int .i32 0, .int .i32 0, .int .i32 0, .int .i32 0, .int .i32 0, .bool false, .slice none 0 0, .pointer none]), 9, 64) := by kernel_rfl
theorem info84 : (Yba.prog.info? 84).map (fun i => (i.zero, i.size, i.bytes)) = some (some (.agg #[.int .i32 0, .int .i32 0, .int .i32 0, .int .i32 0]), 4, 16) := by kernel_rfl
theorem info86 : (Yba.prog.info? 86).map (fun i => (i.zero, i.size, i.bytes)) = some (some (.int .u8 0), 1, 1) := by kernel_rfl
theorem info21 : (Yba.prog.info? 21).map (fun i => (i.zero, i.size, i.bytes)) = some (some (.int .i32 0), 1, 4) := by kernel_rfl

/-- One element is appended: in a plain region. -/
theorem wp_appB (i t bytes : Nat) (z : Value) (hu : Yba.prog.underlying t = some (.slice (re i))) (hinfo : (Yba.prog.info? (re i)).map (fun i => (i.zero, i.size, i.bytes)) = some (some z, rs i, bytes)) (hzs : z.cells.size = rs i) (hsz : 0 < rs i) (hby : bytes ≤ 64)
    (w : World) {ops : Array Oper} {rest : List Oper} {o : Oper} {a : Act} {Q : Exit → Act → World → Prop} (hgd : o.guard = none) (s x : Operand)
    (ho : o.op = .call { callee := .builtin .append, args := #[s, x], argTypes := #[t, t] })
    (base : Nat) (v : Value) (n : Nat) (xs : List Value) (hs : a.eval s = v) (hown : w.ownsRow base (re i) (rs i) v n xs) (cs : List Value) (b c : Nat) (hx : a.eval x = .slice (some ⟨b, 0, none⟩) 1 c)
    (hb : w.heap[b]? = some (.cells cs.toArray (re i) (0, 0))) (hl : cs.length = rs i) (h1 : ∀ u ∈ cs, u.oneCell' = true) (hn : n ≤ 4096) (hbase : base ≤ w.heap.size)
    (h : ∀ g cap w', w'.ownsRow base (re i) (rs i) (.slice (some ⟨g, 0, none⟩) (n + 1) cap) (n + 1) (xs ++ cs) → w.grownBy w' v.ownBlock → (v.ownBlock = some g ∨ g = w.heap.size) → g < w'.heap.size → wpList Yba.prog ops Q rest (a.put o.dst (.slice (some ⟨g, 0, none⟩) (n + 1) cap)) w') :
    wpList Yba.prog ops Q (o :: rest) a w := by
  obtain ⟨i0, hi, hz0, hz1, hz2⟩ := info_parts hinfo
  exact wpList_append_lies w hgd s x t ho base (re i) i0 z (rs i) bytes hu hi hz0 hz1 hz2 hzs hsz v n xs hs hown ⟨b, 0, none⟩ 1 c cs hx (by omega) (World.news_of_block hb) h1 (by decide) (by unfold maxLen; omega) (by have : (n + 1) * bytes ≤ 4097 * 64 := Nat.mul_le_mul (by omega) hby; omega) hbase _ rfl h
/-- In a region that draws its order. -/
theorem step_appB (i t bytes : Nat) (z : Value) (hu : Yba.prog.underlying t = some (.slice (re i))) (hinfo : (Yba.prog.info? (re i)).map (fun i => (i.zero, i.size, i.bytes)) = some (some z, rs i, bytes)) (hzs : z.cells.size = rs i) (hsz : 0 < rs i) (hby : bytes ≤ 64)
    (w : World) {ops : Array Oper} {o : Oper} {a : Act} {K : Act → World → Prop} {Q : Exit → Act → World → Prop} {E : Prop} (hgd : o.guard = none) (s x : Operand)
    (ho : o.op = .call { callee := .builtin .append, args := #[s, x], argTypes := #[t, t] })
    (base : Nat) (v : Value) (n : Nat) (xs : List Value) (hs : a.eval s = v) (hown : w.ownsRow base (re i) (rs i) v n xs) (cs : List Value) (b c : Nat) (hx : a.eval x = .slice (some ⟨b, 0, none⟩) 1 c)
    (hb : w.heap[b]? = some (.cells cs.toArray (re i) (0, 0))) (hl : cs.length = rs i) (h1 : ∀ u ∈ cs, u.oneCell' = true) (hn : n ≤ 4096) (hbase : base ≤ w.heap.size)
    (h : ∀ g cap w', w'.ownsRow base (re i) (rs i) (.slice (some ⟨g, 0, none⟩) (n + 1) cap) (n + 1) (xs ++ cs) → w.grownBy w' v.ownBlock → (v.ownBlock = some g ∨ g = w.heap.size) → g < w'.heap.size → K (a.put o.dst (.slice (some ⟨g, 0, none⟩) (n + 1) cap)) w') :
    if Region.wanted o (yielded ops a.tmps) = true then Oper.wp Yba.prog o a w K Q else E := by
  obtain ⟨i0, hi, hz0, hz1, hz2⟩ := info_parts hinfo
  exact step_append_lies w hgd s x t ho base (re i) i0 z (rs i) bytes hu hi hz0 hz1 hz2 hzs hsz v n xs hs hown ⟨b, 0, none⟩ 1 c cs hx (by omega) (World.news_of_block hb) h1 (by decide) (by unfold maxLen; omega) (by have : (n + 1) * bytes ≤ 4097 * 64 := Nat.mul_le_mul (by omega) hby; omega) hbase _ rfl h

/-- At the operation. -/
theorem wp_appO (i t bytes : Nat) (z : Value) (hu : Yba.prog.underlying t = some (.slice (re i))) (hinfo : (Yba.prog.info? (re i)).map (fun i => (i.zero, i.size, i.bytes)) = some (some z, rs i, bytes)) (hzs : z.cells.size = rs i) (hsz : 0 < rs i) (hby : bytes ≤ 64)
    (w : World) {o : Oper} {a : Act} {K : Act → World → Prop} {Q : Exit → Act → World → Prop} (s x : Operand)
    (ho : o.op = .call { callee := .builtin .append, args := #[s, x], argTypes := #[t, t] })
    (base : Nat) (v : Value) (n : Nat) (xs : List Value) (hs : a.eval s = v) (hown : w.ownsRow base (re i) (rs i) v n xs) (cs : List Value) (b c : Nat) (hx : a.eval x = .slice (some ⟨b, 0, none⟩) 1 c)
    (hb : w.heap[b]? = some (.cells cs.toArray (re i) (0, 0))) (hl : cs.length = rs i) (h1 : ∀ u ∈ cs, u.oneCell' = true) (hn : n ≤ 4096) (hbase : base ≤ w.heap.size)
    (h : ∀ g cap w', w'.ownsRow base (re i) (rs i) (.slice (some ⟨g, 0, none⟩) (n + 1) cap) (n + 1) (xs ++ cs) → w.grownBy w' v.ownBlock → (v.ownBlock = some g ∨ g = w.heap.size) → g < w'.heap.size → K (a.put o.dst (.slice (some ⟨g, 0, none⟩) (n + 1) cap)) w') :
    Oper.wp Yba.prog o a w K Q := by
  obtain ⟨i0, hi, hz0, hz1, hz2⟩ := info_parts hinfo
  exact wp_append_lies w s x t ho base (re i) i0 z (rs i) bytes hu hi hz0 hz1 hz2 hzs hsz v n xs hs hown ⟨b, 0, none⟩ 1 c cs hx (by omega) (World.news_of_block hb) h1 (by decide) (by unfold maxLen; omega) (by have : (n + 1) * bytes ≤ 4097 * 64 := Nat.mul_le_mul (by omega) hby; omega) hbase _ rfl h
theorem Yba.mixed : Yba.prog.follows .mixedOrders = true := by kernel_rfl

/-- What the uses hold for event k, as far as object o. -/
def chTo (E : EvD) (k : Nat) : Nat → List Use4
  | 0 => []
  | o + 1 => chTo E k o ++ (if E.ce o k % 3 = 0 then [] else [⟨objK o, objI o, 0, E.ce o k % 3 == 2⟩])
def chunk (E : EvD) (k : Nat) : List Use4 := chTo E k 3 ++ (if E.en k then [⟨7, 0, 0, true⟩] else [])
def useL (E : EvD) : Nat → List Use4
  | 0 => []
  | k + 1 => useL E k ++ chunk E k
def obL (E : EvD) (o : Nat) : Nat → List Nat
  | 0 => []
  | k + 1 => obL E o k ++ (if E.ce o k % 3 = 0 then [] else [k])
def ckC (k : Nat) : Nat → List Value
  | 0 => []
  | i + 1 => ckC k i ++ [.int .i32 (if i = 0 then (k : Int) + 1 else 0)]
def ckL : Nat → List Value
  | 0 => []
  | k + 1 => ckL k ++ ckC k 2
def rnL (E : EvD) : Nat → List Value
  | 0 => []
  | k + 1 => rnL E k ++ ([.int .i32 0] ++ if E.ru k then [.int .i32 1] else [])
def paL (E : EvD) : Nat → List Value
  | 0 => []
  | k + 1 => paL E k ++ [.int .i32 0, .int .i32 0, .int .i32 0, .int .i32 0, .int .i32 0, .int .i32 ((rnL E k).length : Int), .bool false, .slice none 0 0, .pointer none]
def evL (E : EvD) : Nat → List Value
  | 0 => []
  | k + 1 => evL E k ++ [.int .i32 0, .int .i32 ((k : Int) + 1), .int .i32 ((ckL k).length : Int), .int .i32 ((useL E k).length : Int)]

theorem chTo_len (E : EvD) (k o : Nat) : (chTo E k o).length ≤ o := by
  induction o with
  | zero => simp [chTo]
  | succ o ih => rw [chTo, List.length_append]; split <;> simp <;> omega
theorem useL_len (E : EvD) (k : Nat) : (useL E k).length ≤ 4 * k := by
  induction k with
  | zero => simp [useL]
  | succ k ih =>
    rw [useL, chunk, List.length_append, List.length_append]
    have := chTo_len E k 3
    split <;> simp <;> omega
theorem obL_len (E : EvD) (o k : Nat) : (obL E o k).length ≤ k := by
  induction k with
  | zero => simp [obL]
  | succ k ih => rw [obL, List.length_append]; split <;> simp <;> omega
theorem ckC_len (k i : Nat) : (ckC k i).length = i := by
  induction i with
  | zero => rfl
  | succ i ih => rw [ckC, List.length_append, ih]; rfl
theorem ckL_len (k : Nat) : (ckL k).length = 2 * k := by
  induction k with
  | zero => rfl
  | succ k ih => rw [ckL, List.length_append, ih, ckC_len]; omega
theorem rnL_len (E : EvD) (k : Nat) : (rnL E k).length ≤ 2 * k := by
  induction k with
  | zero => simp [rnL]
  | succ k ih => rw [rnL, List.length_append]; split <;> simp <;> omega

/-- A stage. -/
structure Sg where
  kp : Nat
  ke : Nat
  ck : List Value
  us : List Use4
  gt : Nat
  rn : List Value
  ob : Nat → List Nat
def nS (S : Sg) : Nat → Nat
  | 0 => S.kp
  | 1 => S.ke
  | 2 => S.ck.length
  | 3 => S.us.length
  | 4 => S.gt
  | 5 => S.rn.length
  | i => (S.ob (i - 6)).length
def xS (E : EvD) (S : Sg) : Nat → List Value
  | 0 => paL E S.kp
  | 1 => evL E S.ke
  | 2 => S.ck
  | 3 => S.us.flatMap Use4.cs
  | 4 => List.replicate S.gt (.int .u8 0)
  | 5 => S.rn
  | i => (S.ob (i - 6)).map (fun k : Nat => .int .i32 (k : Int))
theorem nS0 (S : Sg) : upd (nS S) 0 (S.kp + 1) = nS { S with kp := S.kp + 1 } := by funext x; match x with | 0 | 1 | 2 | 3 | 4 | 5 | x + 6 => rfl
theorem xS0 (E : EvD) (S : Sg) : upd (xS E S) 0 (paL E S.kp ++ [.int .i32 0, .int .i32 0, .int .i32 0, .int .i32 0, .int .i32 0, .int .i32 ((rnL E S.kp).length : Int), .bool false, .slice none 0 0, .pointer none]) = xS E { S with kp := S.kp + 1 } := by funext x; match x with | 0 | 1 | 2 | 3 | 4 | 5 | x + 6 => rfl
theorem nS1 (S : Sg) : upd (nS S) 1 (S.ke + 1) = nS { S with ke := S.ke + 1 } := by funext x; match x with | 0 | 1 | 2 | 3 | 4 | 5 | x + 6 => rfl
theorem xS1 (E : EvD) (S : Sg) : upd (xS E S) 1 (evL E S.ke ++ [.int .i32 0, .int .i32 ((S.ke : Int) + 1), .int .i32 ((ckL S.ke).length : Int), .int .i32 ((useL E S.ke).length : Int)]) = xS E { S with ke := S.ke + 1 } := by funext x; match x with | 0 | 1 | 2 | 3 | 4 | 5 | x + 6 => rfl
theorem nS2 (S : Sg) (u : Value) : upd (nS S) 2 (S.ck.length + 1) = nS { S with ck := S.ck ++ [u] } := by funext x; match x with | 0 | 1 | 3 | 4 | 5 | x + 6 => rfl | 2 => simp [nS, upd]
theorem xS2 (E : EvD) (S : Sg) (u : Value) : upd (xS E S) 2 (S.ck ++ [u]) = xS E { S with ck := S.ck ++ [u] } := by funext x; match x with | 0 | 1 | 2 | 3 | 4 | 5 | x + 6 => rfl
theorem nS3 (S : Sg) (u : Use4) : upd (nS S) 3 (S.us.length + 1) = nS { S with us := S.us ++ [u] } := by funext x; match x with | 0 | 1 | 2 | 4 | 5 | x + 6 => rfl | 3 => simp [nS, upd]
theorem xS3 (E : EvD) (S : Sg) (u : Use4) : upd (xS E S) 3 (S.us.flatMap Use4.cs ++ u.cs) = xS E { S with us := S.us ++ [u] } := by funext x; match x with | 0 | 1 | 2 | 4 | 5 | x + 6 => rfl | 3 => simp [xS, upd]
theorem nS4 (S : Sg) : upd (nS S) 4 (S.gt + 1) = nS { S with gt := S.gt + 1 } := by funext x; match x with | 0 | 1 | 2 | 3 | 4 | 5 | x + 6 => rfl
theorem xS4 (E : EvD) (S : Sg) : upd (xS E S) 4 (List.replicate S.gt (.int .u8 0) ++ [.int .u8 0]) = xS E { S with gt := S.gt + 1 } := by funext x; match x with | 0 | 1 | 2 | 3 | 5 | x + 6 => rfl | 4 => simp [xS, upd, List.replicate_succ']
theorem nS5 (S : Sg) (u : Value) : upd (nS S) 5 (S.rn.length + 1) = nS { S with rn := S.rn ++ [u] } := by funext x; match x with | 0 | 1 | 2 | 3 | 4 | x + 6 => rfl | 5 => simp [nS, upd]
theorem xS5 (E : EvD) (S : Sg) (u : Value) : upd (xS E S) 5 (S.rn ++ [u]) = xS E { S with rn := S.rn ++ [u] } := by funext x; match x with | 0 | 1 | 2 | 3 | 4 | 5 | x + 6 => rfl
theorem nS6 (S : Sg) (o k : Nat) : upd (nS S) (6 + o) ((S.ob o).length + 1) = nS { S with ob := upd S.ob o (S.ob o ++ [k]) } := by
  funext x
  match x with
  | 0 | 1 | 2 | 3 | 4 | 5 => simp [nS, upd] <;> omega
  | x + 6 =>
    by_cases h : x = o
    · subst h; simp [nS, upd, Nat.add_comm]
    · simp only [nS, upd]; rw [if_neg (by omega), Nat.add_sub_cancel, if_neg h]
theorem xS6 (E : EvD) (S : Sg) (o k : Nat) : upd (xS E S) (6 + o) ((S.ob o).map (fun k : Nat => .int .i32 (k : Int)) ++ [.int .i32 (k : Int)]) = xS E { S with ob := upd S.ob o (S.ob o ++ [k]) } := by
  funext x
  match x with
  | 0 | 1 | 2 | 3 | 4 | 5 => simp [xS, upd] <;> omega
  | x + 6 =>
    by_cases h : x = o
    · subst h; simp [xS, upd, Nat.add_comm]
    · simp only [xS, upd]; rw [if_neg (by omega), Nat.add_sub_cancel, if_neg h]

/-- The small rows. -/
def gZ (ne : Nat) : Nat → Option Value := fun j => if j < ne then some (.int .i64 0) else none
def g2 (a b : Int) : Nat → Option Value
  | 0 => some (.int .i32 a)
  | 1 => some (.int .i32 b)
  | _ => none
/-- The world at a stage. -/
def BS (W0 W : World) (p : Pc) (E : EvD) (S : Sg) (ne : Nat) (la co : Int) (xv v : Nat → Value) (m : Nat → Value) : Prop :=
  BI W0 W p 2 xv v (nS S) (xS E S) m (gZ ne) (g2 la (-1)) (g2 co 0)
theorem gZ_set (ne k : Nat) (hk : k < ne) : (fun x => if x = k then some (.int .i64 0) else gZ ne x) = gZ ne := by
  funext x
  by_cases h : x = k
  · subst h; rw [if_pos rfl]; unfold gZ; rw [if_pos hk]
  · rw [if_neg h]
theorem g2_a (a b c : Int) : (fun x => if x = 0 then some (.int .i32 c) else g2 a b x) = g2 c b := by
  funext x; match x with | 0 | 1 | x + 2 => rfl
theorem g2_b (a b c : Int) : (fun x => if x = 1 then some (.int .i32 c) else g2 a b x) = g2 a c := by
  funext x; match x with | 0 | 1 | x + 2 => rfl

section
variable {W0 W W6 W' : World} {p : Pc} {N : Int} {vv xv v : Nat → Value} {n : Nat → Nat} {xs : Nat → List Value} {m : Nat → Value} {gT gL gC : Nat → Option Value}
/-- x.f = append(x.f, ..). -/
theorem BI.push (h : BI W0 W p N vv vv n xs (fun o => vv (6 + o)) gT gL gC) (hk : Below W.heap.size W W6) (i : Nat) (hi : i < 6) {g n' cap : Nat} {xs' : List Value} (hown : W'.ownsRow p.base (re i) (rs i) (.slice (some ⟨g, 0, none⟩) n' cap) n' xs')
    (hg : W6.grownBy W' (vv i).ownBlock) (hat : (vv i).ownBlock = some g ∨ g = W6.heap.size) :
    BI W0 (W'.setCell ⟨p.X, xo i, none⟩ (.slice (some ⟨g, 0, none⟩) n' cap)) p N (upd vv i (.slice (some ⟨g, 0, none⟩) n' cap)) (upd vv i (.slice (some ⟨g, 0, none⟩) n' cap)) (upd n i n') (upd xs i xs') (fun o => upd vv i (.slice (some ⟨g, 0, none⟩) n' cap) (6 + o)) gT gL gC := by
  have := ((h.keep hk).app i (by omega) hown hg hat).store i hi (.slice (some ⟨g, 0, none⟩) n' cap)
  have e : (fun o => upd vv i (.slice (some ⟨g, 0, none⟩) n' cap) (6 + o)) = fun o => vv (6 + o) := by
    funext o; simp only [upd]; rw [if_neg (by omega)]
  rw [e]; exact this
/-- What lies in the explorer after a row has grown. -/
theorem BI.far (h : BI W0 W p N xv v n xs m gT gL gC) (hk : Below W.heap.size W W6) (i : Nat) (hi : i < 9) (hg : W6.grownBy W' (v i).ownBlock) : ∀ k, k < p.base → W'.heap[k]? = W.heap[k]? := by
  intro k hk'
  have hs := h.hb
  have := hk.size
  rw [hg.block k (by omega) (fun e => by have := ((h.own i hi).lt k e.symm).1; omega), hk.block k (by omega)]
theorem BI.shape (h : BI W0 W p N xv v n xs m gT gL gC) (i : Nat) (hi : i < 9) : ∃ ao cap, v i = .slice ao (n i) cap := by
  rcases (h.own i hi).2 with ⟨h1, h2⟩ | ⟨g, cap, cur, h1, _⟩
  · exact ⟨none, 0, by rw [h1, h2]⟩
  · exact ⟨_, _, h1⟩

/-- A box beside the rows. -/
structure BE (W : World) (base : Nat) (v : Nat → Value) (EB e : Nat) (g : Nat → Option Value) : Prop where
  row : RowP W EB e g
  ne : ∀ i, i < 9 → (v i).ownBlock ≠ some EB
  ge : base ≤ EB
theorem BE.new (h : BI W0 W p N xv v n xs m gT gL gC) (cs : Array Value) (e : Nat) : BE (W.alloc (.cells cs e)) p.base v W.heap.size e (fun o => cs[o]?) :=
  ⟨⟨cs, heap_alloc_new _ _, fun _ _ h => h⟩, fun i hi e => by have := ((h.own i hi).lt _ e).2; omega, h.hb⟩
variable {base EB e : Nat} {ge : Nat → Option Value}
theorem BE.keep (h : BE W base v EB e ge) (hb : Below W.heap.size W W') : BE W' base v EB e ge := ⟨h.row.blk (hb.block _ h.row.lt), h.ne, h.ge⟩
theorem BE.far (h : BE W base v EB e ge) {b : Nat} (hb : b < base) (hk : ∀ k, k ≠ b → W'.heap[k]? = W.heap[k]?) : BE W' base v EB e ge := ⟨h.row.blk (hk _ (by have := h.ge; omega)), h.ne, h.ge⟩
theorem BE.set (h : BE W base v EB e ge) {b : Nat} (hb : b < base) (o : Nat) (u : Value) : BE (W.setCell ⟨b, o, none⟩ u) base v EB e ge := h.far hb (fun k hk => heap_setCell_other _ _ k _ (by simpa using hk))
theorem BE.app (h : BE W base v EB e ge) (i : Nat) (hi : i < 9) {g n' cap : Nat} (hg : W.grownBy W' (v i).ownBlock) (hat : (v i).ownBlock = some g ∨ g = W.heap.size) : BE W' base (upd v i (.slice (some ⟨g, 0, none⟩) n' cap)) EB e ge := by
  have hl := h.row.lt
  refine ⟨h.row.blk (hg.block _ hl (fun e => h.ne i hi e.symm)), fun j hj => ?_, h.ge⟩
  by_cases e1 : j = i
  · subst e1
    simp only [upd_same]
    intro e2
    injection e2 with e2
    dsimp only at e2
    rcases hat with h1 | h1
    · exact h.ne j hj (by rw [h1, e2])
    · omega
  · simp only [upd, if_neg e1]; exact h.ne j hj
theorem BE.push (h : BE W base v EB e ge) (hk : Below W.heap.size W W6) (i : Nat) (hi : i < 9) {g n' cap : Nat} (hg : W6.grownBy W' (v i).ownBlock) (hat : (v i).ownBlock = some g ∨ g = W6.heap.size) {b : Nat} (hb : b < base) (o : Nat) (u : Value) : BE (W'.setCell ⟨b, o, none⟩ u) base (upd v i (.slice (some ⟨g, 0, none⟩) n' cap)) EB e ge :=
  ((h.keep hk).app i hi hg hat).set hb o u
end
end Go.Proofs.Ybulkbxvu
