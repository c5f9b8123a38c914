/-
  zzs3712bbuild at the chain: the objects' lists in the map.
-/
import Derived.Test.YbulkbxvuG35
namespace Go.Proofs.Ybulkbxvu
open Go.RowKit ChangeMaps
set_option linter.unusedVariables false

theorem setBlock_same (w : World) (b : Nat) (o : Obj) (h : b < w.heap.size) : (setBlock w b o).heap[b]? = some o := by
  simp only [setBlock, Array.getElem?_setIfInBounds, if_pos h, if_true]
/-- An operation that yields. -/
theorem wp_of_run {P : Program} {o : Oper} {a : Act} {w w' : World} {K : Act → World → Prop} {Q : Exit → Act → World → Prop} {v : Value} (h : (execOp a.eval o).run P w = .ok (.value v) w') (hK : K (a.put o.dst v) w') : Oper.wp P o a w K Q := by
  unfold Oper.wp
  rw [h]
  exact hK
/-- append to the path. -/
theorem wp_app0 (w : World) {o : Oper} {a : Act} {K : Act → World → Prop} {Q : Exit → Act → World → Prop} (s x : Operand)
    (ho : o.op = .call { callee := .builtin .append, args := #[s, x], argTypes := #[55, 55] })
    (base : Nat) (v : Value) (n : Nat) (xs : List Value) (hs : a.eval s = v) (hown : w.ownsRow base 53 9 v n xs) (n7 : Int) (b c : Nat) (hx : a.eval x = .slice (some ⟨b, 0, none⟩) 1 c)
    (hb : w.heap[b]? = some (.cells #[.int .i32 0, .int .i32 0, .int .i32 0, .int .i32 0, .int .i32 0, .int .i32 n7, .bool false, .slice none 0 0, .pointer none] 53 (0, 0))) (hn : n ≤ 4096) (hbase : base ≤ w.heap.size)
    (h : ∀ g cap w', w'.ownsRow base 53 9 (.slice (some ⟨g, 0, none⟩) (n + 1) cap) (n + 1) (xs ++ [.int .i32 0, .int .i32 0, .int .i32 0, .int .i32 0, .int .i32 0, .int .i32 n7, .bool false, .slice none 0 0, .pointer none]) → w.grownBy w' v.ownBlock → (v.ownBlock = some g ∨ g = w.heap.size) → g < w'.heap.size → K (a.put o.dst (.slice (some ⟨g, 0, none⟩) (n + 1) cap)) w') :
    Oper.wp Yba.prog o a w K Q :=
  wp_appO 0 55 64 _ Yba.underlying55 info53 (by kernel_rfl) (by decide) (by decide) w s x ho base v n xs hs hown _ b c hx hb rfl (by simp [Value.oneCell']) hn hbase h
/-- The node's slice literal. -/
theorem run_node (n7 : Int) (w : World) : (Instr.buildSlice 55 1 #[(0, .agg #[.int .i32 0, .int .i32 0, .int .i32 0, .int .i32 0, .int .i32 0, .int .i32 n7, .bool false, .slice none 0 0, .pointer none])]).run Yba.prog w.drew = .ok (.slice (some ⟨w.heap.size, 0, none⟩) 1 1) (w.alloc (.cells #[.int .i32 0, .int .i32 0, .int .i32 0, .int .i32 0, .int .i32 0, .int .i32 n7, .bool false, .slice none 0 0, .pointer none] 53)).drew := by kernel_rfl
theorem re6 (o : Nat) : re (6 + o) = 21 := by rw [Nat.add_comm]; rfl
theorem rs6 (o : Nat) : rs (6 + o) = 1 := by rw [Nat.add_comm]; rfl
theorem nS_6 (S : Sg) (o : Nat) : nS S (6 + o) = (S.ob o).length := by rw [Nat.add_comm]; rfl
theorem xS_6 (E : EvD) (S : Sg) (o : Nat) : xS E S (6 + o) = (S.ob o).map (fun k : Nat => .int .i32 (k : Int)) := by rw [Nat.add_comm]; rfl
theorem xg_cong (M : Nat) (N : Int) (xv : Nat → Value) (o : Nat) (a : Value) : xg M N (upd xv (6 + o) a) = xg M N xv := by
  have e : ∀ i, i < 6 → upd xv (6 + o) a i = xv i := fun i hi => by simp only [upd]; rw [if_neg (by omega)]
  funext x
  unfold xg
  split <;> first | rfl | (rw [e _ (by decide)])
theorem own_setBlock' {w w' : World} {base e s M n : Nat} {v : Value} {xs : List Value} {o : Obj} (hw : w' = setBlock w M o) (h : w.ownsRow base e s v n xs) (hM : M < base) : w'.ownsRow base e s v n xs := by
  subst hw
  refine h.kept (row := some M) ⟨rfl, rfl, rfl, by simp [setBlock], fun k _ hne => by simp [setBlock, Ne.symm (fun e => hne (by rw [e]) : k ≠ M)]⟩ ?_
  cases hv : v.ownBlock with
  | none => exact .inl rfl
  | some c => exact .inr (fun e => by injection e with e; have := (h.lt c hv).1; omega)
section
variable {W0 W W6 W7 W8 : World} {p : Pc} {E : EvD} {S : Sg} {ne : Nat} {la co : Int} {vv : Nat → Value} {g cap : Nat}
/-- The row of object o, as the walk wants it. -/
theorem BS.ownO (h : BS W0 W p E S ne la co vv vv (fun o => vv (6 + o))) (o : Nat) (ho : o < 3) : W.ownsRow p.base 21 1 (vv (6 + o)) (S.ob o).length ((S.ob o).map (fun k : Nat => .int .i32 (k : Int))) := by
  have := BI.own h (6 + o) (by omega)
  rw [re6, rs6, nS_6, xS_6] at this
  exact this
theorem BS.pushO (h : BS W0 W p E S ne la co vv vv (fun o => vv (6 + o))) (hk : Below W.heap.size W W6) (o k : Nat) (ho : o < 3) (es1 es2 : Array MapEntry) (c1 c2 : Nat)
    (h7 : W7 = setBlock W6 p.M (.map es1 c1))
    (hown : W8.ownsRow p.base 21 1 (.slice (some ⟨g, 0, none⟩) ((S.ob o).length + 1) cap) ((S.ob o).length + 1) ((S.ob o).map (fun k : Nat => .int .i32 (k : Int)) ++ [.int .i32 (k : Int)]))
    (hg : W7.grownBy W8 (vv (6 + o)).ownBlock) (hat : (vv (6 + o)).ownBlock = some g ∨ g = W7.heap.size)
    (hke : KE es2 c2 (fun x => if x = o then .slice (some ⟨g, 0, none⟩) ((S.ob o).length + 1) cap else vv (6 + x))) :
    ∃ v', BS W0 (setBlock W8 p.M (.map es2 c2)) p E { S with ob := upd S.ob o (S.ob o ++ [k]) } ne la co v' v' (fun o => v' (6 + o)) ∧ Bxs W (setBlock W8 p.M (.map es2 c2)) p.base vv v' := by
  have h6 : BS W0 W6 p E S ne la co vv vv (fun o => vv (6 + o)) := BI.keep h hk
  obtain ⟨es, c, hM, hKE⟩ := h6.mp
  have hMl := h6.mp.lt
  have hMb := h6.hi.2.1
  have s7 : W7.heap.size = W6.heap.size := by rw [h7]; simp [setBlock]
  have b7 : ∀ k, k ≠ p.M → W7.heap[k]? = W6.heap[k]? := fun k hk' => by rw [h7]; simp [setBlock, Ne.symm hk']
  -- the world as though the map had not been touched
  obtain ⟨V, hV⟩ : ∃ V, setBlock W8 p.M (.map es c) = V := ⟨_, rfl⟩
  have sV : V.heap.size = W8.heap.size := by rw [← hV]; simp [setBlock]
  have bV : ∀ k, k ≠ p.M → V.heap[k]? = W8.heap[k]? := fun k hk' => by rw [← hV]; simp [setBlock, Ne.symm hk']
  have s8 := hg.size
  have hgM : g ≠ p.M := by have := (hown.lt g rfl).1; omega
  have gV : W6.grownBy V (vv (6 + o)).ownBlock := by
    refine ⟨?_, ?_, ?_, by omega, fun k hk' hne => ?_⟩
    · rw [← hV]; show W8.os = _; rw [hg.os, h7]; rfl
    · rw [← hV]; show W8.tape = _; rw [hg.tape, h7]; rfl
    · rw [← hV]; show W8.output = _; rw [hg.output, h7]; rfl
    · by_cases e : k = p.M
      · subst e
        rw [← hV, hM]
        exact setBlock_same _ _ _ (by omega)
      · rw [bV k e, hg.block k (by omega) hne, b7 k e]
  have oV : V.ownsRow p.base (re (6 + o)) (rs (6 + o)) (.slice (some ⟨g, 0, none⟩) ((S.ob o).length + 1) cap) ((S.ob o).length + 1) ((S.ob o).map (fun k : Nat => .int .i32 (k : Int)) ++ [.int .i32 (k : Int)]) := by
    rw [re6, rs6]
    refine hown.kept (row := some p.M) ⟨?_, ?_, ?_, by omega, fun k _ hne => bV k (fun e => hne (by rw [e]))⟩ (.inr (by simp [Value.ownBlock]; exact hgM))
    · rw [← hV]; rfl
    · rw [← hV]; rfl
    · rw [← hV]; rfl
  have hB := BI.app h6 (6 + o) (by omega) oV gV (by rw [← s7]; exact hat)
  have hsb : setBlock V p.M (.map es2 c2) = setBlock W8 p.M (.map es2 c2) := by rw [← hV]; simp [setBlock]
  have hm : MapR (setBlock V p.M (.map es2 c2)) p.M (fun o' => upd vv (6 + o) (.slice (some ⟨g, 0, none⟩) ((S.ob o).length + 1) cap) (6 + o')) := by
    refine ⟨es2, c2, setBlock_same _ _ _ (by omega), ?_⟩
    have e : (fun o' => upd vv (6 + o) (.slice (some ⟨g, 0, none⟩) ((S.ob o).length + 1) cap) (6 + o')) = (fun x => if x = o then .slice (some ⟨g, 0, none⟩) ((S.ob o).length + 1) cap else vv (6 + x)) := by
      funext x
      by_cases e : x = o
      · subst e; simp
      · simp only [upd]; rw [if_neg (by omega), if_neg e]
    rw [e]; exact hke
  have hB2 := hB.setM (.map es2 c2) hm
  rw [hsb] at hB2
  refine ⟨upd vv (6 + o) (.slice (some ⟨g, 0, none⟩) ((S.ob o).length + 1) cap), ?_, ?_⟩
  · unfold BS
    rw [← nS6 S o k, ← xS6 E S o k]
    refine ⟨?_, hB2.pT, hB2.pL, hB2.pC, hB2.mp, hB2.own, hB2.ap, hB2.fr, hB2.hb, hB2.lo, hB2.hi, hB2.d1, hB2.d2, hB2.d3⟩
    rw [xg_cong]; exact hB2.pX
  · intro EB e ge hb
    have := (hb.keep hk).app (6 + o) (by omega) (n' := (S.ob o).length + 1) (cap := cap) gV (by rw [← s7]; exact hat)
    rw [← hsb]
    exact this.far hMb (fun k hk' => by simp [setBlock, Ne.symm hk'])
end
end Go.Proofs.Ybulkbxvu
