/-
  zzs3712bbuild at the chain: the stages of one event.
-/
import Derived.Test.YbulkbxvuG3
namespace Go.Proofs.Ybulkbxvu
open Go.RowKit
set_option linter.unusedVariables false

theorem info3 : (Yba.prog.info? 3).map (fun i => (i.zero, i.size, i.bytes)) = some (some (.int .i64 0), 1, 8) := by kernel_rfl
/-- The box of the event. -/
def evB (th : Nat) (E : EvD) (k : Nat) : Nat → Option Value := fun o => #[.int .u8 (th : Int), .int .u8 (E.ce 0 k : Int), .int .u8 (E.ce 1 k : Int), .int .u8 (E.ce 2 k : Int), .bool (E.en k), .bool (E.ru k), .int .i32 (E.ck 0 k), .int .i32 (E.ck 1 k), .int .i32 (E.ck 2 k)][o]?
/-- The stages. -/
def S1 (E : EvD) (k : Nat) : Sg := { kp := k, ke := k + 1, ck := ckL k, us := useL E k, gt := (useL E k).length, rn := rnL E k, ob := fun o => obL E o k }
def S2 (E : EvD) (k i : Nat) : Sg := { kp := k, ke := k + 1, ck := ckL k ++ ckC k i, us := useL E k, gt := (useL E k).length, rn := rnL E k, ob := fun o => obL E o k }
def S3 (E : EvD) (k o : Nat) : Sg := { kp := k, ke := k + 1, ck := ckL (k + 1), us := useL E k ++ chTo E k o, gt := (useL E k ++ chTo E k o).length, rn := rnL E k, ob := fun o' => if o' < o then obL E o' (k + 1) else obL E o' k }
def S4 (E : EvD) (k : Nat) : Sg := { kp := k, ke := k + 1, ck := ckL (k + 1), us := useL E (k + 1), gt := (useL E (k + 1)).length, rn := rnL E k, ob := fun o' => if o' < 3 then obL E o' (k + 1) else obL E o' k }
def S5 (E : EvD) (k : Nat) : Sg := { kp := k + 1, ke := k + 1, ck := ckL (k + 1), us := useL E (k + 1), gt := (useL E (k + 1)).length, rn := rnL E k, ob := fun o' => if o' < 3 then obL E o' (k + 1) else obL E o' k }
theorem S2_0 (E : EvD) (k : Nat) : S2 E k 0 = S1 E k := by simp [S2, S1, ckC]
theorem S2_1 (E : EvD) (k : Nat) : S2 E k 1 = { S2 E k 0 with ck := (S2 E k 0).ck ++ [.int .i32 ((k : Int) + 1)] } := by simp [S2, ckC]
theorem S2_2 (E : EvD) (k : Nat) : S2 E k 2 = { S2 E k 1 with ck := (S2 E k 1).ck ++ [.int .i32 0] } := by simp [S2, ckC]
theorem S3_0 (E : EvD) (k : Nat) : S3 E k 0 = S2 E k 2 := by simp [S3, S2, ckL, chTo]
/-- The use that object o's cell asks for. -/
def usO (E : EvD) (k o : Nat) : Use4 := ⟨objK o, objI o, 0, E.ce o k % 3 == 2⟩
def S3a (E : EvD) (k o : Nat) : Sg := { S3 E k o with us := (S3 E k o).us ++ [usO E k o] }
def S3b (E : EvD) (k o : Nat) : Sg := { S3a E k o with gt := (S3a E k o).gt + 1 }
theorem S3_same (E : EvD) (k o : Nat) (h : E.ce o k % 3 = 0) : S3 E k (o + 1) = S3 E k o := by
  have h1 : chTo E k (o + 1) = chTo E k o := by rw [chTo, if_pos h, List.append_nil]
  have h2 : (fun o' => if o' < o + 1 then obL E o' (k + 1) else obL E o' k) = (fun o' => if o' < o then obL E o' (k + 1) else obL E o' k) := by
    funext o'
    by_cases e : o' = o
    · subst e; rw [if_pos (by omega), if_neg (by omega), obL, if_pos h, List.append_nil]
    · by_cases e2 : o' < o
      · rw [if_pos (by omega), if_pos e2]
      · rw [if_neg (by omega), if_neg e2]
  unfold S3
  rw [h1, h2]
theorem S3_next (E : EvD) (k o : Nat) (h : E.ce o k % 3 ≠ 0) : S3 E k (o + 1) = { S3b E k o with ob := upd (S3b E k o).ob o ((S3b E k o).ob o ++ [k]) } := by
  have h1 : chTo E k (o + 1) = chTo E k o ++ [usO E k o] := by rw [chTo, if_neg h]; rfl
  have h2 : (fun o' => if o' < o + 1 then obL E o' (k + 1) else obL E o' k) = upd (S3b E k o).ob o ((S3b E k o).ob o ++ [k]) := by
    funext o'
    show _ = upd (fun o' => if o' < o then obL E o' (k + 1) else obL E o' k) o ((if o < o then obL E o (k + 1) else obL E o k) ++ [k]) o'
    by_cases e : o' = o
    · subst e; rw [upd_same, if_pos (by omega), if_neg (by omega), obL, if_neg h]
    · simp only [upd, if_neg e]
      by_cases e2 : o' < o
      · rw [if_pos (by omega), if_pos e2]
      · rw [if_neg (by omega), if_neg e2]
  unfold S3
  rw [h1, h2]
  simp [S3b, S3a, S3, List.append_assoc, Nat.add_assoc]
theorem S4_no (E : EvD) (k : Nat) (h : E.en k = false) : S4 E k = S3 E k 3 := by
  simp [S4, S3, useL, chunk, h]
def S4a (E : EvD) (k : Nat) : Sg := { S3 E k 3 with us := (S3 E k 3).us ++ [⟨7, 0, 0, true⟩] }
theorem S4_yes (E : EvD) (k : Nat) (h : E.en k = true) : S4 E k = { S4a E k with gt := (S4a E k).gt + 1 } := by
  simp [S4, S4a, S3, useL, chunk, h, List.append_assoc, Nat.add_assoc]
theorem S5_eq (E : EvD) (k : Nat) : S5 E k = { S4 E k with kp := (S4 E k).kp + 1 } := rfl
def S5a (E : EvD) (k : Nat) : Sg := { S5 E k with rn := (S5 E k).rn ++ [.int .i32 0] }
def S5b (E : EvD) (k : Nat) : Sg := { S5a E k with rn := (S5a E k).rn ++ [.int .i32 1] }
section
variable {W0 W W6 W' : World} {p : Pc} {E : EvD} {S : Sg} {ne : Nat} {la co : Int} {vv : Nat → Value} {g cap k : Nat}
theorem BS.cong {S' : Sg} (h : BS W0 W p E S ne la co vv vv (fun o => vv (6 + o))) (hn : ∀ i, i < 9 → nS S i = nS S' i) (hx : ∀ i, i < 9 → xS E S i = xS E S' i) : BS W0 W p E S' ne la co vv vv (fun o => vv (6 + o)) :=
  ⟨h.pX, h.pT, h.pL, h.pC, h.mp, fun i hi => by rw [← hn i hi, ← hx i hi]; exact h.own i hi, h.ap, h.fr, h.hb, h.lo, h.hi, h.d1, h.d2, h.d3⟩
/-- The boxes beside the rows stay. -/
def Bxs (W W' : World) (base : Nat) (v v' : Nat → Value) : Prop := ∀ EB e ge, BE W base v EB e ge → BE W' base v' EB e ge
theorem BS.push (h : BS W0 W p E S ne la co vv vv (fun o => vv (6 + o))) (hk : Below W.heap.size W W6) (i : Nat) (hi : i < 6) (S' : Sg) (cs : List Value) (hn : upd (nS S) i (nS S i + 1) = nS S') (hx : upd (xS E S) i (xS E S i ++ cs) = xS E S')
    (hown : W'.ownsRow p.base (re i) (rs i) (.slice (some ⟨g, 0, none⟩) (nS S i + 1) cap) (nS S i + 1) (xS E S i ++ cs)) (hg : W6.grownBy W' (vv i).ownBlock) (hat : (vv i).ownBlock = some g ∨ g = W6.heap.size) :
    ∃ v', BS W0 (W'.setCell ⟨p.X, xo i, none⟩ (.slice (some ⟨g, 0, none⟩) (nS S i + 1) cap)) p E S' ne la co v' v' (fun o => v' (6 + o)) ∧ Bxs W (W'.setCell ⟨p.X, xo i, none⟩ (.slice (some ⟨g, 0, none⟩) (nS S i + 1) cap)) p.base vv v' := by
  refine ⟨upd vv i (.slice (some ⟨g, 0, none⟩) (nS S i + 1) cap), ?_, fun EB e ge hb => hb.push hk i (by omega) hg hat h.hi.1 _ _⟩
  have := BI.push h hk i hi hown hg hat
  rw [hn, hx] at this
  exact this
theorem BS.cells (h : BS W0 W p E S ne la co vv vv (fun o => vv (6 + o))) (hk : Below W.heap.size W W6) (i : Nat) (hi : i < 6) (hg : W6.grownBy W' (vv i).ownBlock) : W'.cell? ⟨p.X, xo i, none⟩ = some (vv i) ∧ W'.frozen? ⟨p.X, xo i, none⟩ = false := by
  have hf := BI.far h hk i (by omega) hg p.X h.hi.1
  exact ⟨(World.cell?_of_block hf).trans (h.pX.cell (xg_xo _ _ _ i hi)), (World.frozen?_of_block hf).trans (h.pX.fz _)⟩
theorem BS.own (h : BS W0 W p E S ne la co vv vv (fun o => vv (6 + o))) (hk : Below W.heap.size W W6) (i : Nat) (hi : i < 9) : W6.ownsRow p.base (re i) (rs i) (vv i) (nS S i) (xS E S i) := (BI.keep h hk).own i hi
/-- The next event's start. -/
theorem BS.next (h : BS W0 W p E (if E.ru k then S5b E k else S5a E k) ne la co vv vv (fun o => vv (6 + o))) : BS W0 W p E (Sk E (k + 1)) ne la co vv vv (fun o => vv (6 + o)) := by
  refine h.cong (fun i hi => ?_) (fun i hi => ?_)
  · cases hr : E.ru k
    · match i, hi with
      | 0, _ | 1, _ | 2, _ | 3, _ | 4, _ | 6, _ | 7, _ | 8, _ => rfl
      | 5, _ => simp [nS, Sk, S5a, S5, rnL, hr]
    · match i, hi with
      | 0, _ | 1, _ | 2, _ | 3, _ | 4, _ | 6, _ | 7, _ | 8, _ => rfl
      | 5, _ => simp [nS, Sk, S5a, S5b, S5, rnL, hr]
  · cases hr : E.ru k
    · match i, hi with
      | 0, _ | 1, _ | 2, _ | 3, _ | 4, _ | 6, _ | 7, _ | 8, _ => rfl
      | 5, _ => simp [xS, Sk, S5a, S5, rnL, hr]
    · match i, hi with
      | 0, _ | 1, _ | 2, _ | 3, _ | 4, _ | 6, _ | 7, _ | 8, _ => rfl
      | 5, _ => simp [xS, Sk, S5a, S5b, S5, rnL, hr]
end
end Go.Proofs.Ybulkbxvu
