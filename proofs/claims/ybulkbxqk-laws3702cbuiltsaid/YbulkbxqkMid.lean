/-
  What the second half of LawS3702CBuilt holds at its cuts.
-/
import Derived.Test.YbulkbxqkEq
namespace Go.Proofs.Ybulkbxqk
open Go.RowKit

theorem ol_le (V : Nat) (rl : List Nat) (rn k : Nat) (hV : V < 2147483648) (hrn : (rn : Int) ≤ 64) (hk : k ≤ rn) (hl : rl.length = rn) : (flat (V :: arcs rl k)).length ≤ 330 := by
  have hfl := flat_le (V :: arcs rl k) (fun u hu => by
    rcases List.mem_cons.1 hu with rfl | hu
    · omega
    · have := arcs_lt rl k u hu; omega)
  rw [List.length_cons, arcs_length rl k (by omega)] at hfl
  omega

/-- The parameters' element, kept apart. -/
def PelOk (w : World) (hp : Bool) (PT : Int) (pl : List Int) (v : Value) : Prop :=
  (hp = false ∧ v = .slice none 0 0) ∨ (hp = true ∧ ∃ gp cp, v = .slice (some ⟨gp, 0, none⟩) (elem PT pl).length cp ∧ w.ownsRow 0 5 1 (.slice (some ⟨gp, 0, none⟩) (elem PT pl).length cp) (elem PT pl).length (B (elem PT pl)))

theorem PelOk.all {w w' : World} {hp : Bool} {PT : Int} {pl : List Int} {v : Value} (h : PelOk w hp PT pl v) (hb : Below w.heap.size w w') : PelOk w' hp PT pl v := by
  rcases h with h | ⟨h, gp, cp, hv, ho⟩
  · exact .inl h
  · exact .inr ⟨h, gp, cp, hv, own_all ho hb⟩

/-- What stays at hand to the end: the wanted arcs, the argument's fields, the parameters' element. -/
structure Hand (w wx : World) (vals : Array Value) (gw n cw : Nat) (ws : List Int) : Prop where
  want : wx.ownsRow 0 3 1 (.slice (some ⟨gw, 0, none⟩) n cw) n (I ws)
  box : Box wx w.heap.size vals
  bel : Below w.heap.size w wx
  lt : w.heap.size < wx.heap.size

theorem Hand.all {w wx w' : World} {vals : Array Value} {gw n cw : Nat} {ws : List Int} (h : Hand w wx vals gw n cw ws) (hb : Below wx.heap.size wx w') : Hand w w' vals gw n cw ws :=
  ⟨own_all h.want hb, h.box.below hb h.lt, h.bel.trans (hb.mono (Nat.le_of_lt h.lt)), Nat.lt_of_lt_of_le h.lt hb.size⟩

/-- algc and pel, where the two ways meet. -/
def AtAlg (w wx : World) (vals : Array Value) (gw n cw : Nat) (ws : List Int) (hp : Bool) (PT : Int) (pl A : List Int) (a p : Value) : Prop :=
  Hand w wx vals gw n cw ws ∧ PelOk wx hp PT pl p ∧ ∃ ga ca, a = .slice (some ⟨ga, 0, none⟩) (A ++ pelOf hp PT pl).length ca ∧ wx.ownsRow 0 5 1 (.slice (some ⟨ga, 0, none⟩) (A ++ pelOf hp PT pl).length ca) (A ++ pelOf hp PT pl).length (B (A ++ pelOf hp PT pl))

theorem pt_cell (wx : World) (pt : Nat) (j : Nat) (PT : Int) (hj : pt % 4 = j) (hPT : [(5 : Int), 2, 48, 4][j]? = some PT) :
    (wx.alloc (.cells #[.int .u8 5, .int .u8 2, .int .u8 48, .int .u8 4] 34)).cell? ⟨wx.heap.size, j, none⟩ = some (.int .u8 PT) := by
  have : j = 0 ∨ j = 1 ∨ j = 2 ∨ j = 3 := by omega
  rcases this with rfl | rfl | rfl | rfl <;> (simp at hPT; subst hPT; simp [go_sem])
theorem at_alg {w w5 w6 w7 : World} {vals : Array Value} {gw n cw : Nat} {ws : List Int} {PT : Int} {pl A : List Int} {ga ca gp cp g7 c7 : Nat} (hh : Hand w w5 vals gw n cw ws)
    (hoa : w5.ownsRow 0 5 1 (.slice (some ⟨ga, 0, none⟩) A.length ca) A.length (B A)) (hga : w.heap.size < ga)
    (hop : w6.ownsRow w5.heap.size 5 1 (.slice (some ⟨gp, 0, none⟩) (elem PT pl).length cp) (elem PT pl).length (B (elem PT pl))) (hb6 : Below w5.heap.size w5 w6)
    (ho7 : w7.ownsRow 0 5 1 (.slice (some ⟨g7, 0, none⟩) (A.length + (elem PT pl).length) c7) (A.length + (elem PT pl).length) (B (A ++ elem PT pl))) (hg7 : w6.grownBy w7 (some ga)) :
    AtAlg w w7 vals gw n cw ws true PT pl A (.slice (some ⟨g7, 0, none⟩) (A.length + (elem PT pl).length) c7) (.slice (some ⟨gp, 0, none⟩) (elem PT pl).length cp) := by
  have h6 := hh.all hb6
  have la := own_lt hoa
  have lp := own_lt hop
  have k7 : Below (w.heap.size + 1) w6 w7 := (Below.refl _ _).grown hg7 (by have := h6.lt; omega) (fun k hk => by cases hk; omega)
  refine ⟨⟨own_kept h6.want hg7 ?_, h6.box.below k7 (by omega), h6.bel.trans (k7.mono (by omega)), by have := k7.size; have := h6.lt; omega⟩, .inr ⟨rfl, gp, cp, rfl, ?_⟩, g7, c7, ?_, ?_⟩
  · exact own_ne h6.want (own_all hoa hb6) (by decide)
  · exact own_kept (own_base hop (Nat.zero_le _)) hg7 (by omega)
  · simp [pelOf]
  · simp only [pelOf, if_true]
    exact own_eq ho7 (by simp)
/-- The parameters as signatureAlgorithm hands them back. -/
def ParOk (w : World) (hp : Bool) (PT : Int) (pl : List Int) (v : Value) : Prop :=
  (hp = false ∧ v = .slice none 0 0) ∨ (hp = true ∧ ∃ b o c, v = .slice (some ⟨b, o, none⟩) (elem PT pl).length c ∧ Vw w b o (elem PT pl))

theorem pt_tag (j : Nat) (PT : Int) (h : [(5 : Int), 2, 48, 4][j]? = some PT) : Tag PT := by
  have hj : j < 4 := by have := (List.getElem?_eq_some_iff.1 h).1; simpa using this
  have : j = 0 ∨ j = 1 ∨ j = 2 ∨ j = 3 := by omega
  rcases this with rfl | rfl | rfl | rfl <;> (simp at h; subst h; exact ⟨by decide, by decide, by decide⟩)

theorem after_sig (M : Nat) (hM : M < 5) (z A1 V : Nat) (hz : z ≤ 2) (hV : V = 40 * z + A1) (h40 : z < 2 → A1 < 40) (hV31 : V < 2147483648) (rl : List Nat) (k : Nat) (hk : k = rl.length) (hp : Bool) (PT : Int) (hPT : Tag PT) (ol pl tl sl el AL BL : List Int)
    (hol : ol = flat (V :: arcs rl k)) (hAL : AL = elem (tOid M) ol ++ pelOf hp PT pl) (hBL : BL = elem (tTbs M) tl ++ elem (tAlg M) AL ++ elem 3 sl)
    (h1 : ol.length ≤ 330) (h2 : pl.length ≤ 1024) (h3 : tl.length ≤ 1024) (h4 : sl.length ≤ 1024) (h5 : el.length ≤ 1024)
    (w w8 w15 : World) (vals : Array Value) (gw cw : Nat) (hh : Hand w w8 vals gw (k + 2) cw (wants z A1 (arcs rl k))) (pel : Value) (hpel : PelOk w8 hp PT pl pel) (hb : Below w8.heap.size w8 w15)
    (base gh en ch : Nat) (hen : el.length = en) (hown : w15.ownsRow base 5 1 (.slice (some ⟨gh, 0, none⟩) ((elem (tOuter M) BL).length + en) ch) ((elem (tOuter M) BL).length + en) (B (elem (tOuter M) BL ++ el))) :
    Calls Yba.prog 11 #[.slice (some ⟨gh, 0, none⟩) ((elem (tOuter M) BL).length + en) ch] w15 fun e w' =>
      (M ≠ 0 ∧ ∃ p, e = .returned (.tuple #[.slice none 0 0, .slice none 0 0, .iface 58 (.pointer (some p))]) ∧ Below w.heap.size w w') ∨
      (M = 0 ∧ ∃ gi ci ps, e = .returned (.tuple #[.slice (some ⟨gi, 0, none⟩) (k + 2) ci, ps, .nilIface]) ∧ w'.ownsRow 0 3 1 (.slice (some ⟨gi, 0, none⟩) (k + 2) ci) (k + 2) (I (wants z A1 (arcs rl k))) ∧
        Hand w w' vals gw (k + 2) cw (wants z A1 (arcs rl k)) ∧ PelOk w' hp PT pl pel ∧ ParOk w' hp PT pl ps) := by
  have hal := arcs_length rl k (by omega)
  have hids := ids_wants z A1 V (arcs rl k) hz hV h40
  subst hBL hAL hol hen
  refine (sig_all M hM V (arcs rl k) hp PT hPT pl tl sl el ?_ h1 h2 h3 h4 h5 gh ch _ w15 (Vw.own hown) ?_ (own_cap hown)).mono ?_
  · intro x hx
    rcases List.mem_cons.1 hx with rfl | hx
    · exact hV31
    · exact arcs_lt rl k x hx
  · rw [List.length_append]
  · rintro e w' (⟨h0, p, he, hb'⟩ | ⟨h0, g, c, ps, he, ho, hb', hps⟩)
    · exact .inl ⟨h0, p, he, ((hh.all hb).all hb').bel⟩
    · rw [hal] at he ho
      rw [hids] at ho
      refine .inr ⟨h0, g, c, ps, he, own_base ho (Nat.zero_le _), (hh.all hb).all hb', (hpel.all hb).all hb', ?_⟩
      cases hp with
      | false =>
        rcases hps with ⟨_, h⟩ | ⟨h, _⟩
        · exact .inl ⟨rfl, h⟩
        · exact absurd rfl h
      | true =>
        rcases hps with ⟨h, _⟩ | ⟨_, b, o4, c4, h, hv⟩
        · exact absurd h (by simp [pelOf, elem])
        · exact .inr ⟨rfl, b, o4, c4, h, hv⟩
theorem equal_at (w : World) (b1 o1 c1 b2 o2 c2 : Nat) (l : List Int) (h1 : Vw w b1 o1 l) (h2 : Vw w b2 o2 l) (k : Nat) :
    Calls Yba.prog 12 #[.slice (some ⟨b1, o1, none⟩) l.length c1, .slice (some ⟨b2, o2, none⟩) l.length c2] (w.drewN k) fun e w' => e = .returned (.bool true) ∧ w' = w.drewN k := equal_any b1 o1 c1 b2 o2 c2 l (w.drewN k) h1 h2
theorem want_cells {w : World} {g n c g' c' : Nat} {l : List Int} (h : w.ownsRow 0 3 1 (.slice (some ⟨g, 0, none⟩) n c) n (I l)) (h' : w.ownsRow 0 3 1 (.slice (some ⟨g', 0, none⟩) n c') n (I l)) (j : Nat) (hj : (j : Int) < (n : Int)) :
    ∃ x, w.cell? ⟨g, j, none⟩ = some (.int .i64 x) ∧ w.cell? ⟨g', j, none⟩ = some (.int .i64 x) := by
  have hl := own_len h
  rw [I_length] at hl
  exact ⟨l.getD j 0, by rw [h.cellAt j (by omega), I_get l j (by omega)], by rw [h'.cellAt j (by omega), I_get l j (by omega)]⟩
end Go.Proofs.Ybulkbxqk
