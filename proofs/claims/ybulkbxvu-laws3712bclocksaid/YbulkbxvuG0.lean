/-
  The explorer's map from an object to a list of events: three keys.
-/
import Derived.Test.YbulkbxvuF2
import Derived.DeepKeys4
import Derived.WideKeyEntry
namespace Go.Proofs.Ybulkbxvu
open Go.RowKit Go.MapKept Go.ChangeMaps
set_option linter.unusedVariables false
set_option maxRecDepth 100000

abbrev okey (o : Nat) : Value := .agg #[.int .u8 (objK o), .int .u32 (objI o), .int .u32 0]
theorem okey_inj {a b : Nat} (ha : a < 3) (hb : b < 3) (h : okey a = okey b) : a = b := by
  simp only [okey, Value.agg.injEq, Array.mk.injEq, List.cons.injEq, Value.int.injEq, true_and, and_true] at h
  obtain ⟨h1, h2⟩ := h
  match a, b, ha, hb with
  | 0, 0, _, _ => rfl
  | 0, 1, _, _ => exact absurd h2 (by decide)
  | 0, 2, _, _ => exact absurd h1 (by decide)
  | 1, 0, _, _ => exact absurd h2 (by decide)
  | 1, 1, _, _ => rfl
  | 1, 2, _, _ => exact absurd h1 (by decide)
  | 2, 0, _, _ => exact absurd h1 (by decide)
  | 2, 1, _, _ => exact absurd h1 (by decide)
  | 2, 2, _, _ => rfl

theorem Yba.laidOut' : laidOutB Yba.prog = true := by kernel_rfl
theorem Yba.row70 : 70 < Yba.prog.types.size := of_decide_eq_true (by kernel_rfl)
theorem Yba.law70 : WideMaps.KeyLaw Yba.prog 70 := deep_law_laid Yba.laidOut' (m := 2) (by omega) Yba.row70 (by kernel_rfl) (by kernel_rfl)
theorem Yba.key70 (o : Nat) (ho : o < 3) : ∃ l, keyOf Yba.prog 70 (okey o) = some l := by
  match o, ho with
  | 0, _ => exact Option.isSome_iff_exists.1 (by kernel_rfl)
  | 1, _ => exact Option.isSome_iff_exists.1 (by kernel_rfl)
  | 2, _ => exact Option.isSome_iff_exists.1 (by kernel_rfl)
theorem Yba.zero28 (w : World) : (zeroValue 28).run Yba.prog w = .ok (.slice none 0 0) w := by kernel_rfl

/-- The entries hold f. -/
structure KE (es : Array MapEntry) (clock : Nat) (f : Nat → Value) : Prop where
  ent : ∀ x ∈ es.toList, ∃ o, o < 3 ∧ x.key = okey o ∧ x.val = f o
  non : ∀ o, o < 3 → (∀ x ∈ es.toList, x.key ≠ okey o) → f o = .slice none 0 0
  st : Stamped es clock
theorem KE.keys {es : Array MapEntry} {clock : Nat} {f : Nat → Value} (h : KE es clock f) : ∀ e ∈ es.toList, ∃ l, keyOf Yba.prog 70 e.key = some l := fun e he => by
  obtain ⟨o, h1, h2, _⟩ := h.ent e he
  rw [h2]; exact Yba.key70 o h1

/-- Block M is the map. -/
def MapR (W : World) (M : Nat) (f : Nat → Value) : Prop := ∃ es clock, W.heap[M]? = some (.map es clock) ∧ KE es clock f
theorem MapR.blk {W W' : World} {M : Nat} {f : Nat → Value} (h : MapR W M f) (hb : W'.heap[M]? = W.heap[M]?) : MapR W' M f := by
  obtain ⟨es, clock, h1, h2⟩ := h
  exact ⟨es, clock, hb.trans h1, h2⟩
theorem MapR.lt {W : World} {M : Nat} {f : Nat → Value} (h : MapR W M f) : M < W.heap.size := by
  obtain ⟨es, clock, h1, h2⟩ := h
  exact (Array.getElem?_eq_some_iff.1 h1).1

theorem MapR.look {W : World} {M : Nat} {f : Nat → Value} (h : MapR W M f) (o : Nat) (ho : o < 3) : (Instr.lookup 58 (.map (some M)) (okey o) false).run Yba.prog W = .ok (f o) W := by
  obtain ⟨es, clock, hb, hk⟩ := h
  obtain ⟨l, hl⟩ := Yba.key70 o ho
  rcases Yba.law70.find W hl es.toList hk.keys with ⟨h1, h2⟩ | ⟨j, e0, h1, h2, h3⟩
  · rw [hk.non o ho h2]
    simp [Instr.lookup, run_underlying Yba.underlying58, MapKept.run_getObj_map hb, Yba.law70.check W _ hl, h1, Result.andThen]
  · obtain ⟨o', h4, h5, h6⟩ := hk.ent e0 (List.mem_of_getElem? h2)
    have : o' = o := okey_inj h4 ho (h5.symm.trans h3)
    subst this
    simp [Instr.lookup, run_underlying Yba.underlying58, MapKept.run_getObj_map hb, Yba.law70.check W _ hl, h1, h6, Result.andThen]

theorem mem_mod {es : Array MapEntry} {j : Nat} {e0 : MapEntry} (h2 : es.toList[j]? = some e0) (v : Value) : (es.modify j fun e => { e with val := v }).toList = es.toList.set j { e0 with val := v } := by
  rw [Array.toList_modify, modify_eq_set _ _ _ _ h2]
theorem map_set_same {α β : Type} (g : α → β) : ∀ (l : List α) (j : Nat) (a b : α), l[j]? = some a → g b = g a → (l.set j b).map g = l.map g
  | [], _, _, _, h, _ => by simp at h
  | x :: r, 0, a, b, h, e => by simp at h; subst h; simp [e]
  | x :: r, j + 1, a, b, h, e => by simp at h; simp [map_set_same g r j a b h e]

/-- m[k] = append(m[k], ..): the entry, then the store. -/
theorem KE.entry {es : Array MapEntry} {clock : Nat} {f : Nat → Value} (h : KE es clock f) (o : Nat) (ho : o < 3) :
    ∃ (st : Nat) (es1 : Array MapEntry) (clock1 : Nat),
      (∀ (W : World) (M : Nat), W.heap[M]? = some (.map es clock) → (Instr.mapEntry 58 (.map (some M)) (okey o)).run Yba.prog W = .ok (.tuple #[f o, goInt st]) (setBlock W M (.map es1 clock1))) ∧
      ∀ (v : Value), ∃ es2 clock2, KE es2 clock2 (fun x => if x = o then v else f x) ∧
        ∀ (w2 : World) (M : Nat), w2.heap[M]? = some (.map es1 clock1) → (Instr.entryStore 58 (.map (some M)) (goInt st) v).run Yba.prog w2 = .ok () (setBlock w2 M (.map es2 clock2)) := by
  obtain ⟨l, hl⟩ := Yba.key70 o ho
  obtain ⟨s1, s2, s3⟩ := h.st
  have w0 : World := default
  rcases Yba.law70.find w0 hl es.toList h.keys with ⟨h1, h2⟩ | ⟨j, e0, h1, h2, h3⟩
  · have hfo := h.non o ho h2
    refine ⟨clock, es.push ⟨okey o, .slice none 0 0, clock⟩, clock + 1, ?_, fun v => ⟨es.push ⟨okey o, v, clock⟩, clock + 1, ?_, ?_⟩⟩
    · intro W M hb
      rcases Yba.law70.find W hl es.toList h.keys with ⟨h1', _⟩ | ⟨j, e0, h1', h2', h3'⟩
      · rw [hfo]
        simp [Instr.mapEntry, run_underlying Yba.underlying58, MapKept.run_getObj_map hb, Yba.law70.check W false hl, h1', MapKept.run_setObj_map _ hb, Result.andThen, setBlock]
      · exact absurd h3' (h2 e0 (List.mem_of_getElem? h2'))
    · refine ⟨?_, ?_, ?_, ?_, ?_⟩
      · intro x hx
        simp only [Array.toList_push, List.mem_append, List.mem_singleton] at hx
        rcases hx with hx | rfl
        · obtain ⟨o', g1, g2, g3⟩ := h.ent x hx
          refine ⟨o', g1, g2, ?_⟩
          rw [if_neg (fun e => h2 x hx (by rw [g2, e]))]; exact g3
        · exact ⟨o, ho, rfl, by simp⟩
      · intro o' ho' hn
        by_cases e : o' = o
        · subst e; exact absurd rfl (hn ⟨okey o', v, clock⟩ (by simp))
        · simp only [if_neg e]
          exact h.non o' ho' (fun x hx => hn x (by simp only [Array.toList_push, List.mem_append]; exact .inl hx))
      · intro x hx
        simp only [Array.toList_push, List.mem_append, List.mem_singleton] at hx
        rcases hx with hx | rfl
        · have := s1 x hx; omega
        · show clock < clock + 1; omega
      · simp only [Array.toList_push, List.map_append, List.map_cons, List.map_nil]
        refine List.nodup_append.2 ⟨s2, by simp, fun a ha c hc e1 => ?_⟩
        simp only [List.mem_singleton] at hc
        obtain ⟨x, hx, rfl⟩ := List.mem_map.1 ha
        have := s1 x hx
        omega
      · simp only [Array.toList_push, List.map_append, List.map_cons, List.map_nil]
        refine List.nodup_append.2 ⟨s3, by simp, fun a ha c hc e1 => ?_⟩
        simp only [List.mem_singleton] at hc
        obtain ⟨x, hx, rfl⟩ := List.mem_map.1 ha
        exact h2 x hx (e1.trans hc)
    · intro w2 M hw2
      have hidx : (es.push ⟨okey o, .slice none 0 0, clock⟩).findIdx? (fun e => ((e.born : Nat) : Int) == ((clock : Nat) : Int)) = some es.size := by
        rw [WideElems.findIdx_arr]
        exact WideElems.findIdx_born (l := (es.push ⟨okey o, .slice none 0 0, clock⟩).toList) (j := es.size) (e0 := ⟨okey o, .slice none 0 0, clock⟩) (by
          simp only [Array.toList_push, List.map_append, List.map_cons, List.map_nil]
          refine List.nodup_append.2 ⟨s2, by simp, fun a ha c hc e1 => ?_⟩
          simp only [List.mem_singleton] at hc
          obtain ⟨x, hx, rfl⟩ := List.mem_map.1 ha
          have := s1 x hx
          omega) (by simp)
      have hmod : (es.push ⟨okey o, .slice none 0 0, clock⟩).modify es.size (fun e => { e with val := v }) = es.push ⟨okey o, v, clock⟩ := by
        apply Array.ext'
        rw [Array.toList_modify, Array.toList_push, Array.toList_push, ← Array.length_toList, WideElems.modify_last]
      simp [Instr.entryStore, MapKept.run_getObj_map hw2, asInt, asIntOf, goInt, hidx, hmod, MapKept.run_setObj_map _ hw2, Result.andThen, setBlock]
  · have hj : es[j]? = some e0 := by simpa using h2
    have hsame : es.modify j (fun e => { e with key := okey o }) = es := by
      apply Array.ext'
      rw [Array.toList_modify, modify_eq_set _ _ _ _ h2]
      have : ({ e0 with key := okey o } : MapEntry) = e0 := by rw [← h3]
      rw [this]
      exact WideElems.set_self _ _ _ h2
    have hfo : e0.val = f o := by
      obtain ⟨o', g1, g2, g3⟩ := h.ent e0 (List.mem_of_getElem? h2)
      rw [g3, okey_inj g1 ho (g2.symm.trans h3)]
    have hui : ∀ i x, es.toList[i]? = some x → x.key = okey o → i = j := by
      intro i x hi hk
      have hp := List.pairwise_iff_getElem.1 s3
      obtain ⟨hi1, hi2⟩ := List.getElem?_eq_some_iff.1 hi
      obtain ⟨hj1, hj2⟩ := List.getElem?_eq_some_iff.1 h2
      rcases Nat.lt_trichotomy i j with hlt | heq | hgt
      · exfalso
        refine hp i j (by simpa using hi1) (by simpa using hj1) hlt ?_
        rw [List.getElem_map, List.getElem_map, hi2, hj2, hk, h3]
      · exact heq
      · exfalso
        refine hp j i (by simpa using hj1) (by simpa using hi1) hgt ?_
        rw [List.getElem_map, List.getElem_map, hi2, hj2, hk, h3]
    have huniq : ∀ x ∈ es.toList, x.key = okey o → x = e0 := by
      intro x hx hk
      obtain ⟨i, hi⟩ := List.getElem?_of_mem hx
      have := hui i x hi hk
      subst this
      rw [h2] at hi; injection hi with hi; exact hi.symm
    refine ⟨e0.born, es, clock, ?_, fun v => ⟨es.modify j (fun e => { e with val := v }), clock, ?_, ?_⟩⟩
    · intro W M hb
      rcases Yba.law70.find W hl es.toList h.keys with ⟨h1', h2'⟩ | ⟨j', e0', h1', h2', h3'⟩
      · exact absurd h3 (h2' e0 (List.mem_of_getElem? h2))
      · have he : e0' = e0 := huniq e0' (List.mem_of_getElem? h2') h3'
        subst he
        have hj' : es[j']? = some e0' := by simpa using h2'
        have hsame' : es.modify j' (fun e => { e with key := okey o }) = es := by
          apply Array.ext'
          rw [Array.toList_modify, modify_eq_set _ _ _ _ h2']
          have : ({ e0' with key := okey o } : MapEntry) = e0' := by rw [← h3]
          rw [this]
          exact WideElems.set_self _ _ _ h2'
        rw [← hfo]
        simp [Instr.mapEntry, run_underlying Yba.underlying58, MapKept.run_getObj_map hb, Yba.law70.check W false hl, h1', hj', h3, Yba.law70.stays W hl, hsame', MapKept.run_setObj_map _ hb, Result.andThen, setBlock]
    · refine ⟨?_, ?_, ?_, ?_, ?_⟩
      · intro x hx
        rw [mem_mod h2] at hx
        obtain ⟨i, hi⟩ := List.getElem?_of_mem hx
        by_cases e2 : i = j
        · subst e2
          rw [List.getElem?_set_self (List.getElem?_eq_some_iff.1 h2).1] at hi
          injection hi with hi
          subst hi
          exact ⟨o, ho, h3, by simp⟩
        · rw [List.getElem?_set_ne (Ne.symm e2)] at hi
          obtain ⟨o', g1, g2, g3⟩ := h.ent x (List.mem_of_getElem? hi)
          refine ⟨o', g1, g2, ?_⟩
          rw [if_neg (fun e => e2 (hui i x hi (by rw [g2, e])))]; exact g3
      · intro o' ho' hn
        by_cases e : o' = o
        · subst e
          exact absurd h3 (hn { e0 with val := v } (by rw [mem_mod h2]; exact List.mem_set (List.getElem?_eq_some_iff.1 h2).1 _))
        · simp only [if_neg e]
          refine h.non o' ho' (fun x hx hk => ?_)
          obtain ⟨i, hi⟩ := List.getElem?_of_mem hx
          have hij : i ≠ j := by
            intro e2; subst e2; rw [h2] at hi; injection hi with hi; subst hi
            exact e (okey_inj ho' ho (hk.symm.trans h3))
          exact hn x (by rw [mem_mod h2]; exact List.mem_of_getElem? (i := i) (by rw [List.getElem?_set_ne (Ne.symm hij)]; exact hi)) hk
      · intro x hx
        rw [mem_mod h2] at hx
        rcases List.mem_or_eq_of_mem_set hx with hx' | rfl
        · exact s1 x hx'
        · exact s1 e0 (List.mem_of_getElem? h2)
      · rw [mem_mod h2, map_set_same (fun x : MapEntry => x.born) _ j e0 { e0 with val := v } h2 rfl]; exact s2
      · rw [mem_mod h2, map_set_same (fun x : MapEntry => x.key) _ j e0 { e0 with val := v } h2 rfl]; exact s3
    · intro w2 M hw2
      have hidx : es.findIdx? (fun e => ((e.born : Nat) : Int) == ((e0.born : Nat) : Int)) = some j := by
        rw [WideElems.findIdx_arr]
        exact WideElems.findIdx_born s2 h2
      simp [Instr.entryStore, MapKept.run_getObj_map hw2, asInt, asIntOf, goInt, hidx, MapKept.run_setObj_map _ hw2, Result.andThen, setBlock]
end Go.Proofs.Ybulkbxvu
