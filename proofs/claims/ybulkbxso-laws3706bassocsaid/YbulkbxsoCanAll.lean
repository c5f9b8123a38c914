/-
  eisen's Canonical, all ways: it takes the way kP and returns u_k·x and u_k.
-/
import Derived.Test.YbulkbxsoCan0
import Derived.Test.YbulkbxsoCan3
import Derived.Test.YbulkbxsoCan4
import Derived.Test.YbulkbxsoCan5
import Derived.Test.YbulkbxsoCan6
import Derived.Test.YbulkbxsoPlain
namespace Go.Proofs.Ybulkbxso
open Go.RowKit
set_option linter.unusedVariables false

theorem sgn_up {v : Int} (h : 0 ≤ v) : sgn v = 0 ∨ sgn v = 1 := by
  rcases Int.lt_or_eq_of_le h with h | rfl
  · exact .inr (sgn_pos h)
  · exact .inl rfl
theorem sgn_dn {v : Int} (h : v ≤ 0) : sgn v = 0 ∨ sgn v = -1 := by
  rcases Int.lt_or_eq_of_le h with h | rfl
  · exact .inr (sgn_neg h)
  · exact .inl rfl

theorem canon_any (x1 x2 : Option Addr) (a b : Int) (w : World) (h : IntV w (.agg #[.pointer x1, .pointer x2]) a b) (hs : a.natAbs + b.natAbs < 18446744073709551616) :
    Calls Yba.prog 9 #[.agg #[], .agg #[.pointer x1, .pointer x2]] w fun e w' => CanOut w (mulP (kP a b) a b).1 (mulP (kP a b) a b).2 (unitP (kP a b)).1 (unitP (kP a b)).2 e w' := by
  have hc := h.cases
  rcases kP_way a b with ⟨e, h'⟩ | ⟨e, h1, h2⟩ | ⟨e, h1, h2⟩ | ⟨e, h1, h2⟩ | ⟨e, h1, h2⟩ | ⟨e, h1, h2⟩ <;> rw [e]
  · rcases h' with ⟨rfl, rfl⟩ | ⟨h1, h2⟩
    · exact can0_walk x1 x2 w h
    · rcases hc with ⟨rfl, rfl, rfl, rfl⟩ | ⟨p, q, rfl, rfl, -, -, -⟩
      · exact can0_walk none none w h
      · exact can1_walk p q a b w h h1 h2 _ rfl (sgn_up h1)
  all_goals
    rcases hc with ⟨rfl, rfl, rfl, rfl⟩ | ⟨p, q, rfl, rfl, -, -, -⟩
    · exact absurd h1 (by omega)
  · exact can2 p q a b w h hs h1 h2
  · exact can3_walk p q a b w h hs _ rfl (sgn_dn h1) h2 (by omega)
  · exact can4_walk p q a b w h hs h1 h2
  · exact can5_walk p q a b w h hs h1 h2 _ rfl (sgn_dn h2)
  · exact can6_walk p q a b w h hs h2 h1 _ rfl (sgn_up h2)
end Go.Proofs.Ybulkbxso
