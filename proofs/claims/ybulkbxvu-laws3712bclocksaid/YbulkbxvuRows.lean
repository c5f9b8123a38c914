/-
  No cell of these rows narrows 'for every input' (looked for: loops, veiled, ifaces, maps, wideKeys, modest, calm, conditions, laid).
  DERIVED. THE GIVEN ROWS OF THIS SEAT. 2 by the template 'for every input the law returns true; each argument reads behind the call as it read before'; 0 by the template 'total and deterministic' (their statements: YbulkbxvuTotals.lean).
  GIVEN WITH THE SEED: the statements are not yours to turn. If you find one false, say at which input.
  Laid BY PROGRAM, IN A SANDBOX (cutbox-rows.mjs): the forced cells as the released guide's own fill.sh prints them over the translation e779d8913d3502a1… (all of the seat's roots in one cut). By AI agents, Wed Nov 11 2026. No macro, syntax, notation, axiom, sorry.
-/
import Derived.Test.YbulkbxvuChecked
import GoSem.Claim
import GoSem.ClaimJoined
import GoSem.ClaimMapViews
import Derived.JoinedTies
import Derived.KernelRfl
namespace Go.Proofs.Ybulkbxvu
/- THE CELL 'sum', in the pinned program and in every row, IS THE sha256 OF THE DUMP (.gsa) THAT YbulkbxvuProg.lean LOADS. Nothing in Lean hashes anything: it is a label: what it is worth is what the hold of that sum in a sandbox is worth. -/
noncomputable def Yba.pinned : Pinned := { name := "ybulkbxvu", sum := "e779d8913d3502a1e6264cfb3711c6a19687dd31c8ca98e00954cae5048cec65", checked := Yba.checked }
namespace Rows
def none {H : Type} : Left H := { results := [], args := [] }

/-- 'explore.LawS3712BClock': WHATEVER THE INPUT: true; the input reads as it did. -/
def lawS3712BClockSpec : ChangeSpec := { name := "lawS3712BClock", fn := fun _ => fun
  | [d1, d2, d3, d4, d5] => { results := [.lit (.bool true)], args := [d1, d2, d3, d4, d5] }
  | _ => none }
def lawS3712BClockRow : OpenClaim := { program := "ybulkbxvu", sum := "e779d8913d3502a1e6264cfb3711c6a19687dd31c8ca98e00954cae5048cec65", func := "example.com/antecede/antecede/pkg/explore.LawS3712BClock", spec := "lawS3712BClock", unfollowed := true, recurses := true, plainKeys := false, apart := false }
def LawS3712BClockSaid : Prop := lawS3712BClockRow.holds Yba.pinned (OpenSpec.ofChange lawS3712BClockSpec)

/-- ITS FALSE NEIGHBOUR: 'it returns false'. Refute it at one input. -/
def lawS3712BClockWrong : ChangeSpec := { name := "lawS3712BClock", fn := fun _ => fun
  | [d1, d2, d3, d4, d5] => { results := [.lit (.bool false)], args := [d1, d2, d3, d4, d5] }
  | _ => none }
def LawS3712BClockWrongFalsely : Prop := lawS3712BClockRow.holds Yba.pinned (OpenSpec.ofChange lawS3712BClockWrong)

/-- 'explore.LawS3712BReverse': WHATEVER THE INPUT: true; the input reads as it did. -/
def lawS3712BReverseSpec : ChangeSpec := { name := "lawS3712BReverse", fn := fun _ => fun
  | [d1, d2] => { results := [.lit (.bool true)], args := [d1, d2] }
  | _ => none }
def lawS3712BReverseRow : OpenClaim := { program := "ybulkbxvu", sum := "e779d8913d3502a1e6264cfb3711c6a19687dd31c8ca98e00954cae5048cec65", func := "example.com/antecede/antecede/pkg/explore.LawS3712BReverse", spec := "lawS3712BReverse", unfollowed := true, recurses := true, plainKeys := false, apart := false }
def LawS3712BReverseSaid : Prop := lawS3712BReverseRow.holds Yba.pinned (OpenSpec.ofChange lawS3712BReverseSpec)

/-- ITS FALSE NEIGHBOUR: 'it returns false'. Refute it at one input. -/
def lawS3712BReverseWrong : ChangeSpec := { name := "lawS3712BReverse", fn := fun _ => fun
  | [d1, d2] => { results := [.lit (.bool false)], args := [d1, d2] }
  | _ => none }
def LawS3712BReverseWrongFalsely : Prop := lawS3712BReverseRow.holds Yba.pinned (OpenSpec.ofChange lawS3712BReverseWrong)

end Rows
end Go.Proofs.Ybulkbxvu
