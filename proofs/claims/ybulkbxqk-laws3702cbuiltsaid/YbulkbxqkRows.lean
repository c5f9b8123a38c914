/-
  No cell of these rows narrows 'for every input' (looked for: loops, veiled, ifaces, maps, wideKeys, modest, calm, conditions, laid).
  DERIVED. THE GIVEN ROWS OF THIS SEAT. 4 by the template 'for every input the law returns true; each argument reads behind the call as it read before'; 0 by the template 'total and deterministic' (their statements: YbulkbxqkTotals.lean).
  GIVEN WITH THE SEED: the statements are not yours to turn. If you find one false, say at which input.
  Laid BY PROGRAM, IN A SANDBOX (cutbox-rows.mjs): the forced cells as the released guide's own fill.sh prints them over the translation 10ce012c49e467da… (all of the seat's roots in one cut). By AI agents, Wed Nov 11 2026. No macro, syntax, notation, axiom, sorry.
-/
import Derived.Test.YbulkbxqkChecked
import GoSem.Claim
import GoSem.ClaimJoined
import GoSem.ClaimMapViews
import Derived.JoinedTies
import Derived.KernelRfl
namespace Go.Proofs.Ybulkbxqk
/- THE CELL 'sum', in the pinned program and in every row, IS THE sha256 OF THE DUMP (.gsa) THAT YbulkbxqkProg.lean LOADS. Nothing in Lean hashes anything: it is a label: what it is worth is what the hold of that sum in a sandbox is worth. -/
noncomputable def Yba.pinned : Pinned := { name := "ybulkbxqk", sum := "10ce012c49e467daa62453d4f23cd71751d4083cc2299d9e0e68602d9c0e548e", checked := Yba.checked }
namespace Rows
def none {H : Type} : Left H := { results := [], args := [] }

/-- 'p256.LawS3702AExact': WHATEVER THE INPUT: true; the input reads as it did. -/
def lawS3702AExactSpec : ChangeSpec := { name := "lawS3702AExact", fn := fun _ => fun
  | [d1, d2, d3, d4] => { results := [.lit (.bool true)], args := [d1, d2, d3, d4] }
  | _ => none }
def lawS3702AExactRow : OpenClaim := { program := "ybulkbxqk", sum := "10ce012c49e467daa62453d4f23cd71751d4083cc2299d9e0e68602d9c0e548e", func := "example.com/goodstanding/goodstanding/internal/p256.LawS3702AExact", spec := "lawS3702AExact", inPlace := ["math/bits.Add64"], apart := false }
def LawS3702AExactSaid : Prop := lawS3702AExactRow.holds Yba.pinned (OpenSpec.ofChange lawS3702AExactSpec)

/-- ITS FALSE NEIGHBOUR: 'it returns false'. Refute it at one input. -/
def lawS3702AExactWrong : ChangeSpec := { name := "lawS3702AExact", fn := fun _ => fun
  | [d1, d2, d3, d4] => { results := [.lit (.bool false)], args := [d1, d2, d3, d4] }
  | _ => none }
def LawS3702AExactWrongFalsely : Prop := lawS3702AExactRow.holds Yba.pinned (OpenSpec.ofChange lawS3702AExactWrong)

/-- 'p256.LawS3702ASymmetry': WHATEVER THE INPUT: true; the input reads as it did. -/
def lawS3702ASymmetrySpec : ChangeSpec := { name := "lawS3702ASymmetry", fn := fun _ => fun
  | [d1, d2, d3, d4] => { results := [.lit (.bool true)], args := [d1, d2, d3, d4] }
  | _ => none }
def lawS3702ASymmetryRow : OpenClaim := { program := "ybulkbxqk", sum := "10ce012c49e467daa62453d4f23cd71751d4083cc2299d9e0e68602d9c0e548e", func := "example.com/goodstanding/goodstanding/internal/p256.LawS3702ASymmetry", spec := "lawS3702ASymmetry", inPlace := ["math/bits.Add64"], apart := false }
def LawS3702ASymmetrySaid : Prop := lawS3702ASymmetryRow.holds Yba.pinned (OpenSpec.ofChange lawS3702ASymmetrySpec)

/-- ITS FALSE NEIGHBOUR: 'it returns false'. Refute it at one input. -/
def lawS3702ASymmetryWrong : ChangeSpec := { name := "lawS3702ASymmetry", fn := fun _ => fun
  | [d1, d2, d3, d4] => { results := [.lit (.bool false)], args := [d1, d2, d3, d4] }
  | _ => none }
def LawS3702ASymmetryWrongFalsely : Prop := lawS3702ASymmetryRow.holds Yba.pinned (OpenSpec.ofChange lawS3702ASymmetryWrong)

/-- 'sigalg.LawS3702CBuilt': WHATEVER THE INPUT: true; the input reads as it did. -/
def lawS3702CBuiltSpec : ChangeSpec := { name := "lawS3702CBuilt", fn := fun _ => fun
  | [d] => { results := [.lit (.bool true)], args := [d] }
  | _ => none }
def lawS3702CBuiltRow : OpenClaim := { program := "ybulkbxqk", sum := "10ce012c49e467daa62453d4f23cd71751d4083cc2299d9e0e68602d9c0e548e", func := "example.com/goodstanding/goodstanding/internal/sigalg.LawS3702CBuilt", spec := "lawS3702CBuilt", apart := false }
def LawS3702CBuiltSaid : Prop := lawS3702CBuiltRow.holds Yba.pinned (OpenSpec.ofChange lawS3702CBuiltSpec)

/-- ITS FALSE NEIGHBOUR: 'it returns false'. Refute it at one input. -/
def lawS3702CBuiltWrong : ChangeSpec := { name := "lawS3702CBuilt", fn := fun _ => fun
  | [d] => { results := [.lit (.bool false)], args := [d] }
  | _ => none }
def LawS3702CBuiltWrongFalsely : Prop := lawS3702CBuiltRow.holds Yba.pinned (OpenSpec.ofChange lawS3702CBuiltWrong)

/-- 'sigalg.LawS3702CAny': WHATEVER THE INPUT: true; the input reads as it did. -/
def lawS3702CAnySpec : ChangeSpec := { name := "lawS3702CAny", fn := fun _ => fun
  | [d] => { results := [.lit (.bool true)], args := [d] }
  | _ => none }
def lawS3702CAnyRow : OpenClaim := { program := "ybulkbxqk", sum := "10ce012c49e467daa62453d4f23cd71751d4083cc2299d9e0e68602d9c0e548e", func := "example.com/goodstanding/goodstanding/internal/sigalg.LawS3702CAny", spec := "lawS3702CAny", apart := false }
def LawS3702CAnySaid : Prop := lawS3702CAnyRow.holds Yba.pinned (OpenSpec.ofChange lawS3702CAnySpec)

/-- ITS FALSE NEIGHBOUR: 'it returns false'. Refute it at one input. -/
def lawS3702CAnyWrong : ChangeSpec := { name := "lawS3702CAny", fn := fun _ => fun
  | [d] => { results := [.lit (.bool false)], args := [d] }
  | _ => none }
def LawS3702CAnyWrongFalsely : Prop := lawS3702CAnyRow.holds Yba.pinned (OpenSpec.ofChange lawS3702CAnyWrong)

end Rows
end Go.Proofs.Ybulkbxqk
