/-
  No cell of these rows narrows 'for every input' (looked for: loops, veiled, ifaces, maps, wideKeys, modest, calm, conditions, laid).
  DERIVED. THE GIVEN ROWS OF THIS SEAT. 4 by the template 'for every input the law returns true; each argument reads behind the call as it read before'; 0 by the template 'total and deterministic' (their statements: YbulkbxsoTotals.lean).
  GIVEN WITH THE SEED: the statements are not yours to turn. If you find one false, say at which input.
  Laid BY PROGRAM, IN A SANDBOX (cutbox-rows.mjs): the forced cells as the released guide's own fill.sh prints them over the translation f236c66919f6b9cc… (all of the seat's roots in one cut). By AI agents, Wed Nov 11 2026. No macro, syntax, notation, axiom, sorry.
-/
import Derived.Test.YbulkbxsoChecked
import GoSem.Claim
import GoSem.ClaimJoined
import GoSem.ClaimMapViews
import Derived.JoinedTies
import Derived.KernelRfl
namespace Go.Proofs.Ybulkbxso
/- THE CELL 'sum', in the pinned program and in every row, IS THE sha256 OF THE DUMP (.gsa) THAT YbulkbxsoProg.lean LOADS. Nothing in Lean hashes anything: it is a label: what it is worth is what the hold of that sum in a sandbox is worth. -/
noncomputable def Yba.pinned : Pinned := { name := "ybulkbxso", sum := "f236c66919f6b9cc3f1334e92979e6adf5afc815a8f6ec32ded95057a559df88", checked := Yba.checked }
namespace Rows
def none {H : Type} : Left H := { results := [], args := [] }

/-- 'eisen.LawS3706BExact': WHATEVER THE INPUT: true; the input reads as it did. -/
def lawS3706BExactSpec : ChangeSpec := { name := "lawS3706BExact", fn := fun _ => fun
  | [d1, d2, d3] => { results := [.lit (.bool true)], args := [d1, d2, d3] }
  | _ => none }
def lawS3706BExactRow : OpenClaim := { program := "ybulkbxso", sum := "f236c66919f6b9cc3f1334e92979e6adf5afc815a8f6ec32ded95057a559df88", func := "example.com/quadring/quadring/eisen.LawS3706BExact", spec := "lawS3706BExact", inPlace := ["math/big.addVV", "math/bits.Add64", "math/big.subVV", "math/bits.Sub64"], unfollowed := true, recurses := true, apart := false }
def LawS3706BExactSaid : Prop := lawS3706BExactRow.holds Yba.pinned (OpenSpec.ofChange lawS3706BExactSpec)

/-- ITS FALSE NEIGHBOUR: 'it returns false'. Refute it at one input. -/
def lawS3706BExactWrong : ChangeSpec := { name := "lawS3706BExact", fn := fun _ => fun
  | [d1, d2, d3] => { results := [.lit (.bool false)], args := [d1, d2, d3] }
  | _ => none }
def LawS3706BExactWrongFalsely : Prop := lawS3706BExactRow.holds Yba.pinned (OpenSpec.ofChange lawS3706BExactWrong)

/-- 'eisen.LawS3706BAssoc': WHATEVER THE INPUT: true; the input reads as it did. -/
def lawS3706BAssocSpec : ChangeSpec := { name := "lawS3706BAssoc", fn := fun _ => fun
  | [d1, d2] => { results := [.lit (.bool true)], args := [d1, d2] }
  | _ => none }
def lawS3706BAssocRow : OpenClaim := { program := "ybulkbxso", sum := "f236c66919f6b9cc3f1334e92979e6adf5afc815a8f6ec32ded95057a559df88", func := "example.com/quadring/quadring/eisen.LawS3706BAssoc", spec := "lawS3706BAssoc", inPlace := ["math/big.addVV", "math/bits.Add64", "math/big.subVV", "math/bits.Sub64"], unfollowed := true, recurses := true, apart := false }
def LawS3706BAssocSaid : Prop := lawS3706BAssocRow.holds Yba.pinned (OpenSpec.ofChange lawS3706BAssocSpec)

/-- ITS FALSE NEIGHBOUR: 'it returns false'. Refute it at one input. -/
def lawS3706BAssocWrong : ChangeSpec := { name := "lawS3706BAssoc", fn := fun _ => fun
  | [d1, d2] => { results := [.lit (.bool false)], args := [d1, d2] }
  | _ => none }
def LawS3706BAssocWrongFalsely : Prop := lawS3706BAssocRow.holds Yba.pinned (OpenSpec.ofChange lawS3706BAssocWrong)

/-- 'cmd.LawS3706CWrite': WHATEVER THE INPUT: true; the input reads as it did. -/
def lawS3706CWriteSpec : ChangeSpec := { name := "lawS3706CWrite", fn := fun _ => fun
  | [d] => { results := [.lit (.bool true)], args := [d] }
  | _ => none }
def lawS3706CWriteRow : OpenClaim := { program := "ybulkbxso", sum := "f236c66919f6b9cc3f1334e92979e6adf5afc815a8f6ec32ded95057a559df88", func := "example.com/quadring/quadring/cmd.LawS3706CWrite", spec := "lawS3706CWrite", unfollowed := true, recurses := true, apart := false }
def LawS3706CWriteSaid : Prop := lawS3706CWriteRow.holds Yba.pinned (OpenSpec.ofChange lawS3706CWriteSpec)

/-- ITS FALSE NEIGHBOUR: 'it returns false'. Refute it at one input. -/
def lawS3706CWriteWrong : ChangeSpec := { name := "lawS3706CWrite", fn := fun _ => fun
  | [d] => { results := [.lit (.bool false)], args := [d] }
  | _ => none }
def LawS3706CWriteWrongFalsely : Prop := lawS3706CWriteRow.holds Yba.pinned (OpenSpec.ofChange lawS3706CWriteWrong)

/-- 'cmd.LawS3706CForms': WHATEVER THE INPUT: true; the input reads as it did. -/
def lawS3706CFormsSpec : ChangeSpec := { name := "lawS3706CForms", fn := fun _ => fun
  | [d1, d2] => { results := [.lit (.bool true)], args := [d1, d2] }
  | _ => none }
def lawS3706CFormsRow : OpenClaim := { program := "ybulkbxso", sum := "f236c66919f6b9cc3f1334e92979e6adf5afc815a8f6ec32ded95057a559df88", func := "example.com/quadring/quadring/cmd.LawS3706CForms", spec := "lawS3706CForms", unfollowed := true, recurses := true, apart := false }
def LawS3706CFormsSaid : Prop := lawS3706CFormsRow.holds Yba.pinned (OpenSpec.ofChange lawS3706CFormsSpec)

/-- ITS FALSE NEIGHBOUR: 'it returns false'. Refute it at one input. -/
def lawS3706CFormsWrong : ChangeSpec := { name := "lawS3706CForms", fn := fun _ => fun
  | [d1, d2] => { results := [.lit (.bool false)], args := [d1, d2] }
  | _ => none }
def LawS3706CFormsWrongFalsely : Prop := lawS3706CFormsRow.holds Yba.pinned (OpenSpec.ofChange lawS3706CFormsWrong)

end Rows
end Go.Proofs.Ybulkbxso
