/-
  No cell of these rows narrows 'for every input' (looked for: loops, veiled, ifaces, maps, wideKeys, modest, calm, conditions, laid).
  DERIVED. THE GIVEN ROWS OF THIS SEAT. 2 by the template 'for every input the law returns true; each argument reads behind the call as it read before'; 0 by the template 'total and deterministic' (their statements: YbulkcblmTotals.lean).
  GIVEN WITH THE SEED: the statements are not yours to turn. If you find one false, say at which input.
  Laid BY PROGRAM, IN A SANDBOX (cutbox-rows.mjs): the forced cells as the released guide's own fill.sh prints them over the translation 24aac7c63da9d4d2… (all of the seat's roots in one cut). By AI agents, Wed Nov 11 2026. No macro, syntax, notation, axiom, sorry.
-/
import Derived.Test.YbulkcblmChecked
import GoSem.Claim
import GoSem.ClaimJoined
import GoSem.ClaimMapViews
import Derived.JoinedTies
import Derived.KernelRfl
namespace Go.Proofs.Ybulkcblm
/- THE CELL 'sum', in the pinned program and in every row, IS THE sha256 OF THE DUMP (.gsa) THAT YbulkcblmProg.lean LOADS. Nothing in Lean hashes anything: it is a label: what it is worth is what the hold of that sum in a sandbox is worth. -/
noncomputable def Yba.pinned : Pinned := { name := "ybulkcblm", sum := "24aac7c63da9d4d2c471bca00ab89a1e58d75479c99671c50b62d9167f4f5755", checked := Yba.checked }
namespace Rows
def none {H : Type} : Left H := { results := [], args := [] }

/-- 'shardkeep.LawS3886CExact': WHATEVER THE INPUT: true; the input reads as it did. -/
def lawS3886CExactSpec : ChangeSpec := { name := "lawS3886CExact", fn := fun _ => fun
  | [d] => { results := [.lit (.bool true)], args := [d] }
  | _ => none }
def lawS3886CExactRow : OpenClaim := { program := "ybulkcblm", sum := "24aac7c63da9d4d2c471bca00ab89a1e58d75479c99671c50b62d9167f4f5755", func := "example.com/shardkeep/shardkeep.LawS3886CExact", spec := "lawS3886CExact", apart := false }
def LawS3886CExactSaid : Prop := lawS3886CExactRow.holds Yba.pinned (OpenSpec.ofChange lawS3886CExactSpec)

/-- ITS FALSE NEIGHBOUR: 'it returns false'. Refute it at one input. -/
def lawS3886CExactWrong : ChangeSpec := { name := "lawS3886CExact", fn := fun _ => fun
  | [d] => { results := [.lit (.bool false)], args := [d] }
  | _ => none }
def LawS3886CExactWrongFalsely : Prop := lawS3886CExactRow.holds Yba.pinned (OpenSpec.ofChange lawS3886CExactWrong)

/-- 'shardkeep.LawS3886CBoundary': WHATEVER THE INPUT: true; the input reads as it did. -/
def lawS3886CBoundarySpec : ChangeSpec := { name := "lawS3886CBoundary", fn := fun _ => fun
  | [d1, d2] => { results := [.lit (.bool true)], args := [d1, d2] }
  | _ => none }
def lawS3886CBoundaryRow : OpenClaim := { program := "ybulkcblm", sum := "24aac7c63da9d4d2c471bca00ab89a1e58d75479c99671c50b62d9167f4f5755", func := "example.com/shardkeep/shardkeep.LawS3886CBoundary", spec := "lawS3886CBoundary", apart := false }
def LawS3886CBoundarySaid : Prop := lawS3886CBoundaryRow.holds Yba.pinned (OpenSpec.ofChange lawS3886CBoundarySpec)

/-- ITS FALSE NEIGHBOUR: 'it returns false'. Refute it at one input. -/
def lawS3886CBoundaryWrong : ChangeSpec := { name := "lawS3886CBoundary", fn := fun _ => fun
  | [d1, d2] => { results := [.lit (.bool false)], args := [d1, d2] }
  | _ => none }
def LawS3886CBoundaryWrongFalsely : Prop := lawS3886CBoundaryRow.holds Yba.pinned (OpenSpec.ofChange lawS3886CBoundaryWrong)

end Rows
end Go.Proofs.Ybulkcblm
