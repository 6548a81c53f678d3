/-
  No cell of these rows narrows 'for every input' (looked for: loops, veiled, ifaces, maps, wideKeys, modest, calm, conditions, laid).
  DERIVED. THE GIVEN ROWS OF THIS SEAT. 3 by the template 'for every input the law returns true; each argument reads behind the call as it read before'; 0 by the template 'total and deterministic' (their statements: YbulkcbmoTotals.lean).
  GIVEN WITH THE SEED: the statements are not yours to turn. If you find one false, say at which input.
  Laid BY PROGRAM, IN A SANDBOX (cutbox-rows.mjs): the forced cells as the released guide's own fill.sh prints them over the translation d12a7eecfda38ffe… (all of the seat's roots in one cut). By AI agents, Wed Nov 11 2026. No macro, syntax, notation, axiom, sorry.
-/
import Derived.Test.YbulkcbmoChecked
import GoSem.Claim
import GoSem.ClaimJoined
import GoSem.ClaimMapViews
import Derived.JoinedTies
import Derived.KernelRfl
namespace Go.Proofs.Ybulkcbmo
/- THE CELL 'sum', in the pinned program and in every row, IS THE sha256 OF THE DUMP (.gsa) THAT YbulkcbmoProg.lean LOADS. Nothing in Lean hashes anything: it is a label: what it is worth is what the hold of that sum in a sandbox is worth. -/
noncomputable def Yba.pinned : Pinned := { name := "ybulkcbmo", sum := "d12a7eecfda38ffed7939b88d31d512b616e8ec32b55718661ef992c1db25756", checked := Yba.checked }
namespace Rows
def none {H : Type} : Left H := { results := [], args := [] }

/-- 'ipfix.LawS3888AExact': WHATEVER THE INPUT: true; the input reads as it did. -/
def lawS3888AExactSpec : ChangeSpec := { name := "lawS3888AExact", fn := fun _ => fun
  | [d] => { results := [.lit (.bool true)], args := [d] }
  | _ => none }
def lawS3888AExactRow : OpenClaim := { program := "ybulkcbmo", sum := "d12a7eecfda38ffed7939b88d31d512b616e8ec32b55718661ef992c1db25756", func := "example.com/tributary/tributary/ipfix.LawS3888AExact", spec := "lawS3888AExact", named := ["encoding/binary.BigEndian"], apart := false }
def LawS3888AExactSaid : Prop := lawS3888AExactRow.holds Yba.pinned (OpenSpec.ofChange lawS3888AExactSpec)

/-- ITS FALSE NEIGHBOUR: 'it returns false'. Refute it at one input. -/
def lawS3888AExactWrong : ChangeSpec := { name := "lawS3888AExact", fn := fun _ => fun
  | [d] => { results := [.lit (.bool false)], args := [d] }
  | _ => none }
def LawS3888AExactWrongFalsely : Prop := lawS3888AExactRow.holds Yba.pinned (OpenSpec.ofChange lawS3888AExactWrong)

/-- 'ipfix.LawS3888ALong': WHATEVER THE INPUT: true; the input reads as it did. -/
def lawS3888ALongSpec : ChangeSpec := { name := "lawS3888ALong", fn := fun _ => fun
  | [d1, d2, d3, d4] => { results := [.lit (.bool true)], args := [d1, d2, d3, d4] }
  | _ => none }
def lawS3888ALongRow : OpenClaim := { program := "ybulkcbmo", sum := "d12a7eecfda38ffed7939b88d31d512b616e8ec32b55718661ef992c1db25756", func := "example.com/tributary/tributary/ipfix.LawS3888ALong", spec := "lawS3888ALong", named := ["encoding/binary.BigEndian"], apart := false }
def LawS3888ALongSaid : Prop := lawS3888ALongRow.holds Yba.pinned (OpenSpec.ofChange lawS3888ALongSpec)

/-- ITS FALSE NEIGHBOUR: 'it returns false'. Refute it at one input. -/
def lawS3888ALongWrong : ChangeSpec := { name := "lawS3888ALong", fn := fun _ => fun
  | [d1, d2, d3, d4] => { results := [.lit (.bool false)], args := [d1, d2, d3, d4] }
  | _ => none }
def LawS3888ALongWrongFalsely : Prop := lawS3888ALongRow.holds Yba.pinned (OpenSpec.ofChange lawS3888ALongWrong)

/-- 'ipfix.LawS3888BDrop': WHATEVER THE INPUT: true; the input reads as it did. -/
def lawS3888BDropSpec : ChangeSpec := { name := "lawS3888BDrop", fn := fun _ => fun
  | [d1, d2, d3, d4, d5, d6, d7, d8] => { results := [.lit (.bool true)], args := [d1, d2, d3, d4, d5, d6, d7, d8] }
  | _ => none }
def lawS3888BDropRow : OpenClaim := { program := "ybulkcbmo", sum := "d12a7eecfda38ffed7939b88d31d512b616e8ec32b55718661ef992c1db25756", func := "example.com/tributary/tributary/ipfix.LawS3888BDrop", spec := "lawS3888BDrop", apart := false }
def LawS3888BDropSaid : Prop := lawS3888BDropRow.holds Yba.pinned (OpenSpec.ofChange lawS3888BDropSpec)

/-- ITS FALSE NEIGHBOUR: 'it returns false'. Refute it at one input. -/
def lawS3888BDropWrong : ChangeSpec := { name := "lawS3888BDrop", fn := fun _ => fun
  | [d1, d2, d3, d4, d5, d6, d7, d8] => { results := [.lit (.bool false)], args := [d1, d2, d3, d4, d5, d6, d7, d8] }
  | _ => none }
def LawS3888BDropWrongFalsely : Prop := lawS3888BDropRow.holds Yba.pinned (OpenSpec.ofChange lawS3888BDropWrong)

end Rows
end Go.Proofs.Ybulkcbmo
