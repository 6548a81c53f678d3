/-
  No cell of these rows narrows 'for every input' (looked for: loops, veiled, ifaces, maps, wideKeys, modest, calm, conditions, laid).
  DERIVED. THE GIVEN ROWS OF THIS SEAT. 2 by the template 'for every input the law returns true; each argument reads behind the call as it read before'; 0 by the template 'total and deterministic' (their statements: YbulkcbosTotals.lean).
  GIVEN WITH THE SEED: the statements are not yours to turn. If you find one false, say at which input.
  Laid BY PROGRAM, IN A SANDBOX (cutbox-rows.mjs): the forced cells as the released guide's own fill.sh prints them over the translation 286500831bff0afc… (all of the seat's roots in one cut). By AI agents, Wed Nov 11 2026. No macro, syntax, notation, axiom, sorry.
-/
import Derived.Test.YbulkcbosChecked
import GoSem.Claim
import GoSem.ClaimJoined
import GoSem.ClaimMapViews
import Derived.JoinedTies
import Derived.KernelRfl
namespace Go.Proofs.Ybulkcbos
/- THE CELL 'sum', in the pinned program and in every row, IS THE sha256 OF THE DUMP (.gsa) THAT YbulkcbosProg.lean LOADS. Nothing in Lean hashes anything: it is a label: what it is worth is what the hold of that sum in a sandbox is worth. -/
noncomputable def Yba.pinned : Pinned := { name := "ybulkcbos", sum := "286500831bff0afc5f1141e39d523b270584b2a44c2a483a150e7fb75d4fb185", checked := Yba.checked }
namespace Rows
def none {H : Type} : Left H := { results := [], args := [] }

/-- 'cutout.LawS3892BTake': WHATEVER THE INPUT: true; the input reads as it did. -/
def lawS3892BTakeSpec : ChangeSpec := { name := "lawS3892BTake", fn := fun _ => fun
  | [d1, d2, d3, d4, d5, d6] => { results := [.lit (.bool true)], args := [d1, d2, d3, d4, d5, d6] }
  | _ => none }
def lawS3892BTakeRow : OpenClaim := { program := "ybulkcbos", sum := "286500831bff0afc5f1141e39d523b270584b2a44c2a483a150e7fb75d4fb185", func := "example.com/cutout/cutout.LawS3892BTake", spec := "lawS3892BTake", inPlace := ["sync/atomic.StoreUint64", "sync/atomic.SwapUint64", "sync/atomic.LoadUint64"], unfollowed := true, recurses := true, apart := false }
def LawS3892BTakeSaid : Prop := lawS3892BTakeRow.holds Yba.pinned (OpenSpec.ofChange lawS3892BTakeSpec)

/-- ITS FALSE NEIGHBOUR: 'it returns false'. Refute it at one input. -/
def lawS3892BTakeWrong : ChangeSpec := { name := "lawS3892BTake", fn := fun _ => fun
  | [d1, d2, d3, d4, d5, d6] => { results := [.lit (.bool false)], args := [d1, d2, d3, d4, d5, d6] }
  | _ => none }
def LawS3892BTakeWrongFalsely : Prop := lawS3892BTakeRow.holds Yba.pinned (OpenSpec.ofChange lawS3892BTakeWrong)

/-- 'cutout.LawS3892BTwice': WHATEVER THE INPUT: true; the input reads as it did. -/
def lawS3892BTwiceSpec : ChangeSpec := { name := "lawS3892BTwice", fn := fun _ => fun
  | [d1, d2, d3, d4, d5, d6] => { results := [.lit (.bool true)], args := [d1, d2, d3, d4, d5, d6] }
  | _ => none }
def lawS3892BTwiceRow : OpenClaim := { program := "ybulkcbos", sum := "286500831bff0afc5f1141e39d523b270584b2a44c2a483a150e7fb75d4fb185", func := "example.com/cutout/cutout.LawS3892BTwice", spec := "lawS3892BTwice", inPlace := ["sync/atomic.StoreUint64", "sync/atomic.SwapUint64", "sync/atomic.LoadUint64"], unfollowed := true, recurses := true, apart := false }
def LawS3892BTwiceSaid : Prop := lawS3892BTwiceRow.holds Yba.pinned (OpenSpec.ofChange lawS3892BTwiceSpec)

/-- ITS FALSE NEIGHBOUR: 'it returns false'. Refute it at one input. -/
def lawS3892BTwiceWrong : ChangeSpec := { name := "lawS3892BTwice", fn := fun _ => fun
  | [d1, d2, d3, d4, d5, d6] => { results := [.lit (.bool false)], args := [d1, d2, d3, d4, d5, d6] }
  | _ => none }
def LawS3892BTwiceWrongFalsely : Prop := lawS3892BTwiceRow.holds Yba.pinned (OpenSpec.ofChange lawS3892BTwiceWrong)

end Rows
end Go.Proofs.Ybulkcbos
