/-
  NARROWER THAN 'FOR EVERY INPUT', by the rows' own cells (each row's printed sentence says how): LawS3931AHold: laid · LawS3931CExact: laid · LawS3931CFresh: laid.
  DERIVED. THE GIVEN ROWS OF THIS SEAT. 3 by the template 'for every input the law returns true; each argument reads behind the call as it read before'; 0 by the template 'total and deterministic' (their statements: YbulkccjsDoorTotals.lean).
  GIVEN WITH THE SEED: the statements are not yours to turn. If you find one false, say at which input.
  Laid BY PROGRAM, IN A SANDBOX (cutbox-rows.mjs): the forced cells as the released guide's own fill.sh prints them over the translation bf5cbe9ee66afb70… (all of the seat's roots in one cut). By AI agents, Wed Nov 11 2026. No macro, syntax, notation, axiom, sorry.
-/
import Derived.Test.YbulkccjsDoorChecked
import GoSem.Claim
import GoSem.ClaimJoined
import GoSem.ClaimMapViews
import Derived.JoinedTies
import Derived.KernelRfl
namespace Go.Proofs.YbulkccjsDoor
/- THE CELL 'sum', in the pinned program and in every row, IS THE sha256 OF THE DUMP (.gsa) THAT YbulkccjsDoorProg.lean LOADS. Nothing in Lean hashes anything: it is a label: what it is worth is what the hold of that sum in a sandbox is worth. -/
noncomputable def Ybad.pinned : Pinned := { name := "ybulkccjsdoor", sum := "bf5cbe9ee66afb70b2a558a7c5b6a35a866aba6cde17590eb9a48a95258146be", checked := Ybad.checked }
namespace Rows
def none {H : Type} : Left H := { results := [], args := [] }

/- WHAT THE LISTED PACKAGE-LEVEL VARIABLES READ AS WHEN THE CALL BEGINS. Each datum BY PROGRAM (the guide's laid-datum.mjs) off the statement by which the dump's own 'gosem.cut.vars' lays the variable. In a bare row this is a premise. The card (YbulkccjsDoorCards.lean) ties it to the program's text. -/
def laid_example_com_cellcrier_cellcrier_cbsp_discriminators {H : Type} : DataW H := .agg [.agg [.lit (.string [99, 103, 105]), .lit (.bool true), .lit (.bool true), .lit (.bool true)], .agg [.lit (.string [108, 97, 99, 45, 99, 105]), .lit (.bool false), .lit (.bool true), .lit (.bool true)], .agg [.lit (.string [99, 105]), .lit (.bool false), .lit (.bool false), .lit (.bool true)], .agg [.lit (.string []), .lit (.bool false), .lit (.bool false), .lit (.bool false)], .agg [.lit (.string [108, 97, 105]), .lit (.bool true), .lit (.bool true), .lit (.bool false)], .agg [.lit (.string [108, 97, 99]), .lit (.bool false), .lit (.bool true), .lit (.bool false)], .agg [.lit (.string [97, 108, 108]), .lit (.bool false), .lit (.bool false), .lit (.bool false)]]
def laid_time_utcLoc {H : Type} : DataW H := .agg [.lit (.string [85, 84, 67]), .nil, .nil, .lit (.string []), .lit (.int .i64 0), .lit (.int .i64 0), .nil]
def laid_example_com_cellcrier_cellcrier_internal_messages_stateNames {H : Type} : DataW H := .agg [.lit (.string [112, 101, 110, 100, 105, 110, 103]), .lit (.string [119, 114, 105, 116, 116, 101, 110]), .lit (.string [102, 97, 105, 108, 101, 100]), .lit (.string [100, 111, 110, 101]), .lit (.string [114, 101, 115, 101, 116])]

/-- 'messages.LawS3931AHold': WHATEVER THE INPUT: true; the input reads as it did. -/
def lawS3931AHoldSpec : ChangeSpec := { name := "lawS3931AHold", vars := ["example.com/cellcrier/cellcrier/cbsp.discriminators"], fn := fun _ => fun
  | [d1, d2, g1] => { results := [.lit (.bool true)], args := [d1, d2], vars := [g1] }
  | _ => none }
def lawS3931AHoldRow : OpenClaim := { program := "ybulkccjsdoor", sum := "bf5cbe9ee66afb70b2a558a7c5b6a35a866aba6cde17590eb9a48a95258146be", func := "example.com/cellcrier/cellcrier/internal/messages.LawS3931AHold", spec := "lawS3931AHold", unfollowed := true, recurses := true, named := ["example.com/cellcrier/cellcrier/cbsp.discriminators"], plainKeys := false, apart := false, laid := [("example.com/cellcrier/cellcrier/cbsp.discriminators", laid_example_com_cellcrier_cellcrier_cbsp_discriminators)] }
def LawS3931AHoldSaid : Prop := lawS3931AHoldRow.holds Ybad.pinned (OpenSpec.ofChange lawS3931AHoldSpec)

/-- ITS FALSE NEIGHBOUR: 'it returns false'. Refute it at one input. -/
def lawS3931AHoldWrong : ChangeSpec := { name := "lawS3931AHold", vars := ["example.com/cellcrier/cellcrier/cbsp.discriminators"], fn := fun _ => fun
  | [d1, d2, g1] => { results := [.lit (.bool false)], args := [d1, d2], vars := [g1] }
  | _ => none }
def LawS3931AHoldWrongFalsely : Prop := lawS3931AHoldRow.holds Ybad.pinned (OpenSpec.ofChange lawS3931AHoldWrong)

/-- 'messages.LawS3931CExact': WHATEVER THE INPUT: true; the input reads as it did. -/
def lawS3931CExactSpec : ChangeSpec := { name := "lawS3931CExact", vars := ["example.com/cellcrier/cellcrier/internal/messages.stateNames"], fn := fun _ => fun
  | [d, g1] => { results := [.lit (.bool true)], args := [d], vars := [g1] }
  | _ => none }
def lawS3931CExactRow : OpenClaim := { program := "ybulkccjsdoor", sum := "bf5cbe9ee66afb70b2a558a7c5b6a35a866aba6cde17590eb9a48a95258146be", func := "example.com/cellcrier/cellcrier/internal/messages.LawS3931CExact", spec := "lawS3931CExact", named := ["example.com/cellcrier/cellcrier/internal/messages.stateNames", "time.Local", "time.utcLoc"], plainKeys := false, apart := false, laid := [("time.utcLoc", laid_time_utcLoc), ("example.com/cellcrier/cellcrier/internal/messages.stateNames", laid_example_com_cellcrier_cellcrier_internal_messages_stateNames)] }
def LawS3931CExactSaid : Prop := lawS3931CExactRow.holds Ybad.pinned (OpenSpec.ofChange lawS3931CExactSpec)

/-- ITS FALSE NEIGHBOUR: 'it returns false'. Refute it at one input. -/
def lawS3931CExactWrong : ChangeSpec := { name := "lawS3931CExact", vars := ["example.com/cellcrier/cellcrier/internal/messages.stateNames"], fn := fun _ => fun
  | [d, g1] => { results := [.lit (.bool false)], args := [d], vars := [g1] }
  | _ => none }
def LawS3931CExactWrongFalsely : Prop := lawS3931CExactRow.holds Ybad.pinned (OpenSpec.ofChange lawS3931CExactWrong)

/-- 'messages.LawS3931CFresh': WHATEVER THE INPUT: true; the input reads as it did. -/
def lawS3931CFreshSpec : ChangeSpec := { name := "lawS3931CFresh", vars := ["example.com/cellcrier/cellcrier/internal/messages.stateNames"], fn := fun _ => fun
  | [d, g1] => { results := [.lit (.bool true)], args := [d], vars := [g1] }
  | _ => none }
def lawS3931CFreshRow : OpenClaim := { program := "ybulkccjsdoor", sum := "bf5cbe9ee66afb70b2a558a7c5b6a35a866aba6cde17590eb9a48a95258146be", func := "example.com/cellcrier/cellcrier/internal/messages.LawS3931CFresh", spec := "lawS3931CFresh", named := ["example.com/cellcrier/cellcrier/internal/messages.stateNames", "time.Local", "time.utcLoc"], plainKeys := false, apart := false, laid := [("time.utcLoc", laid_time_utcLoc), ("example.com/cellcrier/cellcrier/internal/messages.stateNames", laid_example_com_cellcrier_cellcrier_internal_messages_stateNames)] }
def LawS3931CFreshSaid : Prop := lawS3931CFreshRow.holds Ybad.pinned (OpenSpec.ofChange lawS3931CFreshSpec)

/-- ITS FALSE NEIGHBOUR: 'it returns false'. Refute it at one input. -/
def lawS3931CFreshWrong : ChangeSpec := { name := "lawS3931CFresh", vars := ["example.com/cellcrier/cellcrier/internal/messages.stateNames"], fn := fun _ => fun
  | [d, g1] => { results := [.lit (.bool false)], args := [d], vars := [g1] }
  | _ => none }
def LawS3931CFreshWrongFalsely : Prop := lawS3931CFreshRow.holds Ybad.pinned (OpenSpec.ofChange lawS3931CFreshWrong)

end Rows
end Go.Proofs.YbulkccjsDoor
