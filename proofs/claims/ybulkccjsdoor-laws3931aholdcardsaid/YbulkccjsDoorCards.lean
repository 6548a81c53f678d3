/-
  DERIVED. GIVEN WITH THE SEED: THE CARDS: each row of YbulkccjsDoorRows.lean that lists a variable, with what it lists TIED to the program's text (the seventh form; the later family's looks); each row that meets fmt, with fmt's text TOLD by the authors' own Lean function (tested against real Go, not proved from fmt's source: count such statements apart). THE CARD IS WHAT COUNTS. Prove the row's statement (the work); the ties are given (YbulkccjsDoorTie.lean); close each card by the builder's one call (the guide's Derived/Test/ToyasCard.lean, 'card_holds'). Laid BY PROGRAM, IN A SANDBOX (cutbox-door.mjs). By AI agents, Wed Nov 11 2026. No macro, syntax, notation, axiom, sorry.
-/
import Derived.Test.YbulkccjsDoorRows
import GoSem.ClaimSeven
namespace Go.Proofs.YbulkccjsDoor
namespace Rows

/-- THE TIED CARD OF 'messages.LawS3931AHold'. -/
def lawS3931AHoldCard : Claim7 := { stood := { row := lawS3931AHoldRow, standIns := [], harness := (true, "60e4787caf82829cf907b4a04c06467428db0f68caa3104cf78f6ce551854df0"), looks := true }, kinds := [], alts := [], laidByText := true, laidKinds := [.data], laidTests := true, laidLooks := .later }
def LawS3931AHoldCardSaid : Prop := Claim7.holds Ybad.pinned (.plain (OpenSpec.ofChange lawS3931AHoldSpec)) lawS3931AHoldCard

/-- THE TIED CARD OF 'messages.LawS3931CExact'. -/
def lawS3931CExactCard : Claim7 := { stood := { row := lawS3931CExactRow, standIns := [], harness := (true, "60e4787caf82829cf907b4a04c06467428db0f68caa3104cf78f6ce551854df0"), looks := true }, kinds := [], alts := [], laidByText := true, laidKinds := [.wider, .widerDeep], laidTests := true, laidLooks := .later }
def LawS3931CExactCardSaid : Prop := Claim7.holds Ybad.pinned (.plain (OpenSpec.ofChange lawS3931CExactSpec)) lawS3931CExactCard

/-- THE TIED CARD OF 'messages.LawS3931CFresh'. -/
def lawS3931CFreshCard : Claim7 := { stood := { row := lawS3931CFreshRow, standIns := [], harness := (true, "60e4787caf82829cf907b4a04c06467428db0f68caa3104cf78f6ce551854df0"), looks := true }, kinds := [], alts := [], laidByText := true, laidKinds := [.wider, .widerDeep], laidTests := true, laidLooks := .later }
def LawS3931CFreshCardSaid : Prop := Claim7.holds Ybad.pinned (.plain (OpenSpec.ofChange lawS3931CFreshSpec)) lawS3931CFreshCard
end Rows
end Go.Proofs.YbulkccjsDoor
