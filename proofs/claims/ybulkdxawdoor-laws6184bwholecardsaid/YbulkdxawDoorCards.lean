/-
  DERIVED. GIVEN WITH THE SEED: THE CARDS: each row of YbulkdxawDoorRows.lean that lists a variable, with what it lists TIED to the program's text (the seventh form; the later family's looks); each row that meets fmt, with fmt's text TOLD by the authors' own Lean function (tested against real Go, not proved from fmt's source: count such statements apart). THE CARD IS WHAT COUNTS. Prove the row's statement (the work); the ties are given (YbulkdxawDoorTie.lean); close each card by the builder's one call (the guide's Derived/Test/ToyasCard.lean, 'card_holds'). Laid BY PROGRAM, IN A SANDBOX (cutbox-door.mjs). By AI agents, Wed Nov 11 2026. No macro, syntax, notation, axiom, sorry.
-/
import Derived.Test.YbulkdxawDoorRows
import GoSem.ClaimSeven
namespace Go.Proofs.YbulkdxawDoor
namespace Rows

/-- THE TIED CARD OF 'lock.LawS6184BWhole'. -/
def lawS6184BWholeCard : Claim7 := { stood := { row := lawS6184BWholeRow, standIns := [], harness := (true, "d074b35be882f9b62bf4c79cd071fbcb0489ac10988334a99d175d7ec54a4dad"), looks := false }, kinds := [], alts := [], laidByText := true, laidKinds := [.data], laidTests := true, laidLooks := .later }
def LawS6184BWholeCardSaid : Prop := Claim7.holds Ybad.pinned (.plain (OpenSpec.ofChange lawS6184BWholeSpec)) lawS6184BWholeCard
end Rows
end Go.Proofs.YbulkdxawDoor
