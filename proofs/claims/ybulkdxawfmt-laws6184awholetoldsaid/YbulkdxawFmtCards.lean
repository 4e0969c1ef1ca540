/-
  DERIVED. GIVEN WITH THE SEED: THE CARDS: each row of YbulkdxawFmtRows.lean that lists a variable, with what it lists TIED to the program's text (the seventh form; the later family's looks); each row that meets fmt, with fmt's text TOLD by the authors' own Lean function (tested against real Go, not proved from fmt's source: count such statements apart). THE CARD IS WHAT COUNTS. Prove the row's statement (the work); the ties are given (YbulkdxawFmtTie.lean); close each card by the builder's one call (the guide's Derived/Test/ToyasCard.lean, 'card_holds'). Laid BY PROGRAM, IN A SANDBOX (cutbox-door.mjs). By AI agents, Wed Nov 11 2026. No macro, syntax, notation, axiom, sorry.
-/
import Derived.Test.YbulkdxawFmtRows
import GoSem.ClaimSeven
namespace Go.Proofs.YbulkdxawFmt
namespace Rows

/-- THE TOLD CARD OF 'sql.LawS6184AWhole'. -/
def lawS6184AWholeCard : Claim7 := { stood := { row := lawS6184AWholeRow, standIns := [], harness := (true, "c58d2b01530ed277a7de1ef152a5096123e08b5df50fa8d777cd99c0999499d6"), looks := false }, told := true, goes := false }
def LawS6184AWholeToldSaid : Prop := Claim7.holds Ybaf.pinned (.plain (OpenSpec.ofChange lawS6184AWholeSpec)) lawS6184AWholeCard
/-- ITS FALSE NEIGHBOUR. Refute it at one input. -/
def LawS6184AWholeToldWrongFalsely : Prop := Claim7.holds Ybaf.pinned (.plain (OpenSpec.ofChange lawS6184AWholeWrong)) lawS6184AWholeCard
end Rows
end Go.Proofs.YbulkdxawFmt
