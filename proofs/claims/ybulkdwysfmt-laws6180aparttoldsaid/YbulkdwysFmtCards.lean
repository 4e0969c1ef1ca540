/-
  DERIVED. GIVEN WITH THE SEED: THE CARDS: each row of YbulkdwysFmtRows.lean that lists a variable, with what it lists TIED to the program's text (the seventh form; the later family's looks); each row that meets fmt, with fmt's text TOLD by the authors' own Lean function (tested against real Go, not proved from fmt's source: count such statements apart). THE CARD IS WHAT COUNTS. Prove the row's statement (the work); the ties are given (YbulkdwysFmtTie.lean); close each card by the builder's one call (the guide's Derived/Test/ToyasCard.lean, 'card_holds'). Laid BY PROGRAM, IN A SANDBOX (cutbox-door.mjs). By AI agents, Wed Nov 11 2026. No macro, syntax, notation, axiom, sorry.
-/
import Derived.Test.YbulkdwysFmtRows
import GoSem.ClaimSeven
namespace Go.Proofs.YbulkdwysFmt
namespace Rows

/-- THE TOLD CARD OF 'fscheck.LawS6180APart'. -/
def lawS6180APartCard : Claim7 := { stood := { row := lawS6180APartRow, standIns := [], harness := (true, "2135b4f499e59d29c4570a2d469c377da3d99ab9907f813b5efbf31e96ee351f"), looks := false }, told := true, goes := false }
def LawS6180APartToldSaid : Prop := Claim7.holds Ybaf.pinned (.plain (OpenSpec.ofChange lawS6180APartSpec)) lawS6180APartCard
/-- ITS FALSE NEIGHBOUR. Refute it at one input. -/
def LawS6180APartToldWrongFalsely : Prop := Claim7.holds Ybaf.pinned (.plain (OpenSpec.ofChange lawS6180APartWrong)) lawS6180APartCard
end Rows
end Go.Proofs.YbulkdwysFmt
