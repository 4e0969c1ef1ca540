/-
  NARROWER THAN 'FOR EVERY INPUT', by the rows' own cells (each row's printed sentence says how): LawS6184BWhole: laid.
  DERIVED. THE GIVEN ROWS OF THIS SEAT. 1 by the template 'for every input the law returns true; each argument reads behind the call as it read before'; 0 by the template 'total and deterministic' (their statements: YbulkdxawDoorTotals.lean).
  GIVEN WITH THE SEED: the statements are not yours to turn. If you find one false, say at which input.
  Laid BY PROGRAM, IN A SANDBOX (cutbox-rows.mjs): the forced cells as the released guide's own fill.sh prints them over the translation 7b1c9ac764597751… (all of the seat's roots in one cut). By AI agents, Wed Nov 11 2026. No macro, syntax, notation, axiom, sorry.
-/
import Derived.Test.YbulkdxawDoorChecked
import GoSem.Claim
import GoSem.ClaimJoined
import GoSem.ClaimMapViews
import Derived.JoinedTies
import Derived.KernelRfl
namespace Go.Proofs.YbulkdxawDoor
/- THE CELL 'sum', in the pinned program and in every row, IS THE sha256 OF THE DUMP (.gsa) THAT YbulkdxawDoorProg.lean LOADS. Nothing in Lean hashes anything: it is a label: what it is worth is what the hold of that sum in a sandbox is worth. -/
noncomputable def Ybad.pinned : Pinned := { name := "ybulkdxawdoor", sum := "7b1c9ac764597751e6034db2352e52bfa07cecbdc184b8f3bf61b93309ee8ec0", checked := Ybad.checked }
namespace Rows
def none {H : Type} : Left H := { results := [], args := [] }

/- WHAT THE LISTED PACKAGE-LEVEL VARIABLES READ AS WHEN THE CALL BEGINS. Each datum BY PROGRAM (the guide's laid-datum.mjs) off the statement by which the dump's own 'gosem.cut.vars' lays the variable. In a bare row this is a premise. The card (YbulkdxawDoorCards.lean) ties it to the program's text. -/
def laid_example_com_gapkeeper_gapkeeper_internal_lock_coveredBy {H : Type} : DataW H := .agg [.lit (.int .u8 1), .lit (.int .u8 3), .lit (.int .u8 5), .lit (.int .u8 15)]

/-- 'lock.LawS6184BWhole': WHATEVER THE INPUT: true; the input reads as it did. -/
def lawS6184BWholeSpec : ChangeSpec := { name := "lawS6184BWhole", vars := ["example.com/gapkeeper/gapkeeper/internal/lock.coveredBy"], fn := fun _ => fun
  | [d1, d2, d3, d4, g1] => { results := [.lit (.bool true)], args := [d1, d2, d3, d4], vars := [g1] }
  | _ => none }
def lawS6184BWholeRow : OpenClaim := { program := "ybulkdxawdoor", sum := "7b1c9ac764597751e6034db2352e52bfa07cecbdc184b8f3bf61b93309ee8ec0", func := "example.com/gapkeeper/gapkeeper/internal/lock.LawS6184BWhole", spec := "lawS6184BWhole", named := ["example.com/gapkeeper/gapkeeper/internal/lock.coveredBy"], apart := false, laid := [("example.com/gapkeeper/gapkeeper/internal/lock.coveredBy", laid_example_com_gapkeeper_gapkeeper_internal_lock_coveredBy)] }
def LawS6184BWholeSaid : Prop := lawS6184BWholeRow.holds Ybad.pinned (OpenSpec.ofChange lawS6184BWholeSpec)

/-- ITS FALSE NEIGHBOUR: 'it returns false'. Refute it at one input. -/
def lawS6184BWholeWrong : ChangeSpec := { name := "lawS6184BWhole", vars := ["example.com/gapkeeper/gapkeeper/internal/lock.coveredBy"], fn := fun _ => fun
  | [d1, d2, d3, d4, g1] => { results := [.lit (.bool false)], args := [d1, d2, d3, d4], vars := [g1] }
  | _ => none }
def LawS6184BWholeWrongFalsely : Prop := lawS6184BWholeRow.holds Ybad.pinned (OpenSpec.ofChange lawS6184BWholeWrong)

end Rows
end Go.Proofs.YbulkdxawDoor
