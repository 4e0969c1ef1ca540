/-
  No cell of these rows narrows 'for every input' (looked for: loops, veiled, ifaces, maps, wideKeys, modest, calm, conditions, laid).
  DERIVED. THE GIVEN ROWS OF THIS SEAT. 1 by the template 'for every input the law returns true; each argument reads behind the call as it read before'; 0 by the template 'total and deterministic' (their statements: YbulkdxawFmtTotals.lean).
  GIVEN WITH THE SEED: the statements are not yours to turn. If you find one false, say at which input.
  Laid BY PROGRAM, IN A SANDBOX (cutbox-rows.mjs): the forced cells as the released guide's own fill.sh prints them over the translation ed7593b07e63c3a2… (all of the seat's roots in one cut). By AI agents, Wed Nov 11 2026. No macro, syntax, notation, axiom, sorry.
-/
import Derived.Test.YbulkdxawFmtChecked
import GoSem.Claim
import GoSem.ClaimJoined
import GoSem.ClaimMapViews
import Derived.JoinedTies
import Derived.KernelRfl
namespace Go.Proofs.YbulkdxawFmt
/- THE CELL 'sum', in the pinned program and in every row, IS THE sha256 OF THE DUMP (.gsa) THAT YbulkdxawFmtProg.lean LOADS. Nothing in Lean hashes anything: it is a label: what it is worth is what the hold of that sum in a sandbox is worth. -/
noncomputable def Ybaf.pinned : Pinned := { name := "ybulkdxawfmt", sum := "ed7593b07e63c3a20ecb5627febc434c6ce9afb895e8bee67245f7cbbd285cba", checked := Ybaf.checked }
namespace Rows
def none {H : Type} : Left H := { results := [], args := [] }

/-- 'sql.LawS6184AWhole': WHATEVER THE INPUT: true; the input reads as it did. -/
def lawS6184AWholeSpec : ChangeSpec := { name := "lawS6184AWhole", fn := fun _ => fun
  | [d1, d2, d3, d4, d5, d6] => { results := [.lit (.bool true)], args := [d1, d2, d3, d4, d5, d6] }
  | _ => none }
def lawS6184AWholeRow : OpenClaim := { program := "ybulkdxawfmt", sum := "ed7593b07e63c3a20ecb5627febc434c6ce9afb895e8bee67245f7cbbd285cba", func := "example.com/gapkeeper/gapkeeper/internal/sql.LawS6184AWhole", spec := "lawS6184AWhole", stops := ["fmt.errorf"], inPlace := ["fmt.errorf"], apart := false }
/-- NO THEOREM (fmt's text is open here; it may be false): for the released tool's asking of the row's closed facts alone. THE STATEMENT IS 'LawS6184AWholeToldSaid' (YbulkdxawFmtCards.lean). -/
def LawS6184AWholeFormAsk : Prop := lawS6184AWholeRow.holds Ybaf.pinned (OpenSpec.ofChange lawS6184AWholeSpec)

/-- ITS FALSE NEIGHBOUR: 'it returns false'. Refute it at one input. -/
def lawS6184AWholeWrong : ChangeSpec := { name := "lawS6184AWhole", fn := fun _ => fun
  | [d1, d2, d3, d4, d5, d6] => { results := [.lit (.bool false)], args := [d1, d2, d3, d4, d5, d6] }
  | _ => none }
def LawS6184AWholeWrongFormAsk : Prop := lawS6184AWholeRow.holds Ybaf.pinned (OpenSpec.ofChange lawS6184AWholeWrong)

end Rows
end Go.Proofs.YbulkdxawFmt
