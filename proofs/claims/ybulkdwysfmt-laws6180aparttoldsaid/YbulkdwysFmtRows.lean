/-
  No cell of these rows narrows 'for every input' (looked for: loops, veiled, ifaces, maps, wideKeys, modest, calm, conditions, laid).
  DERIVED. THE GIVEN ROWS OF THIS SEAT. 1 by the template 'for every input the law returns true; each argument reads behind the call as it read before'; 0 by the template 'total and deterministic' (their statements: YbulkdwysFmtTotals.lean).
  GIVEN WITH THE SEED: the statements are not yours to turn. If you find one false, say at which input.
  Laid BY PROGRAM, IN A SANDBOX (cutbox-rows.mjs): the forced cells as the released guide's own fill.sh prints them over the translation e10e88378e10497f… (all of the seat's roots in one cut). By AI agents, Wed Nov 11 2026. No macro, syntax, notation, axiom, sorry.
-/
import Derived.Test.YbulkdwysFmtChecked
import GoSem.Claim
import GoSem.ClaimJoined
import GoSem.ClaimMapViews
import Derived.JoinedTies
import Derived.KernelRfl
namespace Go.Proofs.YbulkdwysFmt
/- THE CELL 'sum', in the pinned program and in every row, IS THE sha256 OF THE DUMP (.gsa) THAT YbulkdwysFmtProg.lean LOADS. Nothing in Lean hashes anything: it is a label: what it is worth is what the hold of that sum in a sandbox is worth. -/
noncomputable def Ybaf.pinned : Pinned := { name := "ybulkdwysfmt", sum := "e10e88378e10497f4c1f364648246812fc69e2513a704d2e32b2f1456e9d6590", checked := Ybaf.checked }
namespace Rows
def none {H : Type} : Left H := { results := [], args := [] }

/-- 'fscheck.LawS6180APart': WHATEVER THE INPUT: true; the input reads as it did. -/
def lawS6180APartSpec : ChangeSpec := { name := "lawS6180APart", fn := fun _ => fun
  | [d1, d2] => { results := [.lit (.bool true)], args := [d1, d2] }
  | _ => none }
def lawS6180APartRow : OpenClaim := { program := "ybulkdwysfmt", sum := "e10e88378e10497f4c1f364648246812fc69e2513a704d2e32b2f1456e9d6590", func := "example.com/quillfs/quillfs/internal/fscheck.LawS6180APart", spec := "lawS6180APart", stops := ["fmt.Sprintf"], inPlace := ["fmt.Sprintf"], apart := false }
/-- NO THEOREM (fmt's text is open here; it may be false): for the released tool's asking of the row's closed facts alone. THE STATEMENT IS 'LawS6180APartToldSaid' (YbulkdwysFmtCards.lean). -/
def LawS6180APartFormAsk : Prop := lawS6180APartRow.holds Ybaf.pinned (OpenSpec.ofChange lawS6180APartSpec)

/-- ITS FALSE NEIGHBOUR: 'it returns false'. Refute it at one input. -/
def lawS6180APartWrong : ChangeSpec := { name := "lawS6180APart", fn := fun _ => fun
  | [d1, d2] => { results := [.lit (.bool false)], args := [d1, d2] }
  | _ => none }
def LawS6180APartWrongFormAsk : Prop := lawS6180APartRow.holds Ybaf.pinned (OpenSpec.ofChange lawS6180APartWrong)

end Rows
end Go.Proofs.YbulkdwysFmt
