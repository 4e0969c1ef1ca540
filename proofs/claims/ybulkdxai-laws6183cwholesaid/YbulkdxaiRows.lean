/-
  No cell of these rows narrows 'for every input' (looked for: loops, veiled, ifaces, maps, wideKeys, modest, calm, conditions, laid).
  DERIVED. THE GIVEN ROWS OF THIS SEAT. 1 by the template 'for every input the law returns true; each argument reads behind the call as it read before'; 0 by the template 'total and deterministic' (their statements: YbulkdxaiTotals.lean).
  GIVEN WITH THE SEED: the statements are not yours to turn. If you find one false, say at which input.
  Laid BY PROGRAM, IN A SANDBOX (cutbox-rows.mjs): the forced cells as the released guide's own fill.sh prints them over the translation 610b4ac289c435a9… (all of the seat's roots in one cut). By AI agents, Wed Nov 11 2026. No macro, syntax, notation, axiom, sorry.
-/
import Derived.Test.YbulkdxaiChecked
import GoSem.Claim
import GoSem.ClaimJoined
import GoSem.ClaimMapViews
import Derived.JoinedTies
import Derived.KernelRfl
namespace Go.Proofs.Ybulkdxai
/- THE CELL 'sum', in the pinned program and in every row, IS THE sha256 OF THE DUMP (.gsa) THAT YbulkdxaiProg.lean LOADS. Nothing in Lean hashes anything: it is a label: what it is worth is what the hold of that sum in a sandbox is worth. -/
noncomputable def Yba.pinned : Pinned := { name := "ybulkdxai", sum := "610b4ac289c435a96cd969d69e639f633483c4219521269879dabaab2d8c4768", checked := Yba.checked }
namespace Rows
def none {H : Type} : Left H := { results := [], args := [] }

/-- 'graph.LawS6183CWhole': WHATEVER THE INPUT: true; the input reads as it did. -/
def lawS6183CWholeSpec : ChangeSpec := { name := "lawS6183CWhole", fn := fun _ => fun
  | [d1, d2, d3, d4, d5, d6] => { results := [.lit (.bool true)], args := [d1, d2, d3, d4, d5, d6] }
  | _ => none }
def lawS6183CWholeRow : OpenClaim := { program := "ybulkdxai", sum := "610b4ac289c435a96cd969d69e639f633483c4219521269879dabaab2d8c4768", func := "example.com/retainscope/retainscope/graph.LawS6183CWhole", spec := "lawS6183CWhole", unfollowed := true, recurses := true, apart := false }
def LawS6183CWholeSaid : Prop := lawS6183CWholeRow.holds Yba.pinned (OpenSpec.ofChange lawS6183CWholeSpec)

/-- ITS FALSE NEIGHBOUR: 'it returns false'. Refute it at one input. -/
def lawS6183CWholeWrong : ChangeSpec := { name := "lawS6183CWhole", fn := fun _ => fun
  | [d1, d2, d3, d4, d5, d6] => { results := [.lit (.bool false)], args := [d1, d2, d3, d4, d5, d6] }
  | _ => none }
def LawS6183CWholeWrongFalsely : Prop := lawS6183CWholeRow.holds Yba.pinned (OpenSpec.ofChange lawS6183CWholeWrong)

end Rows
end Go.Proofs.Ybulkdxai
