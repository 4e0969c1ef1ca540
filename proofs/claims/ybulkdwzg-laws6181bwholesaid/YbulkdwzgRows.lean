/-
  No cell of these rows narrows 'for every input' (looked for: loops, veiled, ifaces, maps, wideKeys, modest, calm, conditions, laid).
  DERIVED. THE GIVEN ROWS OF THIS SEAT. 3 by the template 'for every input the law returns true; each argument reads behind the call as it read before'; 0 by the template 'total and deterministic' (their statements: YbulkdwzgTotals.lean).
  GIVEN WITH THE SEED: the statements are not yours to turn. If you find one false, say at which input.
  Laid BY PROGRAM, IN A SANDBOX (cutbox-rows.mjs): the forced cells as the released guide's own fill.sh prints them over the translation e55e30a72c917541… (all of the seat's roots in one cut). By AI agents, Wed Nov 11 2026. No macro, syntax, notation, axiom, sorry.
-/
import Derived.Test.YbulkdwzgChecked
import GoSem.Claim
import GoSem.ClaimJoined
import GoSem.ClaimMapViews
import Derived.JoinedTies
import Derived.KernelRfl
namespace Go.Proofs.Ybulkdwzg
/- THE CELL 'sum', in the pinned program and in every row, IS THE sha256 OF THE DUMP (.gsa) THAT YbulkdwzgProg.lean LOADS. Nothing in Lean hashes anything: it is a label: what it is worth is what the hold of that sum in a sandbox is worth. -/
noncomputable def Yba.pinned : Pinned := { name := "ybulkdwzg", sum := "e55e30a72c917541f0b22f7075e3e94bf5c58d32037c5dabd41e478e9e445474", checked := Yba.checked }
namespace Rows
def none {H : Type} : Left H := { results := [], args := [] }

/-- 'optree.LawS6181AWhole': WHATEVER THE INPUT: true; the input reads as it did. -/
def lawS6181AWholeSpec : ChangeSpec := { name := "lawS6181AWhole", fn := fun _ => fun
  | [d1, d2, d3] => { results := [.lit (.bool true)], args := [d1, d2, d3] }
  | _ => none }
def lawS6181AWholeRow : OpenClaim := { program := "ybulkdwzg", sum := "e55e30a72c917541f0b22f7075e3e94bf5c58d32037c5dabd41e478e9e445474", func := "example.com/treeweave/treeweave/internal/optree.LawS6181AWhole", spec := "lawS6181AWhole", apart := false }
def LawS6181AWholeSaid : Prop := lawS6181AWholeRow.holds Yba.pinned (OpenSpec.ofChange lawS6181AWholeSpec)

/-- ITS FALSE NEIGHBOUR: 'it returns false'. Refute it at one input. -/
def lawS6181AWholeWrong : ChangeSpec := { name := "lawS6181AWhole", fn := fun _ => fun
  | [d1, d2, d3] => { results := [.lit (.bool false)], args := [d1, d2, d3] }
  | _ => none }
def LawS6181AWholeWrongFalsely : Prop := lawS6181AWholeRow.holds Yba.pinned (OpenSpec.ofChange lawS6181AWholeWrong)

/-- 'optree.LawS6181BWhole': WHATEVER THE INPUT: true; the input reads as it did. -/
def lawS6181BWholeSpec : ChangeSpec := { name := "lawS6181BWhole", fn := fun _ => fun
  | [d1, d2] => { results := [.lit (.bool true)], args := [d1, d2] }
  | _ => none }
def lawS6181BWholeRow : OpenClaim := { program := "ybulkdwzg", sum := "e55e30a72c917541f0b22f7075e3e94bf5c58d32037c5dabd41e478e9e445474", func := "example.com/treeweave/treeweave/internal/optree.LawS6181BWhole", spec := "lawS6181BWhole", inPlace := ["internal/reflectlite.ValueOf", "internal/reflectlite.Swapper", "(internal/reflectlite.Value).Len"], unfollowed := true, recurses := true, apart := false }
def LawS6181BWholeSaid : Prop := lawS6181BWholeRow.holds Yba.pinned (OpenSpec.ofChange lawS6181BWholeSpec)

/-- ITS FALSE NEIGHBOUR: 'it returns false'. Refute it at one input. -/
def lawS6181BWholeWrong : ChangeSpec := { name := "lawS6181BWhole", fn := fun _ => fun
  | [d1, d2] => { results := [.lit (.bool false)], args := [d1, d2] }
  | _ => none }
def LawS6181BWholeWrongFalsely : Prop := lawS6181BWholeRow.holds Yba.pinned (OpenSpec.ofChange lawS6181BWholeWrong)

/-- 'xmlchars.LawS6181CWhole': WHATEVER THE INPUT: true; the input reads as it did. -/
def lawS6181CWholeSpec : ChangeSpec := { name := "lawS6181CWhole", fn := fun _ => fun
  | [d] => { results := [.lit (.bool true)], args := [d] }
  | _ => none }
def lawS6181CWholeRow : OpenClaim := { program := "ybulkdwzg", sum := "e55e30a72c917541f0b22f7075e3e94bf5c58d32037c5dabd41e478e9e445474", func := "example.com/treeweave/treeweave/internal/xmlchars.LawS6181CWhole", spec := "lawS6181CWhole", apart := false }
def LawS6181CWholeSaid : Prop := lawS6181CWholeRow.holds Yba.pinned (OpenSpec.ofChange lawS6181CWholeSpec)

/-- ITS FALSE NEIGHBOUR: 'it returns false'. Refute it at one input. -/
def lawS6181CWholeWrong : ChangeSpec := { name := "lawS6181CWhole", fn := fun _ => fun
  | [d] => { results := [.lit (.bool false)], args := [d] }
  | _ => none }
def LawS6181CWholeWrongFalsely : Prop := lawS6181CWholeRow.holds Yba.pinned (OpenSpec.ofChange lawS6181CWholeWrong)

end Rows
end Go.Proofs.Ybulkdwzg
