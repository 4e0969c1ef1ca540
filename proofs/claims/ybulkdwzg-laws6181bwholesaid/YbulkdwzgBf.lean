/-
  LawS6181BWhole: THE TREE's WAYS, a finite check.
-/
namespace Go.Proofs.Ybulkdwzg.lawB

/-- The lowest bit of v. -/
def low (v : Nat) : Nat := v - (v &&& (v - 1))
/-- Where a mark goes from v on, up to m. -/
def upd (m : Nat) : Nat → Nat → List Nat
  | 0, _ => []
  | f + 1, v => if m < v then [] else v :: upd m f (v + low v)
theorem mark_all : ((List.range 513).all fun v => (List.range (low v)).all fun r => (upd 512 11 (v - r)).contains v) = true := by decide +kernel

end Go.Proofs.Ybulkdwzg.lawB
