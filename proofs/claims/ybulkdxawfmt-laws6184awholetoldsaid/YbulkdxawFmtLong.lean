/-
  LawS6184AWhole (3): where the three are long together.
-/
import Derived.Test.YbulkdxawFmtEq
namespace Go.Proofs.YbulkdxawFmt
open Go.RowKit Go.Extern.Stop Go.Stop Go.Extern

set_option maxRecDepth 100000 in
set_option maxHeartbeats 1000000 in
theorem law_long (nm : ByteArray) (hp : Bool) (oa : Option Addr) (ol oc : Nat) (na : Option Addr) (nl nc : Nat) (ai : Int) (pa : Option Addr) (pl pc : Nat) (w : World)
    (h1 : ol ≤ 281474976710656) (h2 : nl ≤ 281474976710656) (h3 : pl ≤ 281474976710656) (hsum : 1048576 < ol + nl + pl) :
    Calls Ybaf.prog 3 #[.string nm, .bool hp, .slice oa ol oc, .slice na nl nc, .int .u64 ai, .slice pa pl pc] w fun e w' => e = .returned (.bool true) ∧ Below w.heap.size w w' := by
  have hs1 : (1048576 : Int) < (ol : Int) + (nl : Int) + (pl : Int) := by omega
  have hs2 : ¬ (ol : Int) + (nl : Int) + (pl : Int) ≤ 1048576 := by omega
  go_enter Ybaf.func3, Ybaf.ntmps3
  go_wp2
  go_ret
  exact ⟨rfl, Below.refl _ _⟩

end Go.Proofs.YbulkdxawFmt
