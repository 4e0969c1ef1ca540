/-
  WALKS for LawS6181CWhole: zzs6181cranges (17), zzs6181cmodel (16), IsNameStartChar (15).
-/
import Derived.Test.YbulkdwzgRows
import Derived.WalkKit
import Derived.WalkSpells
import Derived.WalkLawsBesides
import Derived.Deep.QuietTactic
import Derived.BigQuiet
import Derived.Laws.CopyOwn
namespace Go.Proofs.Ybulkdwzg
open Go.RowKit

/-- The table, row by row. -/
def tblL : List Int := [58, 58, 65, 90, 95, 95, 97, 122, 192, 214, 216, 246, 248, 767, 880, 893, 895, 8191, 8204, 8205, 8304, 8591, 11264, 12271, 12289, 55295, 63744, 64975, 65008, 65533, 65536, 983039]
def tblA : Array Value := (tblL.map (Value.int .i32)).toArray
def zeroA : Array Value := (List.replicate 32 (Value.int .i32 0)).toArray

theorem tblA_lit : #[Value.int .i32 58, Value.int .i32 58, Value.int .i32 65, Value.int .i32 90, Value.int .i32 95, Value.int .i32 95, Value.int .i32 97, Value.int .i32 122, Value.int .i32 192, Value.int .i32 214, Value.int .i32 216, Value.int .i32 246, Value.int .i32 248, Value.int .i32 767, Value.int .i32 880, Value.int .i32 893, Value.int .i32 895, Value.int .i32 8191, Value.int .i32 8204, Value.int .i32 8205, Value.int .i32 8304, Value.int .i32 8591, Value.int .i32 11264, Value.int .i32 12271, Value.int .i32 12289, Value.int .i32 55295, Value.int .i32 63744, Value.int .i32 64975, Value.int .i32 65008, Value.int .i32 65533, Value.int .i32 65536, Value.int .i32 983039] = tblA := rfl

theorem isz66 : (Yba.prog.info? 66).map (·.size) = some 32 := by kernel_rfl


theorem isz66' : (Yba.prog.info? 66).map (·.size) = some tblA.size := by kernel_rfl
theorem tbl_one : tblA.all (·.oneCell') = true := by decide +kernel
theorem zero_tbl : zeroA.size = tblA.size := by decide +kernel
theorem zero_lit : #[Value.int .i32 0, Value.int .i32 0, Value.int .i32 0, Value.int .i32 0, Value.int .i32 0, Value.int .i32 0, Value.int .i32 0, Value.int .i32 0, Value.int .i32 0, Value.int .i32 0, Value.int .i32 0, Value.int .i32 0, Value.int .i32 0, Value.int .i32 0, Value.int .i32 0, Value.int .i32 0, Value.int .i32 0, Value.int .i32 0, Value.int .i32 0, Value.int .i32 0, Value.int .i32 0, Value.int .i32 0, Value.int .i32 0, Value.int .i32 0, Value.int .i32 0, Value.int .i32 0, Value.int .i32 0, Value.int .i32 0, Value.int .i32 0, Value.int .i32 0, Value.int .i32 0, Value.int .i32 0] = zeroA := rfl

/-- An operation that yields a value and leaves the world as it is: a closed fact for the kernel. -/
theorem readTo {P : Program} {ops : Array Oper} {rest : List Oper} {o : Oper} {a : Act} {w : World} {Q : Exit → Act → World → Prop} (hg : o.guard = none)
    (v : Value) (hrun : (execOp a.eval o).run P w = .ok (.value v) w)
    (h : wpList P ops Q rest (a.put o.dst v) w) : wpList P ops Q (o :: rest) a w := by
  refine wpList_plain hg fun K hK => ?_
  unfold Oper.wp
  rw [hrun, Oper.upon_value]
  exact hK _ _ h

theorem built66 (p : Value) : Yba.prog.built 66 (Array.map (fun x => match x with | (i, x) => (i, ({ tmps := #[p,
  Value.agg #[.int .i32 58, .int .i32 58], Value.agg #[.int .i32 65, .int .i32 90], Value.agg #[.int .i32 95, .int .i32 95], Value.agg #[.int .i32 97, .int .i32 122],
  Value.agg #[.int .i32 192, .int .i32 214], Value.agg #[.int .i32 216, .int .i32 246], Value.agg #[.int .i32 248, .int .i32 767], Value.agg #[.int .i32 880, .int .i32 893],
  Value.agg #[.int .i32 895, .int .i32 8191], Value.agg #[.int .i32 8204, .int .i32 8205], Value.agg #[.int .i32 8304, .int .i32 8591], Value.agg #[.int .i32 11264, .int .i32 12271],
  Value.agg #[.int .i32 12289, .int .i32 55295], Value.agg #[.int .i32 63744, .int .i32 64975], Value.agg #[.int .i32 65008, .int .i32 65533], Value.agg #[.int .i32 65536, .int .i32 983039], undef], defers := [] } : Act).eval x))
  #[(0, Operand.tmp 1), (1, Operand.tmp 2), (2, Operand.tmp 3), (3, Operand.tmp 4), (4, Operand.tmp 5), (5, Operand.tmp 6), (6, Operand.tmp 7), (7, Operand.tmp 8), (8, Operand.tmp 9), (9, Operand.tmp 10), (10, Operand.tmp 11), (11, Operand.tmp 12), (12, Operand.tmp 13), (13, Operand.tmp 14), (14, Operand.tmp 15), (15, Operand.tmp 16)]).toList = some tblA := by kernel_rfl

set_option maxRecDepth 100000 in
set_option maxHeartbeats 400000 in
theorem ranges_any (w : World) : Calls Yba.prog 17 #[] w fun e w' => e = .returned (.agg tblA) ∧ Below w.heap.size w w' := by
  go_enter Yba.func17, Yba.ntmps17
  go_wp2_with (first | (refine wpList_build rfl 66 _ rfl (by rw [built66]; rfl) ?_; rw [built66]; show wpList _ _ _ _ (Act.put _ (some 17) (.agg tblA)) _) | (refine wpList_store_row rfl 66 _ _ rfl w.heap.size tblA rfl rfl 66 zeroA (by exact heap_alloc_new w _) isz66' zero_tbl tbl_one ?_))
  refine bodyPost_ret (v := .agg tblA) (results_cell_row Yba.results17 _ _ w.heap.size 66 tblA (0, 0) (.array 16 65) rfl (setRow_heap _ _ zeroA _ _ _ (by exact heap_alloc_new w _)) Yba.underlying66 rfl isz66') rfl ⟨rfl, below_setRow ((Below.refl _ w).alloc (Nat.le_refl _) _) (Nat.le_refl _) _⟩

end Go.Proofs.Ybulkdwzg
