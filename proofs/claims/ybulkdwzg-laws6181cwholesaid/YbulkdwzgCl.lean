/-
  WALK of LawS6181CWhole (5).
-/
import Derived.Test.YbulkdwzgCm
namespace Go.Proofs.Ybulkdwzg
open Go.RowKit

theorem nsc_any (r : Int) (w : World) : Calls Yba.prog 15 #[.int .i32 r] w fun e w' => e = .returned (.bool (nsc r)) ∧ w = w' := by
  by_cases h : 8192 ≤ r
  · exact (nsc_hi r w h).mono fun e w' h => ⟨h.1, h.2.symm⟩
  · exact (nsc_lo r w h).mono fun e w' h => ⟨h.1, h.2.symm⟩

theorem tbl_some (w : World) (g : Nat) (hg : w.heap[g]? = some (.cells tblA 66 (0, 0))) (j : Nat) (hj : j < 32) : ∃ v : Int, w.cell? ⟨g, j, none⟩ = some (.int .i32 v) := by
  refine ⟨tblL.getD j 0, ?_⟩
  rw [cell_of_row w g _ _ _ _ hg]
  have hl : j < tblL.length := hj
  simp [tblA, hl]

set_option maxRecDepth 100000 in
set_option maxHeartbeats 1000000 in
theorem law_c (r : Int) (w : World) : Calls Yba.prog 5 #[.int .i32 r] w fun e w' => e = .returned (.bool true) ∧ Below w.heap.size w w' := by
  go_enter Yba.func5, Yba.ntmps5
  go_wp2_with fail
  refine (nsc_any r _).mono ?_
  rintro e w1 ⟨rfl, rfl⟩
  go_wp2_with fail
  refine (model_any r _).mono ?_
  rintro e w2 ⟨rfl, hb⟩
  go_wp2_with fail
  refine (ranges_any w2).mono ?_
  rintro e w3 ⟨rfl, hb3⟩
  have hb' := hb.trans (hb3.mono hb.size)
  clear hb hb3
  go_wp2_with (first | (refine store_gen rfl 66 _ _ rfl w3.heap.size tblA rfl rfl 66 zeroA (by exact heap_alloc_new w3 _) isz66' zero_tbl tbl_one w.heap.size w (by exact hb'.alloc hb'.size _) hb'.size ?_; intro w4 hg4 hb4; obtain ⟨V, hV⟩ := tbl_some w4 _ hg4 ((r % 32 / 2).toNat * 2 + (r % 2).toNat) (by omega); clear hg4))
  refine (nsc_any _ _).mono ?_
  rintro e w5 ⟨rfl, rfl⟩
  go_wp2_with fail
  refine (model_any _ _).mono ?_
  rintro e w6 ⟨rfl, hb6⟩
  go_wp2
  go_ret
  exact ⟨ret_b (by simp), hb4.trans (hb6.mono hb4.size)⟩
end Go.Proofs.Ybulkdwzg
