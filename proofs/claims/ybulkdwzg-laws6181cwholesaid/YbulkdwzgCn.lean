/-
  WALK of IsNameStartChar (15): 'nsc', interval by interval.
-/
import Derived.Test.YbulkdwzgRows
import Derived.WalkKit
import Derived.WalkSpells
import Derived.WalkLawsBesides
namespace Go.Proofs.Ybulkdwzg
open Go.RowKit

def nsc (r : Int) : Bool := decide ((58 ≤ r ∧ r ≤ 58) ∨ (65 ≤ r ∧ r ≤ 90) ∨ (95 ≤ r ∧ r ≤ 95) ∨ (97 ≤ r ∧ r ≤ 122) ∨ (192 ≤ r ∧ r ≤ 214) ∨ (216 ≤ r ∧ r ≤ 246) ∨ (248 ≤ r ∧ r ≤ 767) ∨ (880 ≤ r ∧ r ≤ 893) ∨ (895 ≤ r ∧ r ≤ 8191) ∨ (8204 ≤ r ∧ r ≤ 8205) ∨ (8304 ≤ r ∧ r ≤ 8591) ∨ (11264 ≤ r ∧ r ≤ 12271) ∨ (12289 ≤ r ∧ r ≤ 55295) ∨ (63744 ≤ r ∧ r ≤ 64975) ∨ (65008 ≤ r ∧ r ≤ 65533) ∨ (65536 ≤ r ∧ r ≤ 983039))
theorem nsc_t {r : Int} (h : (58 ≤ r ∧ r ≤ 58) ∨ (65 ≤ r ∧ r ≤ 90) ∨ (95 ≤ r ∧ r ≤ 95) ∨ (97 ≤ r ∧ r ≤ 122) ∨ (192 ≤ r ∧ r ≤ 214) ∨ (216 ≤ r ∧ r ≤ 246) ∨ (248 ≤ r ∧ r ≤ 767) ∨ (880 ≤ r ∧ r ≤ 893) ∨ (895 ≤ r ∧ r ≤ 8191) ∨ (8204 ≤ r ∧ r ≤ 8205) ∨ (8304 ≤ r ∧ r ≤ 8591) ∨ (11264 ≤ r ∧ r ≤ 12271) ∨ (12289 ≤ r ∧ r ≤ 55295) ∨ (63744 ≤ r ∧ r ≤ 64975) ∨ (65008 ≤ r ∧ r ≤ 65533) ∨ (65536 ≤ r ∧ r ≤ 983039)) : nsc r = true := by unfold nsc; exact decide_eq_true h
theorem nsc_f {r : Int} (h : ¬ ((58 ≤ r ∧ r ≤ 58) ∨ (65 ≤ r ∧ r ≤ 90) ∨ (95 ≤ r ∧ r ≤ 95) ∨ (97 ≤ r ∧ r ≤ 122) ∨ (192 ≤ r ∧ r ≤ 214) ∨ (216 ≤ r ∧ r ≤ 246) ∨ (248 ≤ r ∧ r ≤ 767) ∨ (880 ≤ r ∧ r ≤ 893) ∨ (895 ≤ r ∧ r ≤ 8191) ∨ (8204 ≤ r ∧ r ≤ 8205) ∨ (8304 ≤ r ∧ r ≤ 8591) ∨ (11264 ≤ r ∧ r ≤ 12271) ∨ (12289 ≤ r ∧ r ≤ 55295) ∨ (63744 ≤ r ∧ r ≤ 64975) ∨ (65008 ≤ r ∧ r ≤ 65533) ∨ (65536 ≤ r ∧ r ≤ 983039))) : nsc r = false := by unfold nsc; exact decide_eq_false h

theorem ret_b {a b : Bool} (h : a = b) : Ending.returned (.bool a) = .returned (.bool b) := by rw [h]

set_option maxRecDepth 100000 in
set_option maxHeartbeats 1000000 in
theorem nsc_hi (r : Int) (w : World) (h : 8192 ≤ r) : Calls Yba.prog 15 #[.int .i32 r] w fun e w' => e = .returned (.bool (nsc r)) ∧ w' = w := by
  go_enter Yba.func15, Yba.ntmps15
  go_wp2
  all_goals go_ret
  all_goals exact ⟨ret_b (by unfold nsc; rw [Bool.eq_iff_iff]; simp <;> omega), rfl⟩
set_option maxRecDepth 100000 in
set_option maxHeartbeats 1000000 in
theorem nsc_lo (r : Int) (w : World) (h : ¬ 8192 ≤ r) : Calls Yba.prog 15 #[.int .i32 r] w fun e w' => e = .returned (.bool (nsc r)) ∧ w' = w := by
  go_enter Yba.func15, Yba.ntmps15
  go_wp2
  all_goals go_ret
  all_goals exact ⟨ret_b (by unfold nsc; rw [Bool.eq_iff_iff]; simp <;> omega), rfl⟩
end Go.Proofs.Ybulkdwzg
