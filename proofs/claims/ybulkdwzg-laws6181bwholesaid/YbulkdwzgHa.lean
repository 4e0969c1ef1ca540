/-
  LawS6181BWhole: WALK of heaviestRun's less (21).
-/
import Derived.Test.YbulkdwzgRa
import Derived.Deep.RegionHeld3
import Derived.Sort.Grow
namespace Go.Proofs.Ybulkdwzg.lawB
open Go.RowKit

set_option maxHeartbeats 4000000 in
theorem less21 (W : World) (PP OP PB OB n pc oc i j x y : Nat) (p q : Pr) (hi : i < n) (hj : j < n) (hx : x < n) (hy : y < n)
    (c1 : W.cell? ⟨PP, 0, none⟩ = some (.slice (some ⟨PB, 0, none⟩) n pc)) (c2 : W.cell? ⟨OP, 0, none⟩ = some (.slice (some ⟨OB, 0, none⟩) n oc))
    (c3 : W.cell? ⟨OB, i, none⟩ = some (.int .i64 x)) (c4 : W.cell? ⟨OB, j, none⟩ = some (.int .i64 y))
    (c5 : W.cell? ⟨PB, x * 2, none⟩ = some (.int .i64 p.1)) (c6 : W.cell? ⟨PB, x * 2 + 1, none⟩ = some (.int .i64 p.2))
    (c7 : W.cell? ⟨PB, y * 2, none⟩ = some (.int .i64 q.1)) (c8 : W.cell? ⟨PB, y * 2 + 1, none⟩ = some (.int .i64 q.2)) :
    Calls Yba.prog 21 #[.int .i64 i, .int .i64 j, .pointer (some ⟨PP, 0, none⟩), .pointer (some ⟨OP, 0, none⟩)] W fun e w' => e = .returned (.bool (lt p q)) ∧ ∃ k os, w' = Sort.grow (W.drewN k) os := by
  have hiI : (i : Int) < (n : Int) := by omega
  have hjI : (j : Int) < (n : Int) := by omega
  have hxI : (x : Int) < (n : Int) := by omega
  have hyI : (y : Int) < (n : Int) := by omega
  obtain ⟨pi, pj⟩ := p
  obtain ⟨qi, qj⟩ := q
  simp only at c5 c6 c7 c8
  have fin : ∀ (X Y : Obj) (k : Nat), ((W.alloc X).alloc Y).drewN k = Sort.grow (W.drewN k) (#[X] ++ #[Y]) := fun X Y k => by
    rw [← Sort.grow_grow, ← Sort.alloc_eq_grow, ← Sort.alloc_eq_grow]; rfl
  unfold lt
  simp only
  by_cases h1 : pj < qj
  · go_enter Yba.func21, Yba.ntmps21
    go_wp2
    go_region_held3 (fun w' => w'.cell? ⟨PP, 0, none⟩ = some (.slice (some ⟨PB, 0, none⟩) n pc) ∧ w'.cell? ⟨OP, 0, none⟩ = some (.slice (some ⟨OB, 0, none⟩) n oc) ∧ w'.cell? ⟨OB, i, none⟩ = some (.int .i64 x) ∧ w'.cell? ⟨OB, j, none⟩ = some (.int .i64 y) ∧ w'.cell? ⟨PB, x * 2, none⟩ = some (.int .i64 pi) ∧ w'.cell? ⟨PB, x * 2 + 1, none⟩ = some (.int .i64 pj) ∧ w'.cell? ⟨PB, y * 2, none⟩ = some (.int .i64 qi) ∧ w'.cell? ⟨PB, y * 2 + 1, none⟩ = some (.int .i64 qj)) (go_keep) (fail)
    all_goals go_wp2
    all_goals go_ret
    all_goals exact ⟨by simp [h1], _, _, fin _ _ _⟩
  · by_cases h2 : pj = qj
    · subst h2
      by_cases h3 : qi < pi
      · go_enter Yba.func21, Yba.ntmps21
        go_wp2
        go_region_held3 (fun w' => w'.cell? ⟨PP, 0, none⟩ = some (.slice (some ⟨PB, 0, none⟩) n pc) ∧ w'.cell? ⟨OP, 0, none⟩ = some (.slice (some ⟨OB, 0, none⟩) n oc) ∧ w'.cell? ⟨OB, i, none⟩ = some (.int .i64 x) ∧ w'.cell? ⟨OB, j, none⟩ = some (.int .i64 y) ∧ w'.cell? ⟨PB, x * 2, none⟩ = some (.int .i64 pi) ∧ w'.cell? ⟨PB, x * 2 + 1, none⟩ = some (.int .i64 pj) ∧ w'.cell? ⟨PB, y * 2, none⟩ = some (.int .i64 qi) ∧ w'.cell? ⟨PB, y * 2 + 1, none⟩ = some (.int .i64 pj)) (go_keep) (fail)
        all_goals go_wp2
        all_goals go_ret
        all_goals exact ⟨by simp [h3], _, _, fin _ _ _⟩
      · go_enter Yba.func21, Yba.ntmps21
        go_wp2
        go_region_held3 (fun w' => w'.cell? ⟨PP, 0, none⟩ = some (.slice (some ⟨PB, 0, none⟩) n pc) ∧ w'.cell? ⟨OP, 0, none⟩ = some (.slice (some ⟨OB, 0, none⟩) n oc) ∧ w'.cell? ⟨OB, i, none⟩ = some (.int .i64 x) ∧ w'.cell? ⟨OB, j, none⟩ = some (.int .i64 y) ∧ w'.cell? ⟨PB, x * 2, none⟩ = some (.int .i64 pi) ∧ w'.cell? ⟨PB, x * 2 + 1, none⟩ = some (.int .i64 pj) ∧ w'.cell? ⟨PB, y * 2, none⟩ = some (.int .i64 qi) ∧ w'.cell? ⟨PB, y * 2 + 1, none⟩ = some (.int .i64 pj)) (go_keep) (fail)
        all_goals go_wp2
        all_goals go_ret
        all_goals exact ⟨by simp, _, _, fin _ _ _⟩
    · have h2b : (pj == qj) = false := by rw [beq_eq_false_iff_ne]; exact h2
      go_enter Yba.func21, Yba.ntmps21
      go_wp2
      go_region_held3 (fun w' => w'.cell? ⟨PP, 0, none⟩ = some (.slice (some ⟨PB, 0, none⟩) n pc) ∧ w'.cell? ⟨OP, 0, none⟩ = some (.slice (some ⟨OB, 0, none⟩) n oc) ∧ w'.cell? ⟨OB, i, none⟩ = some (.int .i64 x) ∧ w'.cell? ⟨OB, j, none⟩ = some (.int .i64 y) ∧ w'.cell? ⟨PB, x * 2, none⟩ = some (.int .i64 pi) ∧ w'.cell? ⟨PB, x * 2 + 1, none⟩ = some (.int .i64 pj) ∧ w'.cell? ⟨PB, y * 2, none⟩ = some (.int .i64 qi) ∧ w'.cell? ⟨PB, y * 2 + 1, none⟩ = some (.int .i64 qj)) (go_keep) (fail)
      all_goals go_wp2
      all_goals go_ret
      all_goals exact ⟨by simp [h2], _, _, fin _ _ _⟩

end Go.Proofs.Ybulkdwzg.lawB
