/-
  LawS6181BWhole: WALK of zzs6181bbetter (14).
-/
import Derived.Test.YbulkdwzgBa
namespace Go.Proofs.Ybulkdwzg.lawB
open Go.RowKit

theorem drewN_add (w : World) (a b : Nat) : (w.drewN a).drewN b = w.drewN (a + b) := by simp [World.drewN, Nat.add_assoc]
/-- Is the run that ends at x better than the one that ends at y? -/
def bet (Sc : Nat → Nat) (I : Nat → Int) (x y : Nat) : Bool :=
  if Sc x ≠ Sc y then decide (Sc y < Sc x) else if I x ≠ I y then decide (I x < I y) else decide (y < x)

set_option maxHeartbeats 2000000 in
theorem better_some (Sc : Nat → Nat) (I : Nat → Int) (x y n SB OB sc oc : Nat) (hx : x < n) (hy : y < n) (w : World) (hs : ∀ k, k = x ∨ k = y → w.cell? ⟨SB, k, none⟩ = some (.int .i64 (Sc k))) (ho : ∀ k, k = x ∨ k = y → w.cell? ⟨OB, k * 2, none⟩ = some (.int .i64 (I k))) :
    Calls Yba.prog 14 #[.int .i64 x, .int .i64 y, .slice (some ⟨SB, 0, none⟩) n sc, .slice (some ⟨OB, 0, none⟩) n oc] w fun e w' => e = .returned (.bool (bet Sc I x y)) ∧ ∃ q, w' = w.drewN q := by
  have s1 := hs x (.inl rfl)
  have s2 := hs y (.inr rfl)
  have o1 := ho x (.inl rfl)
  have o2 := ho y (.inr rfl)
  have hxI : (x : Int) < (n : Int) := by omega
  have hyI : (y : Int) < (n : Int) := by omega
  unfold bet
  clear hs ho
  generalize Sc x = a at s1 ⊢
  generalize Sc y = b at s2 ⊢
  generalize I x = c at o1 ⊢
  generalize I y = d at o2 ⊢
  by_cases h1 : a = b
  · subst h1
    rw [if_neg (by simp)]
    by_cases h2 : c = d
    · subst h2
      rw [if_neg (by simp)]
      go_enter Yba.func14, Yba.ntmps14
      go_wp2
      go_quiet (fail)
      go_wp2
      go_quiet (fail)
      go_wp2
      go_ret
      exact ⟨by simp, _, rfl⟩
    · rw [if_pos h2]
      have h2b : (c == d) = false := by rw [beq_eq_false_iff_ne]; exact h2
      have h2c : (c != d) = true := by simp [bne, h2b]
      go_enter Yba.func14, Yba.ntmps14
      go_wp2
      go_quiet (fail)
      go_wp2
      go_quiet (fail)
      go_wp2
      go_quiet (fail)
      go_wp2
      go_ret
      exact ⟨rfl, _, by rw [drewN_add, drewN_add]⟩
  · rw [if_pos h1]
    have h1b : ((a : Int) == (b : Int)) = false := by rw [beq_eq_false_iff_ne]; omega
    have h1c : ((a : Int) != (b : Int)) = true := by simp [bne, h1b]
    go_enter Yba.func14, Yba.ntmps14
    go_wp2
    go_quiet (fail)
    go_wp2
    go_quiet (fail)
    go_wp2
    go_ret
    exact ⟨by simp, _, by rw [drewN_add]⟩

set_option maxHeartbeats 1000000 in
theorem better_none (x : Nat) (s o : Value) (w : World) : Calls Yba.prog 14 #[.int .i64 x, .int .i64 (-1), s, o] w fun e w' => e = .returned (.bool true) ∧ w = w' := by
  go_enter Yba.func14, Yba.ntmps14
  go_wp2
  go_ret
  exact ⟨rfl, rfl⟩

end Go.Proofs.Ybulkdwzg.lawB
