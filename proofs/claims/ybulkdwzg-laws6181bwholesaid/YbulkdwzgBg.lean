/-
  LawS6181BWhole: THE TREE's WAYS: a look below x meets the marks of u + 1 just where u is below x.
-/
import Derived.Test.YbulkdwzgBf
namespace Go.Proofs.Ybulkdwzg.lawB

theorem low_all : ((List.range 513).all fun v => v == 0 || (decide (0 < low v) && decide (low v ≤ v))) = true := by decide +kernel
theorem low_pos {v : Nat} (h : v ≤ 512) (h0 : 0 < v) : 0 < low v ∧ low v ≤ v := by
  have := List.all_eq_true.1 low_all v (List.mem_range.2 (by omega))
  simp only [Bool.or_eq_true, beq_iff_eq, Bool.and_eq_true, decide_eq_true_eq] at this
  rcases this with e | e
  · omega
  · exact e
/-- Where a look goes from v on. -/
def qry : Nat → Nat → List Nat
  | 0, _ => []
  | f + 1, v => if v = 0 then [] else v :: qry f (v - low v)

theorem qry_cover : ∀ (f x : Nat), x ≤ f → x ≤ 512 → ∀ u, 0 < u → u ≤ x → ∃ v, v ∈ qry f x ∧ v - low v < u ∧ u ≤ v ∧ v ≤ x
  | 0, x, h, _, u, h0, hu => absurd hu (by omega)
  | f + 1, x, h, h5, u, h0, hu => by
    have hx : x ≠ 0 := by omega
    have hl := low_pos h5 (by omega)
    by_cases e : x - low x < u
    · exact ⟨x, by simp [qry, hx], e, hu, Nat.le_refl _⟩
    · obtain ⟨v, h1, h2, h3, h4⟩ := qry_cover f (x - low x) (by omega) (by omega) u h0 (by omega)
      exact ⟨v, by simp [qry, hx, h1], h2, h3, by omega⟩
theorem mark {u v : Nat} (hv : v ≤ 512) (h1 : v - low v < u) (h2 : u ≤ v) : v ∈ upd 512 11 u := by
  have a := List.all_eq_true.1 mark_all v (List.mem_range.2 (by omega))
  have b := List.all_eq_true.1 a (v - u) (List.mem_range.2 (by omega))
  have e : v - (v - u) = u := by omega
  rw [e] at b
  simpa using b

end Go.Proofs.Ybulkdwzg.lawB
