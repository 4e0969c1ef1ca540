/-
  WALKS of has (10), set (11), Edges (12), EdgeTarget (13): contracts for LawS6183CWhole.
-/
import Derived.Test.YbulkdxaiRows
import Derived.WalkKit
import Derived.Laws.Bits64b
import Derived.WalkSpells
import Derived.WalkLawsBesides
import Derived.Deep.QuietTactic
import Derived.BigQuiet
import Derived.Deep.RegionHeld3
namespace Go.Proofs.Ybulkdxai
open Go.RowKit

theorem pow_lt64 {k : Nat} (hk : k < 64) : 2 ^ k < 18446744073709551616 := by
  have : (2 : Nat) ^ k ≤ 2 ^ 63 := Nat.pow_le_pow_right (by omega) (by omega)
  omega
theorem wrap_pow {k : Nat} (hk : k < 64) : IntKind.u64.wrap (2 ^ k) = ((2 ^ k : Nat) : Int) := by
  have h := pow_lt64 hk
  have e : ((2 : Int) ^ k) = ((2 ^ k : Nat) : Int) := by simp
  rw [e]
  generalize 2 ^ k = y at h
  rw [IntKind.wrap_u64, Int.emod_eq_of_lt (by omega) (by omega)]
theorem and_bit (x k : Nat) (hx : x < 18446744073709551616) (hk : k < 64) : (bits .and .u64 (x : Int) (IntKind.u64.wrap (2 ^ k)) != 0) = x.testBit k := by
  rw [wrap_pow hk, bits_and_u64_nat _ _ hx (pow_lt64 hk)]
  cases hb : x.testBit k
  · have : x &&& 2 ^ k = 0 := Nat.eq_of_testBit_eq fun i => by
      rw [Nat.testBit_and, Nat.testBit_two_pow, Nat.zero_testBit]
      by_cases e : k = i
      · subst e; simp [hb]
      · simp [e]
    simp [this]
  · have : x &&& 2 ^ k ≠ 0 := fun h => by
      have := congrArg (fun y => y.testBit k) h
      simp [Nat.testBit_and, hb] at this
    simp only [bne_iff_ne, ne_eq]
    omega

theorem has_c (b : Nat) (m c i : Nat) (x : Nat) (w : World) (hi : i < 2 ^ 40) (hm : i / 64 < m) (hx : x < 18446744073709551616) (hc : w.cell? ⟨b, i / 64, none⟩ = some (.int .u64 x)) :
    Calls Yba.prog 10 #[.slice (some ⟨b, 0, none⟩) m c, .int .i64 i] w fun e w' => e = .returned (.bool (x.testBit (i % 64))) ∧ ∃ q, w' = w.drewN q := by
  have hmI : (i : Int).tdiv 64 < (m : Int) := by rw [Int.tdiv_eq_ediv_of_nonneg (by omega)]; omega
  go_enter Yba.func10, Yba.ntmps10
  go_wp2
  go_quiet (fail)
  go_wp2
  go_ret
  exact ⟨by rw [and_bit x _ hx (by omega)]; rfl, _, rfl⟩

theorem or_bit (x k : Nat) (hx : x < 18446744073709551616) (hk : k < 64) : bits .or .u64 (x : Int) (IntKind.u64.wrap (2 ^ k)) = ((x ||| 2 ^ k : Nat) : Int) := by
  rw [wrap_pow hk, bits_or_u64_nat _ _ hx (pow_lt64 hk)]

theorem set_c (b : Nat) (m c i : Nat) (x : Nat) (w : World) (hi : i < 2 ^ 40) (hm : i / 64 < m) (hx : x < 18446744073709551616) (hc : w.cell? ⟨b, i / 64, none⟩ = some (.int .u64 x)) (hf : w.frozen? ⟨b, i / 64, none⟩ = false) :
    Calls Yba.prog 11 #[.slice (some ⟨b, 0, none⟩) m c, .int .i64 i] w fun e w' => e = .returned (.tuple #[]) ∧ ∃ q, w' = (w.setCell ⟨b, i / 64, none⟩ (.int .u64 ((x ||| 2 ^ (i % 64) : Nat) : Int))).drewN q := by
  have hmI : (i : Int).tdiv 64 < (m : Int) := by rw [Int.tdiv_eq_ediv_of_nonneg (by omega)]; omega
  have hor := or_bit x (i % 64) hx (by omega)
  go_enter Yba.func11, Yba.ntmps11
  go_wp2
  go_region
  all_goals go_end0
  all_goals exact ⟨rfl, _, by rw [← hor]; rfl⟩

theorem edges_c (G A n c i : Nat) (a b : Int) (w : World) (hi : i + 1 < n) (hn : n < 2 ^ 40) (h1 : w.cell? ⟨G, 13, none⟩ = some (.slice (some ⟨A, 0, none⟩) n c)) (ha : w.cell? ⟨A, i, none⟩ = some (.int .u32 a)) (hb : w.cell? ⟨A, i + 1, none⟩ = some (.int .u32 b)) (ra : 0 ≤ a ∧ a < 4294967296) (rb : 0 ≤ b ∧ b < 4294967296) :
    Calls Yba.prog 12 #[.pointer (some ⟨G, 0, none⟩), .int .i64 i] w fun e w' => e = .returned (.tuple #[.int .i64 a, .int .i64 b]) ∧ ∃ q, w' = w.drewN q := by
  have hiI : (i : Int) < (n : Int) := by omega
  have hiJ : (i : Int) + 1 < (n : Int) := by omega
  go_enter Yba.func12, Yba.ntmps12
  go_wp2
  go_quiet (fail)
  go_wp2
  go_ret2
  exact ⟨rfl, _, rfl⟩

theorem target_c (G A n c e : Nat) (t : Int) (w : World) (hi : e < n) (h1 : w.cell? ⟨G, 11, none⟩ = some (.slice (some ⟨A, 0, none⟩) n c)) (ht : w.cell? ⟨A, e, none⟩ = some (.int .u32 t)) (rt : 0 ≤ t ∧ t < 4294967296) :
    Calls Yba.prog 13 #[.pointer (some ⟨G, 0, none⟩), .int .i64 e] w fun x w' => x = .returned (.int .i64 t) ∧ w = w' := by
  have hiI : (e : Int) < (n : Int) := by omega
  go_enter Yba.func13, Yba.ntmps13
  go_wp2
  go_ret
  exact ⟨rfl, rfl⟩

end Go.Proofs.Ybulkdxai
