/-
  LawS6181BWhole: WALKS of zzs6181bless (13), zzs6181bbetter (14), zzs6181bweight (12).
-/
import Derived.Test.YbulkdwzgRows
import Derived.WalkKit
import Derived.Laws.Bits64b
import Derived.WalkSpells
import Derived.WalkLawsBesides
import Derived.Deep.QuietTactic
import Derived.BigQuiet
import Derived.Deep.RegionHeld3
namespace Go.Proofs.Ybulkdwzg.lawB
open Go.RowKit

/-- A pair: i, j. -/
abbrev Pr : Type := Int × Int
def pv (p : Pr) : Value := .agg #[.int .i64 p.1, .int .i64 p.2]
def lt (a b : Pr) : Bool := decide (a.2 < b.2) || (decide (a.2 = b.2) && decide (b.1 < a.1))

set_option maxHeartbeats 1000000 in
theorem less_c (a b : Pr) (w : World) : Calls Yba.prog 13 #[pv a, pv b] w fun e w' => e = .returned (.bool (lt a b)) ∧ Below w.heap.size w w' := by
  obtain ⟨ai, aj⟩ := a
  obtain ⟨bi, bj⟩ := b
  unfold pv lt
  simp only
  have hb : ∀ X Y, Below w.heap.size w ((w.alloc X).alloc Y) := fun X Y => ((Below.refl _ w).alloc (Nat.le_refl _) X).alloc (by simp) Y
  by_cases h1 : aj < bj
  · go_enter Yba.func13, Yba.ntmps13
    go_wp2
    go_ret
    exact ⟨by simp [h1], hb _ _⟩
  · by_cases h2 : aj = bj
    · subst h2
      by_cases h3 : bi < ai
      · go_enter Yba.func13, Yba.ntmps13
        go_wp2
        go_ret
        exact ⟨by simp, hb _ _⟩
      · go_enter Yba.func13, Yba.ntmps13
        go_wp2
        go_ret
        exact ⟨by simp [h3], hb _ _⟩
    · have h2b : (aj == bj) = false := by rw [beq_eq_false_iff_ne]; exact h2
      go_enter Yba.func13, Yba.ntmps13
      go_wp2
      go_ret
      exact ⟨by simp [h1], hb _ _⟩

/-- The row of the weights' bytes. -/
def BY (w : World) (a : Option Addr) (n : Nat) (Z : Nat → Nat) : Prop := 0 < n → ∃ b off, a = some ⟨b, off, none⟩ ∧ ∀ j, j < n → w.cell? ⟨b, off + j, none⟩ = some (.int .u8 (Z j))

def hsh (p : Pr) : Nat := (IntKind.u64.wrap (IntKind.u64.wrap (IntKind.u64.wrap p.1 * 31) + IntKind.u64.wrap p.2)).toNat
/-- The weight of a pair. -/
def WT (n : Nat) (Z : Nat → Nat) (p : Pr) : Nat := if n = 0 then 1 else 1 + Z (hsh p % n) % 8

set_option maxHeartbeats 1000000 in
theorem weight_c (p : Pr) (a : Option Addr) (n cap : Nat) (Z : Nat → Nat) (hn : n ≤ 1048576) (w : World) (h : BY w a n Z) (hZ : ∀ j, j < n → Z j < 256) : Calls Yba.prog 12 #[.slice a n cap, pv p] w fun e w' => e = .returned (.int .i64 (WT n Z p)) ∧ Below w.heap.size w w' := by
  have hb : ∀ X, Below w.heap.size w (w.alloc X) := fun X => (Below.refl _ w).alloc (Nat.le_refl _) X
  by_cases h0 : n = 0
  · subst h0
    obtain ⟨i, j⟩ := p
    unfold pv WT
    simp only
    go_enter Yba.func12, Yba.ntmps12
    go_wp2
    go_ret
    exact ⟨rfl, hb _⟩
  · have h0b : ((n : Int) == 0) = false := by rw [beq_eq_false_iff_ne]; omega
    have h0c : (n : Int) ≠ 0 := by omega
    obtain ⟨b, off, rfl, hc⟩ := h (by omega)
    have hm : hsh p % n < n := Nat.mod_lt _ (by omega)
    have hz := hZ _ hm
    have c := hc _ hm
    have hW : WT n Z p = 1 + Z (hsh p % n) % 8 := by unfold WT; rw [if_neg h0]
    have hh : IntKind.u64.wrap (IntKind.u64.wrap (IntKind.u64.wrap p.1 * 31) + IntKind.u64.wrap p.2) = (hsh p : Int) := by
      unfold hsh
      rw [Int.toNat_of_nonneg]
      rw [IntKind.wrap_u64]
      omega
    obtain ⟨i, j⟩ := p
    simp only at hh
    rw [hW]
    generalize hsh (i, j) = H at hh hm hz c ⊢
    have ht : (H : Int).tmod (n : Int) = ((H % n : Nat) : Int) := by rw [Int.tmod_eq_emod_of_nonneg (by omega)]; simp
    generalize H % n = q at hm hz c ht ⊢
    have hqI : (q : Int) < (n : Int) := by omega
    generalize Z q = z at hz c ⊢
    have hz8 : (z : Int).tmod 8 = ((z % 8 : Nat) : Int) := by rw [Int.tmod_eq_emod_of_nonneg (by omega)]; omega
    unfold pv
    simp only
    have hc2 : ∀ X, (w.alloc X).cell? ⟨b, off + q, none⟩ = some (.int .u8 (z : Int)) := fun X => by
      rw [World.cell?_of_block (heap_alloc_old w X (World.block_lt_of_cell? w _ c))]; exact c
    clear hc h hZ hW
    go_enter Yba.func12, Yba.ntmps12
    go_wp2
    go_ret
    exact ⟨by go_num, hb _⟩

end Go.Proofs.Ybulkdwzg.lawB
