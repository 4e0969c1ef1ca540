/-
  THE WALK of LawS6180APart (3), out of its callees' contracts (YbulkdwysFmtWalkA).
-/
import Derived.Test.YbulkdwysFmtWalkA
namespace Go.Proofs.YbulkdwysFmt
open Go.RowKit Go.Extern.Stop Go.Stop Go.Extern

theorem addp (b off j : Nat) : (⟨b, off, none⟩ : Addr).add j = ⟨b, off + j, none⟩ := by unfold Addr.add; split <;> simp_all

set_option maxHeartbeats 400000 in
theorem law_long (a : Option Addr) (len cap : Nat) (i : Int) (w : World) (h : 1048576 < len) :
    Calls Ybaf.prog 3 #[.slice a len cap, .int .i64 i] w fun e w' => e = .returned (.bool true) ∧ Below w.heap.size w w' := by
  have h' : (1048576 : Int) < (len : Int) := by omega
  go_enter Ybaf.func3, Ybaf.ntmps3
  go_wp2
  go_ret
  exact ⟨rfl, Below.refl _ _⟩

set_option maxHeartbeats 400000 in
theorem law_nil (i : Int) (w : World) (hi : -9223372036854775808 ≤ i) (hi' : i ≤ 9223372036854775807) :
    Calls Ybaf.prog 3 #[.slice none 0 0, .int .i64 i] w fun e w' => e = .returned (.bool true) ∧ Below w.heap.size w w' := by
  by_cases hneg : i < 0
  all_goals
    go_enter Ybaf.func3, Ybaf.ntmps3
    go_wp2_with fail
    refine (clone_nil _).mono ?_
    rintro e w' ⟨rfl, rfl⟩
    go_wp2_with fail
    refine (brief_past none 0 0 _ _ (by omega)).mono ?_
    rintro e w' ⟨rfl, rfl⟩
    go_wp2_with fail
    refine (same_nil _).mono ?_
    rintro e w' ⟨rfl, q, rfl⟩
    go_wp2
    go_ret
    exact ⟨rfl, below_drewN (Below.refl _ _) _⟩

set_option maxHeartbeats 800000 in
theorem law_zero (a : Addr) (cap : Nat) (i : Int) (w : World) (hi : -9223372036854775808 ≤ i) (hi' : i ≤ 9223372036854775807) :
    Calls Ybaf.prog 3 #[.slice (some a) 0 cap, .int .i64 i] w fun e w' => e = .returned (.bool true) ∧ Below w.heap.size w w' := by
  by_cases hneg : i < 0
  all_goals
    go_enter Ybaf.func3, Ybaf.ntmps3
    go_wp2_with fail
    refine (clone_some a 0 cap [] _ rfl (by simp) (by simp) (by omega)).mono ?_
    rintro e w1 ⟨rfl, hh, hb⟩
    clear hh
    go_wp2_with fail
    refine (brief_past (some a) 0 cap _ _ (by omega)).mono ?_
    rintro e w' ⟨rfl, rfl⟩
    go_wp2_with fail
    refine (same_zero a _ cap 0 _).mono ?_
    rintro e w' ⟨rfl, q, rfl⟩
    go_wp2
    go_ret
    exact ⟨rfl, below_drewN hb _⟩

set_option maxHeartbeats 800000 in
theorem law_pos (F : Interp) (b off len cap : Nat) (i : Int) (ss : Nat → ByteArray) (w : World) (hF : F.answers w.tape) (hi : -9223372036854775808 ≤ i) (hi' : i ≤ 9223372036854775807) (hp : 0 < len) (hlen : len ≤ 1048576)
    (hc : ∀ j, j < len → w.cell? ⟨b, off + j, none⟩ = some (.string (ss j))) (hm : ∀ j, j < len → (ss j).size ≤ maxLen) :
    Calls Ybaf.prog 3 #[.slice (some ⟨b, off, none⟩) len cap, .int .i64 i] w fun e w' => e = .returned (.bool true) ∧ Below w.heap.size w w' := by
  obtain ⟨S, hS⟩ : ∃ S, S = (List.range len).map fun j => Value.string (ss j) := ⟨_, rfl⟩
  have hSl : S.length = len := by rw [hS]; simp
  have hSg : ∀ j v, S[j]? = some v → j < len ∧ v = .string (ss j) := by
    intro j v h
    rw [hS, List.getElem?_map] at h
    by_cases hj : j < len
    · simp [hj] at h; exact ⟨hj, h.symm⟩
    · simp [hj] at h
  have hSi : ∀ j, j < len → S[j]? = some (.string (ss j)) := by
    intro j hj; rw [hS]; simp [hj]
  have h1 : ∀ v ∈ S, v.oneCell' = true := by
    intro v hv
    rw [hS] at hv
    simp at hv
    obtain ⟨j, _, rfl⟩ := hv
    rfl
  have hSc : ∀ j v, S[j]? = some v → w.cell? ((⟨b, off, none⟩ : Addr).add j) = some v := by
    intro j v h
    obtain ⟨hj, rfl⟩ := hSg j v h
    rw [addp]; exact hc j hj
  have HS : Hid (S = (List.range len).map fun j => Value.string (ss j)) := hS
  clear hS
  have HL : Hid (S.length = len) := hSl
  clear hSl
  have hbw : b < w.heap.size := World.block_lt_of_cell? _ _ (hc 0 hp)
  by_cases hneg : i < 0
  all_goals
    go_enter Ybaf.func3, Ybaf.ntmps3
    go_wp2_with fail
    refine (clone_some ⟨b, off, none⟩ len cap S _ HL.out h1 hSc hlen).mono ?_
    rintro e w1 ⟨rfl, hh, hb⟩
    have HH : Hid (w1.heap[w.heap.size]? = some (.cells S.toArray 9 (0, 0))) := hh
    clear hh
    have hF1 : F.answers w1.tape := by rw [hb.tape]; exact hF
    have hc1 : ∀ j, j < len → w1.cell? ⟨b, off + j, none⟩ = some (.string (ss j)) := fun j hj => cell_later hb (hc j hj)
    go_wp2_with fail
    refine (brief_any F b off len cap _ ss w1 hF1 (by omega) hc1 hm).mono ?_
    rintro e w2 ⟨g, rfl, hb2, hg⟩
    have HG : Hid ((len : Int) ≤ _ → g = ⟨#[110, 111, 110, 101]⟩) := hg
    clear hg
    have hbb : Below w.heap.size w w2 := hb.trans (hb2.mono hb.size)
    go_wp2_with fail
    have hn : w.heap.size < w1.heap.size := by
      have := HH.out
      obtain ⟨hlt, _⟩ := Array.getElem?_eq_some_iff.1 this
      exact hlt
    refine (same_pos b off w.heap.size 0 len cap len ss w2 hlen (fun j hj => cell_later hb2 (hc1 j hj)) ?_).mono ?_
    · intro j hj
      refine cell_later hb2 ?_
      have := HH.out
      simp [World.cell?, this, hSi j hj]
    rintro e w' ⟨rfl, q, rfl⟩
    by_cases hge : (i < 0 ∧ (len : Int) ≤ -(i + 1)) ∨ (0 ≤ i ∧ (len : Int) ≤ i)
    · have hg := HG.out (by omega)
      subst hg
      first | (have hd : (len : Int) ≤ -(i + 1) := by omega) | (have hd : (len : Int) ≤ i := by omega)
      clear hge HG
      go_wp2
      go_ret
      exact ⟨rfl, below_drewN hbb _⟩
    · first | (have hd : i < 0 ∧ ¬ (len : Int) ≤ -(i + 1) := by omega) | (have hd : 0 ≤ i ∧ ¬ (len : Int) ≤ i := by omega)
      clear hge HG
      obtain ⟨_, hd⟩ := hd
      go_wp2
      go_ret
      exact ⟨rfl, below_drewN hbb _⟩

end Go.Proofs.YbulkdwysFmt
