/-
  WALKS of slices.Equal (8, 9), slices.Clone (4): contracts for LawS6183CWhole.
-/
import Derived.Test.YbulkdxaiWa
import Derived.Deep.OwnRows
namespace Go.Proofs.Ybulkdxai
open Go.RowKit

/-- n numbers of one kind lie at a. -/
def NR (k : IntKind) (w : World) (a : Option Addr) (n : Nat) (Z : Nat → Int) : Prop := 0 < n → ∃ b off, a = some ⟨b, off, none⟩ ∧ ∀ j, j < n → w.cell? ⟨b, off + j, none⟩ = some (.int k (Z j))

theorem eq8 (a b : Option Addr) (n c d : Nat) (Z : Nat → Int) (w : World) (hn : n < 2 ^ 40) (ha : NR .u32 w a n Z) (hb : NR .u32 w b n Z) :
    Calls Yba.prog 8 #[.slice a n c, .slice b n d] w fun e w' => e = .returned (.bool true) ∧ ∃ q, w' = w.drewN q := by
  go_enter Yba.func8, Yba.ntmps8
  go_wp2
  go_loopw [13] (fun i wr => ∃ k : Nat, k ≤ n ∧ i = .int .i64 k ∧ ∃ q, wr = w.drewN q) (fun i _ => n - (intOf i).toNat)
  case atStart => exact ⟨0, Nat.zero_le _, rfl, 0, rfl⟩
  case round =>
    obtain ⟨k, hk, rfl, q, rfl⟩ := hrel
    by_cases hlt : k < n
    · obtain ⟨b1, o1, rfl, hc1⟩ := ha (by omega)
      obtain ⟨b2, o2, rfl, hc2⟩ := hb (by omega)
      have g1 := hc1 k hlt
      have g2 := hc2 k hlt
      have hI : (k : Int) < (n : Int) := by omega
      clear hc1 hc2 ha hb
      go_wp2
      go_quiet (fail)
      go_wp2
      go_roundw
      case rel => exact ⟨k + 1, by omega, by go_num, q + nq, by simp [World.drewN]⟩
      case measure => simp [intOf]; omega
    · clear ha hb
      go_wp2
      go_ret
      exact ⟨rfl, q, rfl⟩

theorem eq9 (a b : Option Addr) (n c d : Nat) (Z : Nat → Int) (w : World) (hn : n < 2 ^ 40) (ha : NR .i64 w a n Z) (hb : NR .i64 w b n Z) :
    Calls Yba.prog 9 #[.slice a n c, .slice b n d] w fun e w' => e = .returned (.bool true) ∧ ∃ q, w' = w.drewN q := by
  go_enter Yba.func9, Yba.ntmps9
  go_wp2
  go_loopw [13] (fun i wr => ∃ k : Nat, k ≤ n ∧ i = .int .i64 k ∧ ∃ q, wr = w.drewN q) (fun i _ => n - (intOf i).toNat)
  case atStart => exact ⟨0, Nat.zero_le _, rfl, 0, rfl⟩
  case round =>
    obtain ⟨k, hk, rfl, q, rfl⟩ := hrel
    by_cases hlt : k < n
    · obtain ⟨b1, o1, rfl, hc1⟩ := ha (by omega)
      obtain ⟨b2, o2, rfl, hc2⟩ := hb (by omega)
      have g1 := hc1 k hlt
      have g2 := hc2 k hlt
      have hI : (k : Int) < (n : Int) := by omega
      clear hc1 hc2 ha hb
      go_wp2
      go_quiet (fail)
      go_wp2
      go_roundw
      case rel => exact ⟨k + 1, by omega, by go_num, q + nq, by simp [World.drewN]⟩
      case measure => simp [intOf]; omega
    · clear ha hb
      go_wp2
      go_ret
      exact ⟨rfl, q, rfl⟩

theorem info26 : (Yba.prog.info? 26).map (fun i => (i.zero, i.size, i.bytes)) = some (some (.int .u32 0), 1, 4) := by kernel_rfl
theorem eq23 (w : World) (a : Option Addr) (n c : Nat) : (binOp .eql 23 (.slice a n c) (.slice none 0 0)).run Yba.prog w = .ok (.bool a.isNone) w :=
  Lib.run_eql_slice_nil w 23 26 a n c 0 0 Yba.underlying23

/-- slices.Clone of a slice that is not nil: a row of the caller's own. -/
theorem clone_c (ad : Addr) (n c : Nat) (zs : List Value) (w : World) (hl : zs.length = n) (hn : n < 2 ^ 40) (hc : ∀ j u, zs[j]? = some u → w.cell? (ad.add j) = some u) (h1 : ∀ u ∈ zs, u.oneCell' = true) :
    Calls Yba.prog 4 #[.slice (some ad) n c] w fun e w' => ∃ g d, e = .returned (.slice (some ⟨g, 0, none⟩) n d) ∧ w.heap.size ≤ g ∧ w'.ownsRow w.heap.size 26 1 (.slice (some ⟨g, 0, none⟩) n d) n zs ∧ Below w.heap.size w w' := by
  obtain ⟨i0, hi, hz0, hz1, hz2⟩ := info_parts info26
  have he := eq23
  have hb1 : Below w.heap.size w (w.alloc (.cells #[] 26)) := (Below.refl _ w).alloc (Nat.le_refl _) _
  have hown0 : (w.alloc (.cells #[] 26)).ownsRow w.heap.size 26 1 (.slice (some ⟨w.heap.size, 0, none⟩) 0 0) 0 [] := World.ownsRow_made w #[] 0 (Nat.le_refl _) (by omega) rfl
  have HL : Hid (zs.length = n) := hl
  clear hl
  go_enter Yba.func4, Yba.ntmps4
  go_wp2_with (first | (at_builtin; refine wpList_append_own _ rfl _ _ 23 rfl w.heap.size 26 i0 (.int .u32 0) 1 4 Yba.underlying23 hi hz0 hz1 hz2 rfl (by decide) _ _ _ rfl hown0 ad n c zs rfl (by rw [HL.out]; omega) (fun j v hj => cell_later hb1 (hc j v hj)) h1 (by unfold maxLen; omega) (by omega) (by simp) ?_; intro v' w1 hown' hgrow hnil))
  go_ret
  have hnn : v' ≠ .slice none 0 0 := fun e => by cases (hnil.1 e).1
  have hf : ∃ g d, v' = .slice (some ⟨g, 0, none⟩) n d ∧ w.heap.size ≤ g := by
    rcases hown'.2 with ⟨e, _⟩ | ⟨g, c, cur, e, hbg, _⟩
    · exact absurd e hnn
    · exact ⟨g, c, by rw [e]; simp, hbg⟩
  obtain ⟨g, d, rfl, hbg⟩ := hf
  refine ⟨g, d, rfl, hbg, by simpa using hown', hb1.grown hgrow (by simp) (fun k hk => ?_)⟩
  cases hk; exact Nat.le_refl _

end Go.Proofs.Ybulkdxai
