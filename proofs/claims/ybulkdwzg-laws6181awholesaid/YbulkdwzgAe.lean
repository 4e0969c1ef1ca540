/-
  WALKS of slices.Clone[[]int,int] (7) and slices.Equal[[]int,int] (9).
-/
import Derived.Test.YbulkdwzgRows
import Derived.WalkKit
import Derived.WalkSpells
import Derived.WalkLawsBesides
import Derived.Deep.QuietTactic
import Derived.BigQuiet
namespace Go.Proofs.Ybulkdwzg
open Go.RowKit

theorem info3 : (Yba.prog.info? 3).map (fun i => (i.zero, i.size, i.bytes)) = some (some (.int .i64 0), 1, 8) := by kernel_rfl
theorem nil26 (w : World) (a : Option Addr) (n c : Nat) : (binOp .eql 26 (.slice a n c) (.slice none 0 0)).run Yba.prog w = .ok (.bool a.isNone) w :=
  Lib.run_eql_slice_nil w 26 3 a n c 0 0 Yba.underlying26

set_option maxHeartbeats 400000 in
theorem clone_nil (w : World) : Calls Yba.prog 7 #[.slice none 0 0] w fun e w' => e = .returned (.slice none 0 0) ∧ w = w' := by
  have hn := nil26
  go_enter Yba.func7, Yba.ntmps7
  go_wp2
  go_ret
  exact ⟨rfl, rfl⟩

set_option maxHeartbeats 400000 in
theorem clone_some (ad : Addr) (len cap : Nat) (zs : List Value) (w : World) (hz : zs.length = len) (h1 : ∀ v ∈ zs, v.oneCell' = true) (hc : ∀ j v, zs[j]? = some v → w.cell? (ad.add j) = some v) (hb : len * 8 ≤ 140737488355328) :
    Calls Yba.prog 7 #[.slice (some ad) len cap] w fun e w' => ∃ g c, e = .returned (.slice (some ⟨g, 0, none⟩) len c) ∧ w.heap.size ≤ g ∧ w'.ownsRow w.heap.size 3 1 (.slice (some ⟨g, 0, none⟩) len c) len zs ∧ Below w.heap.size w w' := by
  have hn := nil26
  obtain ⟨i0, hi, hz0, hz1, hz2⟩ := info_parts info3
  have hown0 : (w.alloc (.cells #[] 3)).ownsRow w.heap.size 3 1 (.slice (some ⟨w.heap.size, 0, none⟩) 0 0) 0 [] := World.ownsRow_made w #[] 0 (Nat.le_refl _) (Nat.zero_le _) rfl
  have hb1 : Below w.heap.size w (w.alloc (.cells #[] 3)) := (Below.refl _ w).alloc (Nat.le_refl _) _
  have HZ : Hid (zs.length = len) := hz
  clear hz
  go_enter Yba.func7, Yba.ntmps7
  go_wp2_with (first | (at_builtin; refine wpList_append_own _ rfl _ _ 26 rfl w.heap.size 3 i0 (.int .i64 0) 1 8 Yba.underlying26 hi hz0 hz1 hz2 rfl (by decide) _ _ _ rfl hown0 ad len cap zs rfl (by rw [HZ.out]; omega) (fun j v hj => cell_later hb1 (hc j v hj)) h1 (by unfold maxLen; omega) (by omega) (by simp) ?_; intro v' w1 hown' hgrow hnil))
  go_ret
  have hnn : v' ≠ .slice none 0 0 := fun e => by cases (hnil.1 e).1
  have hf : ∃ g c, v' = .slice (some ⟨g, 0, none⟩) len c ∧ w.heap.size ≤ g := by
    rcases hown'.2 with ⟨e, _⟩ | ⟨g, c, cur, e, hbg, _⟩
    · exact absurd e hnn
    · exact ⟨g, c, by rw [e]; simp, hbg⟩
  obtain ⟨g, c, rfl, hbg⟩ := hf
  refine ⟨g, c, rfl, hbg, by simpa using hown', hb1.grown hgrow (by simp) (fun k hk => ?_)⟩
  cases hk; exact Nat.le_refl _

set_option maxHeartbeats 400000 in
theorem equal_zero (a b : Option Addr) (c d : Nat) (w : World) : Calls Yba.prog 9 #[.slice a 0 c, .slice b 0 d] w fun e w' => e = .returned (.bool true) ∧ ∃ q, w' = w.drewN q := by
  go_enter Yba.func9, Yba.ntmps9
  go_wp2
  refine wp_loop_rounds 1 ?_
  rw [rounds_succ]
  go_wp2
  go_ret
  exact ⟨rfl, 0, rfl⟩

set_option maxHeartbeats 400000 in
theorem equal_pos (b off b' off' len cap cap' : Nat) (zs : Nat → Int) (w : World) (hlen : len ≤ 140737488355328) (hc : ∀ j, j < len → w.cell? ⟨b, off + j, none⟩ = some (.int .i64 (zs j)))
    (hc' : ∀ j, j < len → w.cell? ⟨b', off' + j, none⟩ = some (.int .i64 (zs j))) :
    Calls Yba.prog 9 #[.slice (some ⟨b, off, none⟩) len cap, .slice (some ⟨b', off', none⟩) len cap'] w fun e w' => e = .returned (.bool true) ∧ ∃ q, w' = w.drewN q := by
  go_enter Yba.func9, Yba.ntmps9
  go_wp2
  go_loopw [13] (fun i wr => ∃ k : Nat, k ≤ len ∧ i = .int .i64 k ∧ ∃ q, wr = w.drewN q) (fun i _ => len - (intOf i).toNat)
  case atStart => exact ⟨0, Nat.zero_le _, rfl, 0, rfl⟩
  case round =>
    obtain ⟨k, hk, rfl, q, rfl⟩ := hrel
    by_cases hlt : k < len
    · have g1 := hc k hlt
      have g2 := hc' k hlt
      have hI : (k : Int) < (len : Int) := by omega
      clear hc hc'
      go_wp2
      go_quiet (fail)
      go_wp2
      go_roundw
      case rel => exact ⟨k + 1, by omega, by go_num, q + nq, by simp [World.drewN]⟩
      case measure => simp [intOf]; omega
    · go_wp2
      go_ret
      exact ⟨rfl, q, rfl⟩

end Go.Proofs.Ybulkdwzg
