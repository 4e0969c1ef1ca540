/-
  WALKS of zzs6180aclone (4), brief (5), zzs6180asame (6): contracts for LawS6180APart.
-/
import Derived.Test.YbulkdwysFmtRows
import Derived.Test.YbulkdwysFmtFmt
import Derived.WalkKit
import Derived.WalkSpells
import Derived.WalkLawsBesides
import Derived.Laws.CopyOwn
import Derived.Deep.OwnRows
import Derived.Deep.QuietTactic
import Derived.BigQuiet
import Derived.Deep.RegionHeld3
namespace Go.Proofs.YbulkdwysFmt
open Go.RowKit Go.Extern.Stop Go.Stop Go.Extern

theorem Ybaf.info9 : (Ybaf.prog.info? 9).map (fun i => (i.zero, i.size, i.bytes)) = some (some (.string ⟨#[]⟩), 1, 16) := by kernel_rfl
theorem Ybaf.isz9 : (Ybaf.prog.info? 9).map (·.size) = some 1 := by kernel_rfl

theorem nil22 (w : World) (a : Option Addr) (n c : Nat) : (binOp .eql 22 (.slice a n c) (.slice none 0 0)).run Ybaf.prog w = .ok (.bool a.isNone) w :=
  Lib.run_eql_slice_nil w 22 9 a n c 0 0 Ybaf.underlying22

set_option maxHeartbeats 400000 in
theorem clone_nil (w : World) :
    Calls Ybaf.prog 4 #[.slice none 0 0] w fun e w' => e = .returned (.slice none 0 0) ∧ w' = w := by
  have hn := nil22
  go_enter Ybaf.func4, Ybaf.ntmps4
  go_wp2
  go_ret
  exact ⟨rfl, rfl⟩

theorem splice_all {α : Type} (L S : List α) (h : L.length = S.length) : splice L 0 S = S := by
  unfold splice
  rw [List.drop_eq_nil_of_le (by omega)]
  simp

set_option maxHeartbeats 400000 in
theorem clone_some (ad : Addr) (len cap : Nat) (S : List Value) (w : World) (hS : S.length = len) (h1 : ∀ v ∈ S, v.oneCell' = true) (hc : ∀ j v, S[j]? = some v → w.cell? (ad.add j) = some v) (hlen : len ≤ 1048576) :
    Calls Ybaf.prog 4 #[.slice (some ad) len cap] w fun e w' => e = .returned (.slice (some ⟨w.heap.size, 0, none⟩) len len) ∧
      w'.heap[w.heap.size]? = some (.cells S.toArray 9 (0, 0)) ∧ Below w.heap.size w w' := by
  have hn := nil22
  have hmk := run_make_row' (P := Ybaf.prog) 22 9 (.string ⟨#[]⟩) 16 Ybaf.underlying22 Ybaf.info9 rfl .i64 .i64 len (by omega) (by omega)
  obtain ⟨Z, hZ⟩ : ∃ Z, Z = madeCells #[.string ⟨#[]⟩] len := ⟨_, rfl⟩
  have hZl : Z.toList.length = S.length := by rw [hZ, hS]; simp [size_madeCells]
  rw [← hZ] at hmk
  have HZ : Hid (Z = madeCells #[.string ⟨#[]⟩] len) := hZ
  clear hZ
  have HS : Hid (S.length = len) := hS
  go_enter Ybaf.func4, Ybaf.ntmps4
  have hg : (w.alloc (.cells Z 9)).heap[w.heap.size]? = some (.cells Z.toList.toArray 9 (0, 0)) := by
    rw [Array.toArray_toList]; exact heap_alloc_new w _
  have hb : Below w.heap.size w (w.alloc (.cells Z 9)) := (Below.refl _ w).alloc (Nat.le_refl _) _
  go_wp2_with (first | (refine wpList_copy_splice rfl _ _ 22 22 rfl 9 Ybaf.underlying22 Ybaf.isz9 _ _ len len len cap rfl rfl w.heap.size 0 Z.toList 9 hg S (by simp [HS.out]) (fun _ => ⟨rfl, ad, rfl, fun j v hj => cell_later hb (hc j v hj)⟩) (by omega) h1 w.heap.size w hb (Nat.le_refl _) ?_; intro w2 HG2 hB2))
  go_ret
  have := HG2.out
  rw [splice_all _ _ hZl] at this
  exact ⟨rfl, this, hB2⟩

set_option maxHeartbeats 400000 in
theorem same_nil (w : World) : Calls Ybaf.prog 6 #[.slice none 0 0, .slice none 0 0] w fun e w' => e = .returned (.bool true) ∧ ∃ q, w' = w.drewN q := by
  have hn := nil22
  go_enter Ybaf.func6, Ybaf.ntmps6
  go_wp2
  refine wp_loop_rounds 1 ?_
  rw [rounds_succ]
  go_wp2
  go_ret
  exact ⟨rfl, 0, rfl⟩

set_option maxHeartbeats 400000 in
theorem same_zero (a b : Addr) (c d : Nat) (w : World) : Calls Ybaf.prog 6 #[.slice (some a) 0 c, .slice (some b) 0 d] w fun e w' => e = .returned (.bool true) ∧ ∃ q, w' = w.drewN q := by
  have hn := nil22
  go_enter Ybaf.func6, Ybaf.ntmps6
  go_wp2
  refine wp_loop_rounds 1 ?_
  rw [rounds_succ]
  go_wp2
  go_ret
  exact ⟨rfl, 0, rfl⟩

set_option maxHeartbeats 400000 in
theorem same_pos (b off b' off' len cap cap' : Nat) (ss : Nat → ByteArray) (w : World) (hlen : len ≤ 1048576) (hc : ∀ j, j < len → w.cell? ⟨b, off + j, none⟩ = some (.string (ss j)))
    (hc' : ∀ j, j < len → w.cell? ⟨b', off' + j, none⟩ = some (.string (ss j))) :
    Calls Ybaf.prog 6 #[.slice (some ⟨b, off, none⟩) len cap, .slice (some ⟨b', off', none⟩) len cap'] w fun e w' => e = .returned (.bool true) ∧ ∃ q, w' = w.drewN q := by
  have hn := nil22
  go_enter Ybaf.func6, Ybaf.ntmps6
  go_wp2
  go_loopw [5] (fun i wr => ∃ k : Nat, k ≤ len ∧ i = .int .i64 k ∧ ∃ q, wr = w.drewN q) (fun i _ => len - (intOf i).toNat)
  case atStart => exact ⟨0, Nat.zero_le _, rfl, 0, rfl⟩
  case round =>
    obtain ⟨k, hk, rfl, q, rfl⟩ := hrel
    by_cases hlt : k < len
    · have g1 := hc k hlt
      have g2 := hc' k hlt
      have hI : (k : Int) < (len : Int) := by omega
      clear hc hc'
      go_wp2
      go_quiet (fail)
      go_wp2
      go_roundw
      case rel => exact ⟨k + 1, by omega, by go_num, q + nq, by simp [World.drewN]⟩
      case measure => simp [intOf]; omega
    · go_wp2
      go_ret
      exact ⟨rfl, q, rfl⟩

set_option maxHeartbeats 400000 in
theorem brief_past (a : Option Addr) (len cap : Nat) (i : Int) (w : World) (h : (len : Int) ≤ i) :
    Calls Ybaf.prog 5 #[.slice a len cap, .int .i64 i] w fun e w' => e = .returned (.string ⟨#[110, 111, 110, 101]⟩) ∧ w' = w := by
  go_enter Ybaf.func5, Ybaf.ntmps5
  go_wp2
  go_ret
  exact ⟨rfl, rfl⟩

set_option maxHeartbeats 400000 in
theorem brief_short (F : Interp) (b off len cap : Nat) (i : Nat) (s : ByteArray) (w : World) (hF : F.answers w.tape) (h : (i : Int) < (len : Int)) (hc : w.cell? ⟨b, off + i, none⟩ = some (.string s)) (hs : s.size ≤ 80) :
    Calls Ybaf.prog 5 #[.slice (some ⟨b, off, none⟩) len cap, .int .i64 i] w fun e w' => ∃ g, e = .returned (.string g) ∧ Below w.heap.size w w' := by
  have hF' := answers_open hF
  go_enter Ybaf.func5, Ybaf.ntmps5
  go_wp2
  go_ret
  exact ⟨_, rfl, ((Below.refl _ w).alloc (Nat.le_refl _) _).drew⟩

set_option maxHeartbeats 400000 in
theorem brief_long (F : Interp) (b off len cap : Nat) (i : Nat) (s : ByteArray) (w : World) (hF : F.answers w.tape) (h : (i : Int) < (len : Int)) (hc : w.cell? ⟨b, off + i, none⟩ = some (.string s)) (hs : 80 < s.size) (hm : s.size ≤ maxLen) :
    Calls Ybaf.prog 5 #[.slice (some ⟨b, off, none⟩) len cap, .int .i64 i] w fun e w' => ∃ g, e = .returned (.string g) ∧ Below w.heap.size w w' := by
  unfold maxLen at hm
  have hF' := answers_open hF
  go_enter Ybaf.func5, Ybaf.ntmps5
  go_wp2
  go_region
  all_goals go_wp2
  all_goals go_ret
  all_goals exact ⟨_, rfl, ((Below.refl _ w).alloc (Nat.le_refl _) _).drew.drew⟩

/-- brief, for an index from 0 on, over a slice whose cells are strings. -/
theorem brief_any (F : Interp) (b off len cap : Nat) (i : Int) (ss : Nat → ByteArray) (w : World) (hF : F.answers w.tape) (h0 : 0 ≤ i) (hc : ∀ j, j < len → w.cell? ⟨b, off + j, none⟩ = some (.string (ss j))) (hm : ∀ j, j < len → (ss j).size ≤ maxLen) :
    Calls Ybaf.prog 5 #[.slice (some ⟨b, off, none⟩) len cap, .int .i64 i] w fun e w' => ∃ g, e = .returned (.string g) ∧ Below w.heap.size w w' ∧ ((len : Int) ≤ i → g = ⟨#[110, 111, 110, 101]⟩) := by
  obtain ⟨n, rfl⟩ := Int.eq_ofNat_of_zero_le h0
  by_cases h : (len : Int) ≤ (n : Int)
  · refine (brief_past (some ⟨b, off, none⟩) len cap n w h).mono ?_
    rintro e w' ⟨rfl, rfl⟩
    exact ⟨_, rfl, Below.refl _ _, fun _ => rfl⟩
  · by_cases hs : (ss n).size ≤ 80
    · refine (brief_short F b off len cap n (ss n) w hF (by omega) (hc n (by omega)) hs).mono ?_
      rintro e w' ⟨g, rfl, hb⟩
      exact ⟨g, rfl, hb, fun h' => absurd h' h⟩
    · refine (brief_long F b off len cap n (ss n) w hF (by omega) (hc n (by omega)) (by omega) (hm n (by omega))).mono ?_
      rintro e w' ⟨g, rfl, hb⟩
      exact ⟨g, rfl, hb, fun h' => absurd h' h⟩

end Go.Proofs.YbulkdwysFmt
