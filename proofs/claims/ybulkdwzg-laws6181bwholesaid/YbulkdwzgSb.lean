/-
  LawS6181BWhole: WALK of sort.siftDown_func (48), less laying new blocks.
-/
import Derived.Test.YbulkdwzgSa
namespace Go.Proofs.Ybulkdwzg.lawB
open Go.RowKit Go.Shelf Go.Lib Go.Sort
variable {α : Type} [Inhabited α] {enc : α → Value} {lt : α → α → Bool} {lb : Array Value} {sf : Nat} {sb : Array Value} {blk off N : Nat} {w0 : World}

set_option maxHeartbeats 4000000 in
set_option maxRecDepth 1000000 in
theorem sift_c (G : Gd enc lt lb sf sb blk off N w0) (lo hi first : Nat) (d : Array α) (W : World) (hW : SW enc w0 blk off d W) (hs : d.size = N) (hlo : lo ≤ hi) (hb : first + hi ≤ N) :
    Calls Yba.prog 48 #[.agg #[.func (.func 21) #[] lb, .func (.func sf) #[] sb], .int .i64 lo, .int .i64 hi, .int .i64 first] W fun e w' => e = .returned (.tuple #[]) ∧ SW enc w0 blk off (siftDown lt hi first lo d) w' ∧ Kx blk blk W w' := by
  have hN := G.hN
  have hne : W.heap.size ≠ blk := by have := hW.lt G.hblk; omega
  go_enter Yba.func48, Yba.ntmps48
  go_wp2
  go_loopg [8] (hi - lo) (fun k s8 wr => ∃ (root : Nat) (dk : Array α), s8 = .int .i64 root ∧ root ≤ hi ∧ hi - root ≤ k ∧ dk.size = N ∧ SW enc w0 blk off dk wr ∧ Kx blk blk W wr ∧ Dt lb sf sb W.heap.size wr ∧ Hid (siftDown lt hi first root dk = siftDown lt hi first lo d))
  case atStart => exact ⟨lo, d, rfl, hlo, Nat.le_refl _, hs, hW.alloc _, (Kx.refl _ _ W).alloc _, Dt.new W, rfl⟩
  case round =>
    obtain ⟨root, dk, rfl, hr, hk, hds, hS0, hK0, hD0, HE⟩ := hrel
    have c0 := hD0.c0
    by_cases h0 : hi ≤ 2 * root + 1
    · have h0z : (hi : Int) ≤ 2 * (root : Int) + 1 := by omega
      go_wp2
      go_end0
      exact ⟨rfl, by rw [← HE.out, sd_end lt dk h0]; exact hS0, hK0⟩
    · have h0z : ¬ ((hi : Int) ≤ 2 * (root : Int) + 1) := by omega
      by_cases h1 : 2 * root + 2 < hi
      · have h1z : 2 * (root : Int) + 1 + 1 < (hi : Int) := by omega
        have hl1 := G.hless wr dk hS0 hds (first + (2 * root + 1)) (first + (2 * root + 2)) (by omega) (by omega)
        rw [show ((first + (2 * root + 1) : Nat) : Int) = (first : Int) + (2 * (root : Int) + 1) by omega, show ((first + (2 * root + 2) : Nat) : Int) = (first : Int) + (2 * (root : Int) + 1) + 1 by omega] at hl1
        cases hL : lt dk[first + (2 * root + 1)]! dk[first + (2 * root + 2)]! with
        | true =>
          rw [hL] at hl1
          cases hG : lt dk[first + root]! dk[first + (2 * root + 2)]!
          · go_wp2_with (first | (go_at_call 21; refine hl2.mono ?_; rintro e w2 ⟨rfl, hS2, hK2⟩; obtain ⟨z0, z1, hz⟩ := (Dt.mk y0 y1 hy).kx hK2 hne hne) | (go_at_call 21; refine hl1.mono ?_; rintro e w1 ⟨rfl, hS1, hK1⟩; obtain ⟨y0, y1, hy⟩ := hD0.kx hK1 hne hne; have hl2 := G.hless w1 dk hS1 hds (first + root) (first + (2 * root + 2)) (by omega) (by omega); rw [hG, show ((first + root : Nat) : Int) = (first : Int) + (root : Int) by omega, show ((first + (2 * root + 2) : Nat) : Int) = (first : Int) + (2 * (root : Int) + 1 + 1) by omega] at hl2))
            (try simp only [Exit.inBlock, Exit.then]); refine bodyPost_ret (results_none rfl _ _ _) rfl ?_
            exact ⟨rfl, by rw [← HE.out, sd_right_stop lt dk h1 hL hG]; exact hS2, (hK0.trans hK1).trans hK2⟩
          · go_wp2_with (first | (go_at_call 21; refine hl2.mono ?_; rintro e w2 ⟨rfl, hS2, hK2⟩; obtain ⟨z0, z1, hz⟩ := (Dt.mk y0 y1 hy).kx hK2 hne hne; obtain ⟨w3, hr3, hS3, hK3⟩ := G.swap hS2 hds (first + root) (first + (2 * root + 2)) (by omega) (by omega); rw [show ((first + root : Nat) : Int) = (first : Int) + (root : Int) by omega, show ((first + (2 * root + 2) : Nat) : Int) = (first : Int) + (2 * (root : Int) + 1 + 1) by omega] at hr3) | (go_at_call 21; refine hl1.mono ?_; rintro e w1 ⟨rfl, hS1, hK1⟩; obtain ⟨y0, y1, hy⟩ := hD0.kx hK1 hne hne; have hl2 := G.hless w1 dk hS1 hds (first + root) (first + (2 * root + 2)) (by omega) (by omega); rw [hG, show ((first + root : Nat) : Int) = (first : Int) + (root : Int) by omega, show ((first + (2 * root + 2) : Nat) : Int) = (first : Int) + (2 * (root : Int) + 1 + 1) by omega] at hl2))
            go_roundg (hi - (2 * root + 2))
            case measure => omega
            case rel => exact ⟨(2 * root + 2), swp dk (first + root) (first + (2 * root + 2)), by go_num, by omega, Nat.le_refl _, by rw [size_swp]; exact hds, hS3, ((hK0.trans hK1).trans hK2).trans hK3, (Dt.mk z0 z1 hz).kx hK3 hne hne, (show Hid _ from by rw [← HE.out, sd_right_go lt dk h1 hL hG]; exact rfl)⟩
        | false =>
          rw [hL] at hl1
          cases hG : lt dk[first + root]! dk[first + (2 * root + 1)]!
          · go_wp2_with (first | (go_at_call 21; refine hl2.mono ?_; rintro e w2 ⟨rfl, hS2, hK2⟩; obtain ⟨z0, z1, hz⟩ := (Dt.mk y0 y1 hy).kx hK2 hne hne) | (go_at_call 21; refine hl1.mono ?_; rintro e w1 ⟨rfl, hS1, hK1⟩; obtain ⟨y0, y1, hy⟩ := hD0.kx hK1 hne hne; have hl2 := G.hless w1 dk hS1 hds (first + root) (first + (2 * root + 1)) (by omega) (by omega); rw [hG, show ((first + root : Nat) : Int) = (first : Int) + (root : Int) by omega, show ((first + (2 * root + 1) : Nat) : Int) = (first : Int) + (2 * (root : Int) + 1) by omega] at hl2))
            (try simp only [Exit.inBlock, Exit.then]); refine bodyPost_ret (results_none rfl _ _ _) rfl ?_
            exact ⟨rfl, by rw [← HE.out, sd_left_stop lt dk (by omega) (fun _ => hL) hG]; exact hS2, (hK0.trans hK1).trans hK2⟩
          · go_wp2_with (first | (go_at_call 21; refine hl2.mono ?_; rintro e w2 ⟨rfl, hS2, hK2⟩; obtain ⟨z0, z1, hz⟩ := (Dt.mk y0 y1 hy).kx hK2 hne hne; obtain ⟨w3, hr3, hS3, hK3⟩ := G.swap hS2 hds (first + root) (first + (2 * root + 1)) (by omega) (by omega); rw [show ((first + root : Nat) : Int) = (first : Int) + (root : Int) by omega, show ((first + (2 * root + 1) : Nat) : Int) = (first : Int) + (2 * (root : Int) + 1) by omega] at hr3) | (go_at_call 21; refine hl1.mono ?_; rintro e w1 ⟨rfl, hS1, hK1⟩; obtain ⟨y0, y1, hy⟩ := hD0.kx hK1 hne hne; have hl2 := G.hless w1 dk hS1 hds (first + root) (first + (2 * root + 1)) (by omega) (by omega); rw [hG, show ((first + root : Nat) : Int) = (first : Int) + (root : Int) by omega, show ((first + (2 * root + 1) : Nat) : Int) = (first : Int) + (2 * (root : Int) + 1) by omega] at hl2))
            go_roundg (hi - (2 * root + 1))
            case measure => omega
            case rel => exact ⟨(2 * root + 1), swp dk (first + root) (first + (2 * root + 1)), by go_num, by omega, Nat.le_refl _, by rw [size_swp]; exact hds, hS3, ((hK0.trans hK1).trans hK2).trans hK3, (Dt.mk z0 z1 hz).kx hK3 hne hne, (show Hid _ from by rw [← HE.out, sd_left_go lt dk (by omega) (fun _ => hL) hG]; exact rfl)⟩
      · have h1z : ¬ (2 * (root : Int) + 1 + 1 < (hi : Int)) := by omega
        have hl1 := G.hless wr dk hS0 hds (first + root) (first + (2 * root + 1)) (by omega) (by omega)
        rw [show ((first + root : Nat) : Int) = (first : Int) + (root : Int) by omega, show ((first + (2 * root + 1) : Nat) : Int) = (first : Int) + (2 * (root : Int) + 1) by omega] at hl1
        cases hG : lt dk[first + root]! dk[first + (2 * root + 1)]!
        · rw [hG] at hl1
          go_wp2_with (go_at_call 21; refine hl1.mono ?_; rintro e w2 ⟨rfl, hS2, hK2⟩)
          (try simp only [Exit.inBlock, Exit.then]); refine bodyPost_ret (results_none rfl _ _ _) rfl ?_
          exact ⟨rfl, by rw [← HE.out, sd_left_stop lt dk (by omega) (fun h => absurd h h1) hG]; exact hS2, hK0.trans hK2⟩
        · rw [hG] at hl1
          go_wp2_with (go_at_call 21; refine hl1.mono ?_; rintro e w2 ⟨rfl, hS2, hK2⟩; obtain ⟨z0, z1, hz⟩ := hD0.kx hK2 hne hne; obtain ⟨w3, hr3, hS3, hK3⟩ := G.swap hS2 hds (first + root) (first + (2 * root + 1)) (by omega) (by omega); rw [show ((first + root : Nat) : Int) = (first : Int) + (root : Int) by omega, show ((first + (2 * root + 1) : Nat) : Int) = (first : Int) + (2 * (root : Int) + 1) by omega] at hr3)
          go_roundg (hi - (2 * root + 1))
          case measure => omega
          case rel => exact ⟨(2 * root + 1), swp dk (first + root) (first + (2 * root + 1)), by go_num, by omega, Nat.le_refl _, by rw [size_swp]; exact hds, hS3, (hK0.trans hK2).trans hK3, (Dt.mk z0 z1 hz).kx hK3 hne hne, (show Hid _ from by rw [← HE.out, sd_left_go lt dk (by omega) (fun h => absurd h h1) hG]; exact rfl)⟩

end Go.Proofs.Ybulkdwzg.lawB
