/-
  LawS6181BWhole: WALK of sort.heapSort_func (41), less laying new blocks.
-/
import Derived.Test.YbulkdwzgSb
namespace Go.Proofs.Ybulkdwzg.lawB
open Go.RowKit Go.Shelf Go.Lib Go.Sort
variable {α : Type} [Inhabited α] {enc : α → Value} {lt : α → α → Bool} {lb : Array Value} {sf : Nat} {sb : Array Value} {blk off N : Nat} {w0 : World}

set_option maxHeartbeats 4000000 in
set_option maxRecDepth 1000000 in
theorem heap_c (G : Gd enc lt lb sf sb blk off N w0) (a b : Nat) (d : Array α) (W : World) (hW : SW enc w0 blk off d W) (hs : d.size = N) (hab : a ≤ b) (hb : b ≤ N) :
    Calls Yba.prog 41 #[.agg #[.func (.func 21) #[] lb, .func (.func sf) #[] sb], .int .i64 a, .int .i64 b] W fun e w' => e = .returned (.tuple #[]) ∧ SW enc w0 blk off (heapSort lt d a b) w' ∧ Kx blk blk W w' := by
  have hN := G.hN
  have hne : W.heap.size ≠ blk := by have := hW.lt G.hblk; omega
  have ecast : ((b - a : Nat) : Int) = (b : Int) - (a : Int) := by omega
  go_enter Yba.func41, Yba.ntmps41
  go_wp2
  go_loopg [9] ((b - a - 1) / 2 + 1) (fun k s9 wr => s9 = .int .i64 ((k : Int) - 1) ∧ k ≤ (b - a - 1) / 2 + 1 ∧ ∃ (dk : Array α), dk.size = N ∧ SW enc w0 blk off dk wr ∧ Kx blk blk W wr ∧ Dt lb sf sb W.heap.size wr ∧ Hid (heapBuild lt (b - a) a k dk = heapBuild lt (b - a) a ((b - a - 1) / 2 + 1) d))
  case atStart => exact ⟨by rw [half_start hab], Nat.le_refl _, d, hs, hW.alloc _, (Kx.refl _ _ W).alloc _, Dt.new W, rfl⟩
  case round =>
    obtain ⟨rfl, hkk, dk, hds, hS0, hK0, hD0, HE⟩ := hrel
    cases gk with
    | zero =>
      have hB : Hid (dk = heapBuild lt (b - a) a ((b - a - 1) / 2 + 1) d) := HE.out
      clear HE hkk
      go_wp2
      go_loopg [10] (b - a) (fun k s10 wr2 => s10 = .int .i64 ((k : Int) - 1) ∧ k ≤ b - a ∧ ∃ (dj : Array α), dj.size = N ∧ SW enc w0 blk off dj wr2 ∧ Kx blk blk W wr2 ∧ Dt lb sf sb W.heap.size wr2 ∧ Hid (heapPop lt a k dj = heapPop lt a (b - a) dk))
      case atStart => exact ⟨by rw [ecast], Nat.le_refl _, dk, hds, hS0, hK0, hD0, rfl⟩
      case round =>
        clear hS0 hK0 hD0
        obtain ⟨rfl, hkk, dj, hdj, hS0, hK0, hD0, HE2⟩ := hrel
        cases gk with
        | zero =>
          go_wp2
          go_end0
          have e : dj = heapSort lt d a b := by rw [heapSort, ← hB.out, ← HE2.out]; rfl
          rw [← e]
          exact ⟨rfl, hS0, hK0⟩
        | succ k =>
          obtain ⟨w2, hr2, hS2, hK2⟩ := G.swap hS0 hdj a (a + k) (by omega) (by omega)
          rw [show ((a + k : Nat) : Int) = (a : Int) + (k : Int) by omega] at hr2
          have hd2 : (swp dj a (a + k)).size = N := by rw [size_swp]; exact hdj
          have hss : (siftDown lt k a 0 (swp dj a (a + k))).size = N := (size_siftDown lt _ _ _ _ _ (Nat.le_refl _)).trans hd2
          have hcall := sift_c G 0 k a (swp dj a (a + k)) w2 hS2 hd2 (Nat.zero_le _) (by omega)
          have hD2 := hD0.kx hK2 hne hne
          have c1 := hD0.c1
          have d0 := hD2.c0
          have d1 := hD2.c1
          go_wp2_with (go_at_call 48; refine hcall.mono ?_; rintro e w1 ⟨rfl, hS1, hK1⟩)
          go_roundg k
          case measure => omega
          case rel => exact ⟨by simp, by omega, _, hss, hS1, (hK0.trans hK2).trans hK1, hD2.kx hK1 hne hne, HE2⟩
    | succ k =>
      have hss : (siftDown lt (b - a) a k dk).size = N := (size_siftDown lt _ _ _ _ _ (Nat.le_refl _)).trans hds
      have hcall := sift_c G k (b - a) a dk wr hS0 hds (by omega) (by omega)
      rw [ecast] at hcall
      have d0 := hD0.c0
      have d1 := hD0.c1
      go_wp2_with (go_at_call 48; refine hcall.mono ?_; rintro e w1 ⟨rfl, hS1, hK1⟩)
      go_roundg k
      case measure => omega
      case rel => exact ⟨by simp, by omega, _, hss, hS1, hK0.trans hK1, hD0.kx hK1 hne hne, HE⟩

end Go.Proofs.Ybulkdwzg.lawB
