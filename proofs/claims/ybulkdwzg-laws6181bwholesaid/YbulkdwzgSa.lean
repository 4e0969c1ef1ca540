/-
  LawS6181BWhole: THE SORT's GROUND: what is asked of less (it MAY LAY NEW BLOCKS) and of swap, and the relation between the worlds; WALK of sort.insertionSort_func (40).
-/
import Derived.Test.YbulkdwzgBh
import Derived.Shelf.GgSortFunc.Pdq
namespace Go.Proofs.Ybulkdwzg.lawB
open Go.RowKit Go.Shelf Go.Lib Go.Sort

/-- Whatever block lay in W, but x and y, lies in W'. -/
def Kx (x y : Nat) (W W' : World) : Prop := W.heap.size ≤ W'.heap.size ∧ ∀ b : Nat, b ≠ x → b ≠ y → b < W.heap.size → W'.heap[b]? = W.heap[b]?
theorem Kx.refl (x y : Nat) (W : World) : Kx x y W W := ⟨Nat.le_refl _, fun _ _ _ _ => rfl⟩
theorem Kx.trans {x y : Nat} {W1 W2 W3 : World} (h1 : Kx x y W1 W2) (h2 : Kx x y W2 W3) : Kx x y W1 W3 :=
  ⟨Nat.le_trans h1.1 h2.1, fun b hx hy hl => (h2.2 b hx hy (Nat.lt_of_lt_of_le hl h1.1)).trans (h1.2 b hx hy hl)⟩
theorem Kx.wide {x y : Nat} {W1 W2 : World} (h : Kx x x W1 W2) : Kx x y W1 W2 := ⟨h.1, fun b hx _ hl => h.2 b hx hx hl⟩
theorem Kx.cell {x y : Nat} {W W' : World} (h : Kx x y W W') (a : Addr) (hx : a.block ≠ x) (hy : a.block ≠ y) (hl : a.block < W.heap.size) : W'.cell? a = W.cell? a := World.cell?_of_block (h.2 a.block hx hy hl)
theorem Kx.alloc {x y : Nat} {W1 W2 : World} (h : Kx x y W1 W2) (o : Obj) : Kx x y W1 (W2.alloc o) :=
  h.trans ⟨by simp, fun _ _ _ hl => heap_alloc_old W2 o hl⟩
theorem Kx.drewN {x y : Nat} {W1 W2 : World} (h : Kx x y W1 W2) (q : Nat) : Kx x y W1 (W2.drewN q) := h
/-- What happens in a world with one block more, is seen from the world without it. -/
theorem Kx.ofAlloc {x y : Nat} {W W2 : World} {o : Obj} (h : Kx x y (W.alloc o) W2) : Kx x y W W2 := ((Kx.refl x y W).alloc o).trans h

variable {α : Type} [Inhabited α]

theorem sw_trans {enc : α → Value} {w0 W W' : World} {blk off : Nat} {d d' : Array α} (hblk : blk < w0.heap.size) (h : SW enc w0 blk off d W) (h' : SW enc W blk off d' W') (hs : d'.size = d.size) : SW enc w0 blk off d' W' := by
  obtain ⟨m, os, rfl⟩ := h'
  exact h.on hblk m d' os hs
theorem sw_kx {enc : α → Value} {W W' : World} {blk off : Nat} {d : Array α} (h : SW enc W blk off d W') : Kx blk blk W W' := by
  obtain ⟨m, os, rfl⟩ := h
  refine ⟨by unfold sortWorld; rw [size_grow, size_putRow]; exact Nat.le_add_right _ _, fun b hx _ hl => ?_⟩
  have h1 : (putRow enc (Sort.ahead W m) blk off d).heap[b]? = W.heap[b]? := by
    unfold putRow mapBlock
    simp only [Array.getElem?_modify]
    rw [if_neg (by omega)]
    rfl
  have h2 : b < (putRow enc (Sort.ahead W m) blk off d).heap.size := by rw [size_putRow]; exact hl
  unfold sortWorld grow
  simp only
  rw [Array.getElem?_append_left h2, h1]

/-- THE SORT's GROUND, at the world w0 of the call: the row at blk, off holds N elements; less answers by lt in every world of the sort (and may lay new blocks); swap swaps. -/
structure Gd (enc : α → Value) (lt : α → α → Bool) (lb : Array Value) (sf : Nat) (sb : Array Value) (blk off N : Nat) (w0 : World) : Prop where
  hless : ∀ W d, SW enc w0 blk off d W → d.size = N → ∀ i j : Nat, i < N → j < N → Calls Yba.prog 21 (#[.int .i64 i, .int .i64 j] ++ lb) W fun e w' => e = .returned (.bool (lt d[i]! d[j]!)) ∧ SW enc w0 blk off d w' ∧ Kx blk blk W w'
  hswap : SwapSwaps Yba.prog sf sb enc blk off N
  hH : ∃ d0, Holds enc w0 blk off d0 ∧ d0.size = N
  hblk : blk < w0.heap.size
  hN : N < 4611686018427387904

variable {enc : α → Value} {lt : α → α → Bool} {lb : Array Value} {sf : Nat} {sb : Array Value} {blk off N : Nat} {w0 : World}

theorem Gd.holds (G : Gd enc lt lb sf sb blk off N w0) {W : World} {d : Array α} (h : SW enc w0 blk off d W) (hs : d.size = N) : Holds enc W blk off d := by
  obtain ⟨d0, h0, e0⟩ := G.hH
  exact h.holds G.hblk h0 (hs.trans e0.symm)
theorem Gd.swap (G : Gd enc lt lb sf sb blk off N w0) {W : World} {d : Array α} (h : SW enc w0 blk off d W) (hs : d.size = N) (i j : Nat) (hi : i < N) (hj : j < N) :
    ∃ W', (callFunc sf (#[.int .i64 i, .int .i64 j] ++ sb)).run Yba.prog W = .ok (.value (.tuple #[])) W' ∧ SW enc w0 blk off (swp d i j) W' ∧ Kx blk blk W W' := by
  refine ⟨_, G.hswap W d (G.holds h hs) hs i j hi hj, h.swap G.hblk i j (by omega) (by omega), ?_⟩
  exact sw_kx ((SW.start (G.holds h hs)).swap (h.lt G.hblk) i j (by omega) (by omega))

/-- The box of 'data' at block B. -/
structure Dt (lb : Array Value) (sf : Nat) (sb : Array Value) (B : Nat) (W : World) : Prop where
  c0 : W.cell? ⟨B, 0, none⟩ = some (.func (.func 21) #[] lb)
  c1 : W.cell? ⟨B, 1, none⟩ = some (.func (.func sf) #[] sb)
  hB : B < W.heap.size
theorem Dt.kx {x y B : Nat} {W W' : World} (h : Dt lb sf sb B W) (k : Kx x y W W') (hx : B ≠ x) (hy : B ≠ y) : Dt lb sf sb B W' :=
  ⟨(k.cell ⟨B, 0, none⟩ hx hy h.hB).trans h.c0, (k.cell ⟨B, 1, none⟩ hx hy h.hB).trans h.c1, Nat.lt_of_lt_of_le h.hB k.1⟩
theorem Dt.new (W : World) : Dt lb sf sb W.heap.size (W.alloc (.cells #[.func (.func 21) #[] lb, .func (.func sf) #[] sb] 83)) := ⟨by simp, by simp, by simp⟩

set_option maxHeartbeats 2000000 in
set_option maxRecDepth 100000 in
theorem insertion_c (G : Gd enc lt lb sf sb blk off N w0) (a b : Nat) (d : Array α) (W : World) (hW : SW enc w0 blk off d W) (hs : d.size = N) (hab : a ≤ b) (hb : b ≤ N) :
    Calls Yba.prog 40 #[.agg #[.func (.func 21) #[] lb, .func (.func sf) #[] sb], .int .i64 a, .int .i64 b] W fun e w' => e = .returned (.tuple #[]) ∧ SW enc w0 blk off (Sort.insertionSort lt d a b) w' ∧ Kx blk blk W w' := by
  have hN := G.hN
  have hne : W.heap.size ≠ blk := by have := hW.lt G.hblk; omega
  go_enter Yba.func40, Yba.ntmps40
  go_wp2
  go_loopw [6] (fun vi wr => ∃ (i : Nat) (dk : Array α), vi = .int .i64 i ∧ a < i ∧ i ≤ b + 1 ∧ dk.size = N ∧ SW enc w0 blk off dk wr ∧ Kx blk blk W wr ∧ Dt lb sf sb W.heap.size wr ∧ Hid (insOuter lt a b i dk = insOuter lt a b (a + 1) d)) (fun vi _ => b + 1 - (intOf vi).toNat)
  case atStart => exact ⟨a + 1, d, by go_num, by omega, by omega, hs, hW.alloc _, (Kx.refl _ _ W).alloc _, Dt.new W, rfl⟩
  case round =>
    obtain ⟨i, dk, rfl, hai, hib, hsk, hSk, hKk, hDk, HO⟩ := hrel
    go_wp2
    · have hlt : i < b := by assumption
      go_loopw [7] (fun vj wr2 => ∃ (j : Nat) (dj : Array α), vj = .int .i64 j ∧ a ≤ j ∧ j ≤ i ∧ dj.size = N ∧ SW enc w0 blk off dj wr2 ∧ Kx blk blk W wr2 ∧ Dt lb sf sb W.heap.size wr2 ∧ Hid (insInner lt a j dj = insInner lt a i dk)) (fun vj _ => (intOf vj).toNat)
      case atStart => exact ⟨i, dk, rfl, by omega, Nat.le_refl _, hsk, hSk, hKk, hDk, rfl⟩
      case round =>
        obtain ⟨j, dj, rfl, haj, hji, hsj, hSj, hKj, hDj, HI⟩ := hrel
        have c0 := hDj.c0
        have out : (j ≤ a ∨ lt dj[j]! dj[j - 1]! = false) → insOuter lt a b (i + 1) dj = insOuter lt a b (a + 1) d := fun h => by
          rw [← HO.out, insOuter_go _ _ _ _ _ hlt, ← HI.out, insInner_stop _ _ _ _ h]
        have OUT : Hid _ := out
        clear out
        by_cases hja : a < j
        · have hl := G.hless wr dj hSj hsj j (j - 1) (by omega) (by omega)
          rw [show (((j - 1 : Nat) : Int)) = (j : Int) - 1 by omega] at hl
          cases hlv : lt dj[j]! dj[j - 1]! with
          | true =>
            rw [hlv] at hl
            go_wp2_with (go_at_call 21; refine hl.mono ?_; rintro e w1 ⟨rfl, hS1, hK1⟩; obtain ⟨y0, y1, hy⟩ := hDj.kx hK1 hne hne; obtain ⟨w2, hr2, hS2, hK2⟩ := G.swap hS1 hsj j (j - 1) (by omega) (by omega); rw [show (((j - 1 : Nat) : Int)) = (j : Int) - 1 by omega] at hr2)
            go_roundw
            case rel =>
              (repeat apply Exists.intro)
              refine ⟨⟨j - 1, swp dj j (j - 1), by congr 1 <;> omega, by omega, by omega, by rw [size_swp]; exact hsj, hS2, (hKj.trans hK1).trans hK2, (Dt.mk y0 y1 hy).kx hK2 hne hne, ?_⟩, by rw [decide_eq_true hlt, show ((j - 1 : Nat) : Int) = (j : Int) - 1 by omega]⟩
              show _ = _
              rw [← HI.out, insInner_go lt a j dj hja hlv]
            case measure => simp [intOf]; omega
          | false =>
            rw [hlv] at hl
            go_wp2_with (go_at_call 21; refine hl.mono ?_; rintro e w1 ⟨rfl, hS1, hK1⟩)
            go_roundw
            case rel => exact ⟨i + 1, dj, by go_num, by omega, by omega, hsj, hS1, hKj.trans hK1, hDj.kx hK1 hne hne, OUT.out (Or.inr hlv)⟩
            case measure => simp [intOf]; omega
        · go_wp2
          go_roundw
          case rel => exact ⟨i + 1, dj, by go_num, by omega, by omega, hsj, hSj, hKj, hDj, OUT.out (Or.inl (by omega))⟩
          case measure => simp [intOf]; omega
    · have hge : ¬ i < b := by assumption
      go_end0
      exact ⟨rfl, by unfold Sort.insertionSort; rw [← HO.out, insOuter_stop _ _ _ _ _ hge]; exact hSk, hKk⟩

end Go.Proofs.Ybulkdwzg.lawB
