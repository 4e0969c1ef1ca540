/-
  LawS6181BWhole: WALKS of sort.order2_func (53), median_func (52), medianAdjacent_func (51), less laying new blocks.
-/
import Derived.Test.YbulkdwzgSd
namespace Go.Proofs.Ybulkdwzg.lawB
open Go.RowKit Go.Shelf Go.Lib Go.Sort
variable {α : Type} [Inhabited α] {enc : α → Value} {lt : α → α → Bool} {lb : Array Value} {sf : Nat} {sb : Array Value} {blk off N : Nat} {w0 : World}

/-- The world in which the counter of swaps lies at block cb and holds s. -/
structure Cn (enc : α → Value) (blk off : Nat) (w0 : World) (cb : Nat) (d : Array α) (s : Nat) (W : World) : Prop where
  sw : SW enc w0 blk off d W
  c : W.heap[cb]? = some (.cells #[.int .i64 (s : Int)] 3 (0, 0))
  n : w0.heap.size ≤ cb
theorem Cn.below {cb s : Nat} {d : Array α} {W : World} (h : Cn enc blk off w0 cb d s W) : cb < W.heap.size := by
  obtain ⟨h1, _⟩ := Array.getElem?_eq_some_iff.1 h.c
  exact h1
theorem Cn.cell {cb s : Nat} {d : Array α} {W : World} (h : Cn enc blk off w0 cb d s W) : W.cell? ⟨cb, 0, none⟩ = some (.int .i64 (s : Int)) := by
  have := h.c
  simp [World.cell?, this]
theorem Cn.frozen {cb s : Nat} {d : Array α} {W : World} (h : Cn enc blk off w0 cb d s W) : W.frozen? ⟨cb, 0, none⟩ = false := by
  have := h.c
  simp [World.frozen?, this]
theorem Cn.kx {cb s : Nat} {d : Array α} {W W' : World} (G : Gd enc lt lb sf sb blk off N w0) (h : Cn enc blk off w0 cb d s W) (hS : SW enc w0 blk off d W') (k : Kx blk blk W W') : Cn enc blk off w0 cb d s W' := by
  have h1 := G.hblk
  have h2 := h.n
  exact ⟨hS, (k.2 cb (by omega) (by omega) h.below).trans h.c, h.n⟩
theorem Cn.inc {cb s : Nat} {d : Array α} {W : World} (h : Cn enc blk off w0 cb d s W) : Cn enc blk off w0 cb d (s + 1) (W.setCell ⟨cb, 0, none⟩ (.int .i64 ((s : Int) + 1))) ∧ Kx blk cb W (W.setCell ⟨cb, 0, none⟩ (.int .i64 ((s : Int) + 1))) := by
  refine ⟨⟨h.sw.setCell_new cb 0 _ h.n, ?_, h.n⟩, ?_, fun b _ hy _ => ?_⟩
  · have c := h.c
    rw [setCell_eq]
    unfold mapBlock
    simp only [Array.getElem?_modify, if_pos, c]
    rfl
  · rw [setCell_eq]; simp [mapBlock]
  · rw [setCell_eq]
    unfold mapBlock
    simp only [Array.getElem?_modify]
    rw [if_neg (by omega)]

set_option maxHeartbeats 1000000 in
set_option maxRecDepth 100000 in
theorem order2_c (G : Gd enc lt lb sf sb blk off N w0) (a b cb s : Nat) (d : Array α) (W : World) (h : Cn enc blk off w0 cb d s W) (hs : d.size = N) (ha : a < N) (hb : b < N) (hs' : s < 4611686018427387904) :
    Calls Yba.prog 53 #[.agg #[.func (.func 21) #[] lb, .func (.func sf) #[] sb], .int .i64 a, .int .i64 b, .pointer (some ⟨cb, 0, none⟩)] W fun e w' => e = .returned (.tuple #[.int .i64 (order2 lt d a b s).1, .int .i64 (order2 lt d a b s).2.1]) ∧ Cn enc blk off w0 cb d (order2 lt d a b s).2.2 w' ∧ Kx blk cb W w' := by
  have hl := G.hless (W.alloc (.cells #[.func (.func 21) #[] lb, .func (.func sf) #[] sb] 83)) d (h.sw.alloc _) hs b a hb ha
  have hW1 : Cn enc blk off w0 cb d s (W.alloc (.cells #[.func (.func 21) #[] lb, .func (.func sf) #[] sb] 83)) := h.kx G (h.sw.alloc _) ((Kx.refl _ _ W).alloc _)
  have hK1 : Kx blk blk W (W.alloc (.cells #[.func (.func 21) #[] lb, .func (.func sf) #[] sb] 83)) := (Kx.refl _ _ W).alloc _
  go_enter Yba.func53, Yba.ntmps53
  cases hlv : lt d[b]! d[a]! with
  | true =>
    rw [hlv] at hl
    have e2 : order2 lt d a b s = (b, a, s + 1) := by simp [order2, hlv]
    rw [e2]
    have E2 : Hid (order2 lt d a b s = (b, a, s + 1)) := e2
    clear e2 E2
    go_wp2_with (go_at_call 21; refine hl.mono ?_; rintro e w1 ⟨rfl, hS1, hK2⟩; have hC1 := hW1.kx G hS1 hK2; have c1 := hC1.cell; have f1 := hC1.frozen)
    go_ret2
    exact ⟨rfl, hC1.inc.1, ((hK1.trans hK2).wide).trans hC1.inc.2⟩
  | false =>
    rw [hlv] at hl
    have e2 : order2 lt d a b s = (a, b, s) := by simp [order2, hlv]
    rw [e2]
    clear e2
    go_wp2_with (go_at_call 21; refine hl.mono ?_; rintro e w1 ⟨rfl, hS1, hK2⟩)
    go_ret2
    exact ⟨rfl, hW1.kx G hS1 hK2, (hK1.trans hK2).wide⟩

set_option maxHeartbeats 1000000 in
set_option maxRecDepth 100000 in
theorem median_c (G : Gd enc lt lb sf sb blk off N w0) (a b c cb s : Nat) (d : Array α) (W : World) (h : Cn enc blk off w0 cb d s W) (hs : d.size = N) (ha : a < N) (hb : b < N) (hc : c < N) (hs' : s + 3 < 4611686018427387904) :
    Calls Yba.prog 52 #[.agg #[.func (.func 21) #[] lb, .func (.func sf) #[] sb], .int .i64 a, .int .i64 b, .int .i64 c, .pointer (some ⟨cb, 0, none⟩)] W fun e w' => e = .returned (.int .i64 (median lt d a b c s).1) ∧ Cn enc blk off w0 cb d (median lt d a b c s).2 w' ∧ Kx blk cb W w' := by
  have l1 := order2_lt' lt d s ha hb
  have s1 := order2_swaps' lt d a b s
  have l2 := order2_lt' lt d (order2 lt d a b s).2.2 l1.2 hc
  have s2 := order2_swaps' lt d (order2 lt d a b s).2.1 c (order2 lt d a b s).2.2
  have hWl := h.below
  have hn0 : W.heap.size ≠ blk := by have := h.sw.lt G.hblk; omega
  have hn1 : W.heap.size ≠ cb := by omega
  have hW1 : Cn enc blk off w0 cb d s (W.alloc (.cells #[.func (.func 21) #[] lb, .func (.func sf) #[] sb] 83)) := h.kx G (h.sw.alloc _) ((Kx.refl _ _ W).alloc _)
  have hK1 : Kx blk cb W (W.alloc (.cells #[.func (.func 21) #[] lb, .func (.func sf) #[] sb] 83)) := (Kx.refl _ _ W).alloc _
  have hD1 : Dt lb sf sb W.heap.size (W.alloc (.cells #[.func (.func 21) #[] lb, .func (.func sf) #[] sb] 83)) := Dt.new W
  have hc1 := order2_c G a b cb s d _ hW1 hs ha hb (by omega)
  show Calls Yba.prog 52 _ W fun e w' => e = .returned (.int .i64 ((order2 lt d (order2 lt d a b s).1 (order2 lt d (order2 lt d a b s).2.1 c (order2 lt d a b s).2.2).1 (order2 lt d (order2 lt d a b s).2.1 c (order2 lt d a b s).2.2).2.2).2.1 : Nat)) ∧ Cn enc blk off w0 cb d (order2 lt d (order2 lt d a b s).1 (order2 lt d (order2 lt d a b s).2.1 c (order2 lt d a b s).2.2).1 (order2 lt d (order2 lt d a b s).2.1 c (order2 lt d a b s).2.2).2.2).2.2 w' ∧ Kx blk cb W w'
  generalize order2 lt d a b s = o1 at l1 s1 l2 s2 hc1 ⊢
  obtain ⟨a1, b1, t1⟩ := o1
  simp only at l1 s1 l2 s2 hc1 ⊢
  have hc2 : ∀ W', Cn enc blk off w0 cb d t1 W' → _ := fun W' hC => order2_c G b1 c cb t1 d W' hC hs l1.2 hc (by omega)
  generalize order2 lt d b1 c t1 = o2 at l2 s2 hc2 ⊢
  obtain ⟨b2, c2, t2⟩ := o2
  simp only at l2 s2 hc2 ⊢
  have hc3 : ∀ W', Cn enc blk off w0 cb d t2 W' → _ := fun W' hC => order2_c G a1 b2 cb t2 d W' hC hs l1.1 l2.1 (by omega)
  generalize order2 lt d a1 b2 t2 = o3 at hc3 ⊢
  obtain ⟨a3, b3, t3⟩ := o3
  simp only at hc3 ⊢
  have C2 : Hid _ := hc2
  have C3 : Hid _ := hc3
  clear hc2 hc3
  go_enter Yba.func52, Yba.ntmps52
  go_wp2_with (first
    | (go_at_call 53; refine (hc3 _ hC2).mono ?_; rintro e w3 ⟨rfl, hC3, hK4⟩)
    | (go_at_call 53; refine (hc2 _ hC1).mono ?_; rintro e w2 ⟨rfl, hC2, hK3⟩; clear hc2; have hc3 := C3.out; obtain ⟨z0, z1, hz⟩ := (Dt.mk y0 y1 hy).kx hK3 hn0 hn1)
    | (go_at_call 53; refine hc1.mono ?_; rintro e w1 ⟨rfl, hC1, hK2⟩; clear hc1; have hc2 := C2.out; obtain ⟨y0, y1, hy⟩ := hD1.kx hK2 hn0 hn1))
  go_ret
  exact ⟨rfl, hC3, ((hK1.trans hK2).trans hK3).trans hK4⟩

set_option maxHeartbeats 1000000 in
set_option maxRecDepth 100000 in
theorem medianAdj_c (G : Gd enc lt lb sf sb blk off N w0) (a cb s : Nat) (d : Array α) (W : World) (h : Cn enc blk off w0 cb d s W) (hs : d.size = N) (ha1 : 1 ≤ a) (ha2 : a + 1 < N) (hs' : s + 3 < 4611686018427387904) :
    Calls Yba.prog 51 #[.agg #[.func (.func 21) #[] lb, .func (.func sf) #[] sb], .int .i64 a, .pointer (some ⟨cb, 0, none⟩)] W fun e w' => e = .returned (.int .i64 (medianAdjacent lt d a s).1) ∧ Cn enc blk off w0 cb d (medianAdjacent lt d a s).2 w' ∧ Kx blk cb W w' := by
  have hN := G.hN
  have hW1 : Cn enc blk off w0 cb d s (W.alloc (.cells #[.func (.func 21) #[] lb, .func (.func sf) #[] sb] 83)) := h.kx G (h.sw.alloc _) ((Kx.refl _ _ W).alloc _)
  have hK1 : Kx blk cb W (W.alloc (.cells #[.func (.func 21) #[] lb, .func (.func sf) #[] sb] 83)) := (Kx.refl _ _ W).alloc _
  have hm := median_c G (a - 1) a (a + 1) cb s d _ hW1 hs (by omega) (by omega) ha2 hs'
  rw [show ((a - 1 : Nat) : Int) = (a : Int) - 1 by omega, show ((a + 1 : Nat) : Int) = (a : Int) + 1 by omega] at hm
  unfold medianAdjacent
  go_enter Yba.func51, Yba.ntmps51
  go_wp2_with (go_at_call 52; refine hm.mono ?_; rintro e w1 ⟨rfl, hC1, hK2⟩)
  go_ret
  exact ⟨rfl, hC1, hK1.trans hK2⟩

end Go.Proofs.Ybulkdwzg.lawB
