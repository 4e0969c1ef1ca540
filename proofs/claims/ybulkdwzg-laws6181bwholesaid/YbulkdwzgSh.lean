/-
  LawS6181BWhole: WALK of sort.choosePivot_func (43), less laying new blocks.
-/
import Derived.Test.YbulkdwzgSg
namespace Go.Proofs.Ybulkdwzg.lawB
open Go.RowKit Go.Shelf Go.Lib Go.Sort
variable {α : Type} [Inhabited α] {enc : α → Value} {lt : α → α → Bool} {lb : Array Value} {sf : Nat} {sb : Array Value} {blk off N : Nat} {w0 : World}

set_option maxHeartbeats 2000000 in
set_option maxRecDepth 100000 in
theorem pivot_c (G : Gd enc lt lb sf sb blk off N w0) (a b : Nat) (d : Array α) (W : World) (hW : SW enc w0 blk off d W) (hs : d.size = N) (hab : a < b) (hb : b ≤ N) :
    Calls Yba.prog 43 #[.agg #[.func (.func 21) #[] lb, .func (.func sf) #[] sb], .int .i64 a, .int .i64 b] W fun e w' => e = .returned (.tuple #[.int .i64 (choosePivot lt d a b).1, .int .i64 (hintCode (choosePivot lt d a b).2)]) ∧ SW enc w0 blk off d w' ∧ Kx blk blk W w' := by
  have hN := G.hN
  have hlt := hW.lt G.hblk
  have hn0 : W.heap.size ≠ blk := by omega
  have hn1 : W.heap.size ≠ W.heap.size + 1 := by omega
  have hle := hW.le
  obtain ⟨W2, hW2⟩ : ∃ W2, W2 = (W.alloc (.cells #[.func (.func 21) #[] lb, .func (.func sf) #[] sb] 83)).alloc (.cells #[.int .i64 0] 3) := ⟨_, rfl⟩
  have hC0 : Cn enc blk off w0 (W.heap.size + 1) d 0 W2 := by
    rw [hW2]
    exact ⟨(hW.alloc _).alloc _, by rw [show W.heap.size + 1 = (W.alloc (.cells #[.func (.func 21) #[] lb, .func (.func sf) #[] sb] 83)).heap.size by simp]; exact Array.getElem?_push_size, by omega⟩
  have hD0 : Dt lb sf sb W.heap.size W2 := by
    rw [hW2]
    exact (Dt.new W).kx ((Kx.refl blk blk _).alloc _) hn0 hn0
  have hK0 : Kx blk (W.heap.size + 1) W W2 := by
    rw [hW2]
    exact ((Kx.refl _ _ W).alloc _).alloc _
  have fin : ∀ {s' : Nat} {w' : World}, Cn enc blk off w0 (W.heap.size + 1) d s' w' → Kx blk (W.heap.size + 1) W w' → SW enc w0 blk off d w' ∧ Kx blk blk W w' := fun {s' w'} hC hK =>
    ⟨hC.sw, hK.1, fun b hx _ hl => hK.2 b hx (by omega) hl⟩
  have FIN : Hid _ := @fin
  clear fin
  rw [choosePivot_eq]
  obtain ⟨I, hI⟩ : ∃ I : Nat, I = a + (b - a) / 4 * 1 := ⟨_, rfl⟩
  obtain ⟨J, hJ⟩ : ∃ J : Nat, J = a + (b - a) / 4 * 2 := ⟨_, rfl⟩
  obtain ⟨K, hK⟩ : ∃ K : Nat, K = a + (b - a) / 4 * 3 := ⟨_, rfl⟩
  have eI : ((a : Int) + ((b : Int) - (a : Int)) / 4) = (I : Int) := by omega
  have eJ : ((a : Int) + ((b : Int) - (a : Int)) / 4 * 2) = (J : Int) := by omega
  have eK : ((a : Int) + ((b : Int) - (a : Int)) / 4 * 3) = (K : Int) := by omega
  have HW2 := hW2.symm
  clear hW2
  by_cases h8 : b - a ≥ 8
  · by_cases h50 : b - a ≥ 50
    · obtain ⟨i1, s1, h1⟩ : ∃ i1 s1, medianAdjacent lt d I 0 = (i1, s1) := ⟨_, _, rfl⟩
      obtain ⟨j1, s2, h2⟩ : ∃ j1 s2, medianAdjacent lt d J s1 = (j1, s2) := ⟨_, _, rfl⟩
      obtain ⟨k1, s3, h3⟩ : ∃ k1 s3, medianAdjacent lt d K s2 = (k1, s3) := ⟨_, _, rfl⟩
      obtain ⟨p, s, h4⟩ : ∃ p s, median lt d i1 j1 k1 s3 = (p, s) := ⟨_, _, rfl⟩
      have hraw : rawPivot lt d a b = (p, s) := by simp only [rawPivot, if_pos h8, if_pos h50, ← hI, ← hJ, ← hK, h1, h2, h3, h4]
      have m1 := medianAdjacent_mem lt d I 0; rw [h1] at m1
      have m2 := medianAdjacent_mem lt d J s1; rw [h2] at m2
      have m3 := medianAdjacent_mem lt d K s2; rw [h3] at m3
      have n1 := medianAdjacent_count lt d I 0; rw [h1] at n1
      have n2 := medianAdjacent_count lt d J s1; rw [h2] at n2
      have n3 := medianAdjacent_count lt d K s2; rw [h3] at n3
      simp only [] at m1 m2 m3 n1 n2 n3
      have c1 := medianAdj_c G I (W.heap.size + 1) 0 d W2 hC0 hs (by omega) (by omega) (by omega)
      have c2 : Hid (∀ W', Cn enc blk off w0 (W.heap.size + 1) d s1 W' → _) := fun W' hC => medianAdj_c G J (W.heap.size + 1) s1 d W' hC hs (by omega) (by omega) (by omega)
      have c3 : Hid (∀ W', Cn enc blk off w0 (W.heap.size + 1) d s2 W' → _) := fun W' hC => medianAdj_c G K (W.heap.size + 1) s2 d W' hC hs (by omega) (by omega) (by omega)
      have c4 : Hid (∀ W', Cn enc blk off w0 (W.heap.size + 1) d s3 W' → _) := fun W' hC => median_c G i1 j1 k1 (W.heap.size + 1) s3 d W' hC hs (by omega) (by omega) (by omega) (by omega)
      rw [h1] at c1
      rw [h2] at c2
      rw [h3] at c3
      rw [h4] at c4
      simp only at c1
      rw [hraw]
      obtain ⟨Hc, hHc⟩ : ∃ Hc : Int, Hc = hintCode (hintOf s) := ⟨_, rfl⟩
      have hh0 : s = 0 → Hc = 1 := fun h => by rw [hHc, h]; rfl
      have hh12 : s = 12 → Hc = 2 := fun h => by rw [hHc, h]; rfl
      have hhx : s ≠ 0 → s ≠ 12 → Hc = 0 := fun h1 h2 => by rw [hHc]; unfold hintOf; rw [if_neg h1, if_neg h2]; rfl
      simp only
      rw [← hHc]
      clear hHc
      clear h1 h2 h3 h4 hI hJ hK m1 m2 m3 hraw
      obtain ⟨a0, a1, ha⟩ := hD0
      go_enter Yba.func43, Yba.ntmps43
      go_wp2_with (first
        | (go_at_call 52; refine (c4.out _ hC3).mono ?_; rintro e w4 ⟨rfl, hC4, hK4⟩; have cS := hC4.cell)
        | (go_at_call 51; refine (c3.out _ hC2).mono ?_; rintro e w3 ⟨rfl, hC3, hK3⟩; obtain ⟨x0, x1, hx⟩ := (Dt.mk z0 z1 hz).kx hK3 hn0 hn1)
        | (go_at_call 51; refine (c2.out _ hC1).mono ?_; rintro e w2 ⟨rfl, hC2, hK2⟩; obtain ⟨z0, z1, hz⟩ := (Dt.mk y0 y1 hy).kx hK2 hn0 hn1)
        | (go_at_call 51; refine c1.mono ?_; rintro e w1 ⟨rfl, hC1, hK1⟩; obtain ⟨y0, y1, hy⟩ := (Dt.mk a0 a1 ha).kx hK1 hn0 hn1))
      all_goals
        go_ret2
        refine ⟨?_, FIN.out hC4 ((((hK0.trans hK1).trans hK2).trans hK3).trans hK4)⟩
        first
          | (have e0 : (s : Int) = 0 := of_beq_int (by assumption)
             rw [hh0 (by omega)]; rfl)
          | (have e1 : (s : Int) = 12 := of_beq_int (by assumption)
             rw [hh12 (by omega)]; rfl)
          | (have e0 : (s : Int) ≠ 0 := of_bne_int (by assumption)
             have e1 : (s : Int) ≠ 12 := of_bne_int (by assumption)
             rw [hhx (by omega) (by omega)]; rfl)
          | (rw [hh0 (by omega)]; rfl)
    · obtain ⟨p, s, h4⟩ : ∃ p s, median lt d I J K 0 = (p, s) := ⟨_, _, rfl⟩
      have hraw : rawPivot lt d a b = (p, s) := by simp only [rawPivot, if_pos h8, if_neg h50, ← hI, ← hJ, ← hK, h4]
      have c4 := median_c G I J K (W.heap.size + 1) 0 d W2 hC0 hs (by omega) (by omega) (by omega) (by omega)
      rw [h4] at c4
      simp only at c4
      rw [hraw]
      obtain ⟨Hc, hHc⟩ : ∃ Hc : Int, Hc = hintCode (hintOf s) := ⟨_, rfl⟩
      have hh0 : s = 0 → Hc = 1 := fun h => by rw [hHc, h]; rfl
      have hh12 : s = 12 → Hc = 2 := fun h => by rw [hHc, h]; rfl
      have hhx : s ≠ 0 → s ≠ 12 → Hc = 0 := fun h1 h2 => by rw [hHc]; unfold hintOf; rw [if_neg h1, if_neg h2]; rfl
      simp only
      rw [← hHc]
      clear hHc
      clear h4 hI hJ hK hraw
      obtain ⟨a0, a1, ha⟩ := hD0
      go_enter Yba.func43, Yba.ntmps43
      go_wp2_with (go_at_call 52; refine c4.mono ?_; rintro e w4 ⟨rfl, hC4, hK4⟩; have cS := hC4.cell)
      all_goals
        go_ret2
        refine ⟨?_, FIN.out hC4 (hK0.trans hK4)⟩
        first
          | (have e0 : (s : Int) = 0 := of_beq_int (by assumption)
             rw [hh0 (by omega)]; rfl)
          | (have e1 : (s : Int) = 12 := of_beq_int (by assumption)
             rw [hh12 (by omega)]; rfl)
          | (have e0 : (s : Int) ≠ 0 := of_bne_int (by assumption)
             have e1 : (s : Int) ≠ 12 := of_bne_int (by assumption)
             rw [hhx (by omega) (by omega)]; rfl)
          | (rw [hh0 (by omega)]; rfl)
  · have hraw : rawPivot lt d a b = (J, 0) := by simp only [rawPivot, if_neg h8, ← hJ]
    rw [hraw]
    have cS := hC0.cell
    clear hI hJ hK hraw
    go_enter Yba.func43, Yba.ntmps43
    go_wp2
    go_ret2
    exact ⟨rfl, FIN.out hC0 hK0⟩

end Go.Proofs.Ybulkdwzg.lawB
