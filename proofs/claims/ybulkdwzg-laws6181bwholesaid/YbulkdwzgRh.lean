/-
  LawS6181BWhole: WALK of rising (22).
-/
import Derived.Test.YbulkdwzgRq
namespace Go.Proofs.Ybulkdwzg.lawB
open Go.RowKit

theorem split8 {P : Program} {a b c d f g h i t : Code} {Q : Exit → Act → World → Prop} {x : Act} {w : World} (T : Code) (e : t = T) (k : Code.wp P (.seq a (.seq b (.seq c (.seq d (.seq f (.seq g (.seq h (.seq i T)))))))) Q x w) : Code.wp P (.seq a (.seq b (.seq c (.seq d (.seq f (.seq g (.seq h (.seq i t)))))))) Q x w := by subst e; exact k
def mx (S : Nat → Nat) : Nat → Nat
  | 0 => 0
  | k + 1 => max (mx S k) (S k + 1)
theorem mx_ge (S : Nat → Nat) : ∀ n i, i < n → S i + 1 ≤ mx S n
  | 0, i, h => absurd h (by omega)
  | n + 1, i, h => by
    rw [mx]
    by_cases e : i = n
    · subst e; omega
    · have := mx_ge S n i (by omega); omega
theorem mx_le (S : Nat → Nat) (b : Nat) : ∀ n, (∀ i, i < n → S i + 1 ≤ b) → mx S n ≤ b
  | 0, _ => Nat.zero_le _
  | n + 1, h => by
    have h1 := mx_le S b n (fun i hi => h i (by omega))
    have h2 := h n (by omega)
    rw [mx]; omega

set_option maxRecDepth 1000000 in
set_option maxHeartbeats 8000000 in
theorem rise_c (w : World) (SB WB n sc wc : Nat) (S Wt : Nat → Nat) (hn : n ≤ 4096) (hS : ∀ i, i < n → S i < 512) (hW1 : ∀ i, 0 < Wt i) (hW8 : ∀ i, Wt i ≤ 8)
    (hs : RW w SB 3 (fun j => .int .i64 (S j : Nat)) n) (hw : RW w WB 3 (fun j => .int .i64 (Wt j : Nat)) n) :
    Calls Yba.prog 22 #[.slice (some ⟨SB, 0, none⟩) n sc, .slice (some ⟨WB, 0, none⟩) n wc] w fun x w' => ∃ QB, x = .returned (.slice (some ⟨QB, 0, none⟩) (chain (Pv S Wt) n (tp S Wt n).2).length (chain (Pv S Wt) n (tp S Wt n).2).length) ∧ RW w' QB 3 (fun j => .int .i64 ((chain (Pv S Wt) n (tp S Wt n).2).getD ((chain (Pv S Wt) n (tp S Wt n).2).length - 1 - j) 0 : Nat)) (chain (Pv S Wt) n (tp S Wt n).2).length ∧ Below w.heap.size w w' := by
  have hm5 := mx_le S 512 n (fun i hi => by have := hS i hi; omega)
  have HSm : Hid (∀ k, k ≤ n → mx S k ≤ 512) := fun k hk => mx_le S 512 k (fun i hi => by have := hS i (by omega); omega)
  have HS : Hid (RW w SB 3 (fun j => .int .i64 (S j : Nat)) n) := hs
  have HW : Hid (RW w WB 3 (fun j => .int .i64 (Wt j : Nat)) n) := hw
  have HS5 : Hid (∀ i, i < n → S i < 512) := hS
  have HW1 : Hid (∀ i, 0 < Wt i) := hW1
  have HW8 : Hid (∀ i, Wt i ≤ 8) := hW8
  clear hs hw hS hW1 hW8
  go_enter Yba.func22, Yba.ntmps22
  obtain ⟨T, hT⟩ : ∃ T, T = tl 8 (Yba.f22.body.getD .skip) := ⟨_, rfl⟩
  refine split8 T hT.symm ?_
  replace hT : Hid (T = tl 8 (Yba.f22.body.getD .skip)) := hT
  go_wp2
  obtain ⟨wa, hwa⟩ : ∃ wa, wa = w.alloc (.cells #[.slice (some ⟨SB, 0, none⟩) n sc] 26) := ⟨_, rfl⟩
  rw [← hwa]
  have HSa : Hid (RW wa SB 3 (fun j => .int .i64 (S j : Nat)) n) := by rw [hwa]; exact HS.out.alloc _
  have HWa : Hid (RW wa WB 3 (fun j => .int .i64 (Wt j : Nat)) n) := by rw [hwa]; exact HW.out.alloc _
  have HPa : Hid (RW wa w.heap.size 26 (fun _ => .slice (some ⟨SB, 0, none⟩) n sc) 1) := by rw [hwa]; exact rw_one w _ _
  have HBa : Hid (Below w.heap.size w wa) := by rw [hwa]; exact (Below.refl _ w).alloc (Nat.le_refl _) _
  have HZA : Hid (wa.heap.size = w.heap.size + 1) := by rw [hwa]; show _ = _; simp
  have cpa := HPa.out.cell (j := 0) (by omega)
  have hsl := HS.out.lt
  have hwl := HW.out.lt
  clear hwa HS HW
  go_loopw [6, 26] (fun sz iv wr => ∃ (k : Nat), k ≤ n ∧ sz = .int .i64 (mx S k : Nat) ∧ iv = .int .i64 k ∧ wr = wa) (fun _ iv _ => n - (intOf iv).toNat)
  case atStart => exact ⟨0, Nat.zero_le _, rfl, rfl, rfl⟩
  case round =>
    obtain ⟨k, hk, rfl, rfl, rfl⟩ := hrel
    by_cases hlt : k < n
    · have hltI : (k : Int) < (n : Int) := by omega
      have cs := HSa.out.cell hlt
      have h5 := HS5.out k hlt
      have hmk := HSm.out k hk
      have hmx : mx S (k + 1) = max (mx S k) (S k + 1) := rfl
      have HMX : Hid (mx S (k + 1) = max (mx S k) (S k + 1)) := hmx
      clear hmx
      go_wp2
      go_roundw
      case rel => exact ⟨k + 1, by omega, by rw [HMX.out]; congr 1; omega, by go_num, by first | rfl | trivial⟩
      case measure => simp [intOf]; omega
    · obtain rfl : k = n := by omega
      obtain ⟨m, hm⟩ : ∃ m, mx S k = m := ⟨_, rfl⟩
      have HMm : Hid (mx S k = m) := hm
      rw [hm] at hm5
      rw [hm]
      clear hm
      have hmk := mk87 (m + 1) (by omega)
      rw [show ((m + 1 : Nat) : Int) = (m : Int) + 1 by omega] at hmk
      go_wp2
      go_loopw [40] (fun iv wq => ∃ (v : Nat), v ≤ m + 1 ∧ iv = .int .i64 v ∧ Hid (R2 wq wr.heap.size 85 (fun _ => .int .i64 0) (fun j => .int .i64 (if j < v then -1 else 0)) (m + 1)) ∧ Hid (Below wr.heap.size wr wq)) (fun iv _ => m + 1 - (intOf iv).toNat)
      case atStart => exact ⟨0, Nat.zero_le _, rfl, (R2.congr (A := fun _ => .int .i64 0) (B := fun _ => .int .i64 0) (rw_new wr _ _ _) (fun j _ => rfl) (fun j _ => by rw [if_neg (by omega)])), (Below.refl _ wr).alloc (Nat.le_refl _) _⟩
      case round =>
        rename World => wq
        obtain ⟨v, hv, rfl, HR, HB⟩ := hrel
        by_cases hvm : v < m + 1
        · have hvI : (v : Int) < (m : Int) + 1 := by omega
          have b1 := HR.out.c1 hvm
          have b0 := HR.out.c0 hvm
          have fB := HR.out.frozen (v * 2 + 1)
          go_wp2
          go_roundw
          case rel =>
            refine ⟨v + 1, by omega, by go_num, (HR.out.set1 hvm _).congr (fun j _ => rfl) (fun j _ => ?_), HB.out.setCell (p := ⟨wr.heap.size, v * 2 + 1, none⟩) (Nat.le_refl _) _⟩
            by_cases e : j = v
            · subst e; rw [if_pos rfl, if_pos (by omega)]
            · rw [if_neg e]
              by_cases e2 : j < v
              · rw [if_pos e2, if_pos (by omega)]
              · rw [if_neg e2, if_neg (by omega)]
          case measure => simp [intOf]; omega
        · have hvI : ¬ (v : Int) < (m : Int) + 1 := by omega
          obtain rfl : v = m + 1 := by omega
          have cpb := cell_below HB.out cpa
          have hmk2 := mk26 k (by omega)
          go_wp2
          rw [hT.out]
          have hz1 := HZA.out
          have hz2 := HB.out.size
          have hz3 := HR.out.lt
          have hb1 : Below w.heap.size w wq := HBa.out.trans (HB.out.mono (by omega))
          refine rise_m w ((wq.alloc (.cells (rowL (fun _ => .int .i64 0) k).toArray 3)).alloc (.cells #[.int .i64 0, .int .i64 (-1)] 85)) SB WB w.heap.size wr.heap.size wq.heap.size (wq.heap.size + 1) k m sc wc (m + 1) k S Wt hn hm5 (fun i hi => by rw [← HMm.out]; exact mx_ge S k i hi) HW1.out HW8.out ⟨hsl, hwl, by omega, by omega, by omega⟩ ((hb1.alloc (by omega) _).alloc (by simp; omega) _)
            ⟨((HSa.out.later HB.out).alloc _).alloc _, ((HWa.out.later HB.out).alloc _).alloc _, ((HPa.out.later HB.out).alloc _).alloc _, RW.alloc (RW.alloc (R2.congr HR.out (fun j _ => rfl) (fun j hj => by rw [if_pos hj]; rfl)) _) _, ((rw_new wq _ _ _).congr (fun j _ => by rw [if_neg (by omega)])).alloc _, ?_⟩
          · have := rw_two (wq.alloc (.cells (rowL (fun _ => .int .i64 0) k).toArray 3)) (.int .i64 0) (.int .i64 (-1)) 85
            rw [show (wq.alloc (.cells (rowL (fun _ => .int .i64 0) k).toArray 3)).heap.size = wq.heap.size + 1 by simp] at this
            exact this.congr (fun j _ => by unfold two tp en; rfl)

end Go.Proofs.Ybulkdwzg.lawB
