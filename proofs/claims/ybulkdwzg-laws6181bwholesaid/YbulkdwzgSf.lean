/-
  LawS6181BWhole: WALK of sort.partialInsertionSort_func (45), less laying new blocks.
-/
import Derived.Test.YbulkdwzgSd
namespace Go.Proofs.Ybulkdwzg.lawB
open Go.RowKit Go.Shelf Go.Lib Go.Sort
variable {α : Type} [Inhabited α] {enc : α → Value} {lt : α → α → Bool} {lb : Array Value} {sf : Nat} {sb : Array Value} {blk off N : Nat} {w0 : World}

/-- less and swap at (j, j - 1), as the walk meets them. -/
theorem Gd.lessD (G : Gd enc lt lb sf sb blk off N w0) {W W1 : World} {d : Array α} (h : Sn enc lb sf sb blk off w0 W d W1) (hs : d.size = N) (j : Nat) (v : Bool) (h1 : 1 ≤ j) (hj : j < N) (hv : lt d[j]! d[j - 1]! = v) :
    Calls Yba.prog 21 (#[.int .i64 j, .int .i64 ((j : Int) - 1)] ++ lb) W1 fun e w' => e = .returned (.bool v) ∧ Sn enc lb sf sb blk off w0 W d w' := by
  have := G.lessN h hs j (j - 1) hj (by omega)
  rw [hv, show ((j - 1 : Nat) : Int) = (j : Int) - 1 by omega] at this
  exact this
theorem Gd.swapD (G : Gd enc lt lb sf sb blk off N w0) {W W1 : World} {d : Array α} (h : Sn enc lb sf sb blk off w0 W d W1) (hs : d.size = N) (j : Nat) (h1 : 1 ≤ j) (hj : j < N) :
    ∃ W', (callFunc sf (#[.int .i64 j, .int .i64 ((j : Int) - 1)] ++ sb)).run Yba.prog W1 = .ok (.value (.tuple #[])) W' ∧ Sn enc lb sf sb blk off w0 W (swp d j (j - 1)) W' := by
  have := G.swapN h hs j (j - 1) hj (by omega)
  rw [show ((j - 1 : Nat) : Int) = (j : Int) - 1 by omega] at this
  exact this

set_option maxHeartbeats 16000000 in
set_option maxRecDepth 1000000 in
theorem pins_c (G : Gd enc lt lb sf sb blk off N w0) (a b : Nat) (d : Array α) (W : World) (hW : SW enc w0 blk off d W) (hsd0 : d.size = N) (hab : a < b) (hb : b ≤ N) :
    Calls Yba.prog 45 #[.agg #[.func (.func 21) #[] lb, .func (.func sf) #[] sb], .int .i64 a, .int .i64 b] W fun e w' => e = .returned (.bool (Sort.partialInsertionSort lt d a b).2) ∧ SW enc w0 blk off (Sort.partialInsertionSort lt d a b).1 w' ∧ Kx blk blk W w' := by
  have hN := G.hN
  have h0 := G.start hW
  go_enter Yba.func45, Yba.ntmps45
  go_wp2
  go_loopg [7, 8] 5 (fun g1 vi vs wr => ∃ (i s : Nat) (dk : Array α), vi = .int .i64 i ∧ vs = .int .i64 s ∧ s ≤ 5 ∧ 5 - s ≤ g1 ∧ a < i ∧ i ≤ b ∧ dk.size = N ∧ Sn enc lb sf sb blk off w0 W dk wr ∧ Hid (partialIns lt a b (5 - s) i dk = partialIns lt a b 5 (a + 1) d))
  case atStart => exact ⟨a + 1, 0, d, by go_num, rfl, by omega, by omega, by omega, by omega, hsd0, h0, rfl⟩
  case round =>
    obtain ⟨i, s, dk, rfl, rfl, hs5, hg1, hai, hib, hsk, hn, HO⟩ := hrel
    by_cases hs : s < 5
    · have hsz5 : (s : Int) < 5 := by omega
      go_wp2
      go_loopg [7] (b - i) (fun g2 vi wr2 => ∃ (k : Nat), vi = .int .i64 k ∧ i ≤ k ∧ k ≤ b ∧ b - k ≤ g2 ∧ Sn enc lb sf sb blk off w0 W dk wr2 ∧ Hid (scanSorted lt dk b k = scanSorted lt dk b i))
      case atStart => exact ⟨i, rfl, Nat.le_refl _, hib, Nat.le_refl _, hn, rfl⟩
      case round =>
        clear hn
        obtain ⟨k, rfl, hik, hkb, hg2, hn, HSc⟩ := hrel
        have c0 := hn.b.c0
        by_cases hkb' : k < b
        · have hkz : (k : Int) < (b : Int) := by omega
          cases hlv : lt dk[k]! dk[k - 1]! with
          | false =>
            have hl := G.lessD hn hsk k false (by omega) (by omega) hlv
            go_wp2_with (go_at_call 21; refine hl.mono ?_; rintro e w1 ⟨rfl, hn1⟩)
            go_roundg (b - (k + 1))
            case measure => omega
            case rel => exact ⟨k + 1, by go_num, by omega, by omega, Nat.le_refl _, hn1, (show Hid _ from by rw [← HSc.out, scanSorted_go lt dk b k hkb' hlv]; exact rfl)⟩
          | true =>
            have hl := G.lessD hn hsk k true (by omega) (by omega) hlv
            have HK : Hid (scanSorted lt dk b i = k) := by show _ = _; rw [← HSc.out, scanSorted_stop lt dk b k (Or.inr hlv)]
            have hkne : ((k : Int) == (b : Int)) = false := beq_eq_false_iff_ne.2 (by omega)
            by_cases h50 : b - a < 50
            · have h50z : (b : Int) - (a : Int) < 50 := by omega
              go_wp2_with (go_at_call 21; refine hl.mono ?_; rintro e w1 ⟨rfl, hn1⟩)
              have hv : Sort.partialInsertionSort lt d a b = (dk, false) := by
                unfold Sort.partialInsertionSort
                rw [← HO.out, pi_short lt a b s i dk hs (by rw [HK.out]; omega) h50]
              rw [hv]
              go_ret
              exact ⟨rfl, hn1.s, hn1.k⟩
            · have h50z : ¬ ((b : Int) - (a : Int) < 50) := by omega
              have hX1 : (swp dk k (k - 1)).size = N := by rw [size_swp]; exact hsk
              go_upto_if 47 with (go_at_call 21; refine hl.mono ?_; rintro e w1 ⟨rfl, hn1⟩; obtain ⟨y0, y1, hy⟩ := hn1.b; obtain ⟨w2, hr2, hn2⟩ := G.swapD hn1 hsk k (by omega) (by omega))
              clear hl c0 hn hn1 y0 y1 hy hr2
              go_cut [9] from 13 (fun _ wx => ∃ dj : Array α, Hid (fixDown lt a k (swp dk k (k - 1)) = dj) ∧ dj.size = N ∧ Sn enc lb sf sb blk off w0 W dj wx)
              case first =>
                by_cases hka : k - a ≥ 2
                · have hkaz : (2 : Int) ≤ (k : Int) - (a : Int) := by omega
                  rw [decide_eq_true hkaz]
                  go_wp2
                  go_loopg [9] (k - 1) (fun g3 vj wr3 => ∃ (j : Nat) (dj : Array α), vj = .int .i64 j ∧ j ≤ k - 1 ∧ j ≤ g3 ∧ dj.size = N ∧ Sn enc lb sf sb blk off w0 W dj wr3 ∧ Hid (shiftDown lt j dj = shiftDown lt (k - 1) (swp dk k (k - 1))))
                  case atStart => exact ⟨k - 1, (swp dk k (k - 1)), by congr 1; omega, Nat.le_refl _, Nat.le_refl _, hX1, hn2, rfl⟩
                  case round =>
                    clear hn2
                    obtain ⟨j, dj, rfl, hjk, hg3, hsj, hn2, HDn⟩ := hrel
                    have c0 := hn2.b.c0
                    by_cases hj1 : 1 ≤ j
                    · have hj1z : (1 : Int) ≤ (j : Int) := by omega
                      cases hlv2 : lt dj[j]! dj[j - 1]! with
                      | true =>
                        have hl2 := G.lessD hn2 hsj j true hj1 (by omega) hlv2
                        go_wp2_with (go_at_call 21; refine hl2.mono ?_; rintro e w3 ⟨rfl, hn3⟩; obtain ⟨y0, y1, hy⟩ := hn3.b; obtain ⟨w4, hr4, hn4⟩ := G.swapD hn3 hsj j hj1 (by omega))
                        go_roundg (j - 1)
                        case measure => omega
                        case rel => exact ⟨j - 1, swp dj j (j - 1), by congr 1; omega, by omega, Nat.le_refl _, by rw [size_swp]; exact hsj, hn4, (show Hid _ from by rw [← HDn.out, shiftDown_go lt j dj hj1 hlv2]; exact rfl)⟩
                      | false =>
                        have hl2 := G.lessD hn2 hsj j false hj1 (by omega) hlv2
                        go_wp2_with (go_at_call 21; refine hl2.mono ?_; rintro e w3 ⟨rfl, hn3⟩)
                        go_meet
                        case rel => exact ⟨dj, (show _ = _ by unfold fixDown; rw [if_pos hka, ← HDn.out, shiftDown_stop lt j dj (Or.inr hlv2)]), hsj, hn3⟩
                    · have hj1z : ¬ (1 : Int) ≤ (j : Int) := by omega
                      go_wp2
                      go_meet
                      case rel => exact ⟨dj, (show _ = _ by unfold fixDown; rw [if_pos hka, ← HDn.out, shiftDown_stop lt j dj (Or.inl (by omega))]), hsj, hn2⟩
                · have hkaz : ¬ (2 : Int) ≤ (k : Int) - (a : Int) := by omega
                  go_wp2
                  go_meet
                  case rel => exact ⟨_, (show _ = _ by unfold fixDown; rw [if_neg hka]), hX1, hn2⟩
              case rest =>
                clear hn2
                obtain ⟨dj, HD, hsj, hn2⟩ := hcut
                by_cases hbk : b - k ≥ 2
                · have hbkz : (2 : Int) ≤ (b : Int) - (k : Int) := by omega
                  go_wp2
                  go_loopg [10] (b - (k + 1)) (fun g4 vj wr4 => ∃ (ju : Nat) (du : Array α), vj = .int .i64 ju ∧ k + 1 ≤ ju ∧ ju ≤ b ∧ b - ju ≤ g4 ∧ du.size = N ∧ Sn enc lb sf sb blk off w0 W du wr4 ∧ Hid (shiftUp lt b ju du = shiftUp lt b (k + 1) dj))
                  case atStart => exact ⟨k + 1, dj, by go_num, Nat.le_refl _, by omega, Nat.le_refl _, hsj, hn2, rfl⟩
                  case round =>
                    clear hn2
                    obtain ⟨ju, du, rfl, hkj, hjb, hg4, hsu, hn2, HU⟩ := hrel
                    have c0 := hn2.b.c0
                    by_cases hjb' : ju < b
                    · have hjz : (ju : Int) < (b : Int) := by omega
                      cases hlv3 : lt du[ju]! du[ju - 1]! with
                      | true =>
                        have hl3 := G.lessD hn2 hsu ju true (by omega) (by omega) hlv3
                        go_wp2_with (go_at_call 21; refine hl3.mono ?_; rintro e w3 ⟨rfl, hn3⟩; obtain ⟨y0, y1, hy⟩ := hn3.b; obtain ⟨w4, hr4, hn4⟩ := G.swapD hn3 hsu ju (by omega) (by omega))
                        go_roundg (b - (ju + 1))
                        case measure => omega
                        case rel => exact ⟨ju + 1, swp du ju (ju - 1), by go_num, by omega, by omega, Nat.le_refl _, by rw [size_swp]; exact hsu, hn4, (show Hid _ from by rw [← HU.out, shiftUp_go lt b ju du hjb' hlv3]; exact rfl)⟩
                      | false =>
                        have hl3 := G.lessD hn2 hsu ju false (by omega) (by omega) hlv3
                        go_wp2_with (go_at_call 21; refine hl3.mono ?_; rintro e w3 ⟨rfl, hn3⟩)
                        go_roundg (5 - (s + 1))
                        case measure => omega
                        case rel => exact ⟨k, s + 1, du, rfl, by go_num, by omega, Nat.le_refl _, by omega, by omega, hsu, hn3, (show Hid _ from by rw [← HO.out, pi_go lt a b s i k dk hs HK.out (by omega) h50, HD.out, show fixUp lt b k dj = du from by unfold fixUp; rw [if_pos hbk, ← HU.out, shiftUp_stop lt b ju du (Or.inr hlv3)]]; exact rfl)⟩
                    · have hjz : ¬ (ju : Int) < (b : Int) := by omega
                      go_wp2
                      go_roundg (5 - (s + 1))
                      case measure => omega
                      case rel => exact ⟨k, s + 1, du, rfl, by go_num, by omega, Nat.le_refl _, by omega, by omega, hsu, hn2, (show Hid _ from by rw [← HO.out, pi_go lt a b s i k dk hs HK.out (by omega) h50, HD.out, show fixUp lt b k dj = du from by unfold fixUp; rw [if_pos hbk, ← HU.out, shiftUp_stop lt b ju du (Or.inl hjb')]]; exact rfl)⟩
                · have hbkz : ¬ (2 : Int) ≤ (b : Int) - (k : Int) := by omega
                  go_wp2
                  go_roundg (5 - (s + 1))
                  case measure => omega
                  case rel => exact ⟨k, s + 1, dj, rfl, by go_num, by omega, Nat.le_refl _, by omega, by omega, hsj, hn2, (show Hid _ from by rw [← HO.out, pi_go lt a b s i k dk hs HK.out (by omega) h50, HD.out, show fixUp lt b k dj = dj from by unfold fixUp; rw [if_neg hbk]]; exact rfl)⟩
        · obtain rfl : k = b := by omega
          have hkz : ¬ (k : Int) < (k : Int) := by omega
          go_wp2
          have hv : Sort.partialInsertionSort lt d a k = (dk, true) := by
            unfold Sort.partialInsertionSort
            rw [← HO.out, pi_true lt a k s i dk hs (by rw [← HSc.out, scanSorted_stop lt dk k k (Or.inl (by omega))])]
          rw [hv]
          go_ret
          exact ⟨rfl, hn.s, hn.k⟩
    · obtain rfl : s = 5 := by omega
      go_wp2
      have hv : Sort.partialInsertionSort lt d a b = (dk, false) := by
        unfold Sort.partialInsertionSort
        rw [← HO.out, pi_end]
      rw [hv]
      go_ret
      exact ⟨rfl, hn.s, hn.k⟩

end Go.Proofs.Ybulkdwzg.lawB
