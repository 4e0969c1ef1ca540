/-
  LawS6181BWhole: WALK of sort.pdqsort_func (27), less laying new blocks.
-/
import Derived.Test.YbulkdwzgSc
import Derived.Test.YbulkdwzgSe
import Derived.Test.YbulkdwzgSf
import Derived.Test.YbulkdwzgSh
import Derived.Shelf.GgSortFunc.Whole
import Derived.Shelf.GgSortFunc.Tiny
import Derived.Shelf.Lay
import Derived.Ground.GgsProg
namespace Go.Proofs
open Go.Shelf
shelf_lay LaysGg.n6 Ggs 6 at Yba as Yba.sa6
end Go.Proofs
namespace Go.Proofs.Ybulkdwzg.lawB
open Go.RowKit Go.Shelf Go.Lib Go.Sort
variable {α : Type} [Inhabited α] {enc : α → Value} {lt : α → α → Bool} {lb : Array Value} {sf : Nat} {sb : Array Value} {blk off N : Nat} {w0 : World}

theorem Sn.to {W W1 W2 : World} {d d' : Array α} (h : Sn enc lb sf sb blk off w0 W d W1) (hS : SW enc w0 blk off d' W2) (hK : Kx blk blk W1 W2) : Sn enc lb sf sb blk off w0 W d' W2 := ⟨hS, h.k.trans hK, h.b.kx hK h.n h.n, h.n⟩

theorem break_c (G : Gd enc lt lb sf sb blk off N w0) (a b : Nat) (d : Array α) (W : World) (hW : SW enc w0 blk off d W) (hs : d.size = N) (hz : (breakPatterns d a b).size = d.size) (hab : a ≤ b) (hb : b ≤ N) :
    Calls Yba.prog 42 #[.agg #[.func (.func 21) #[] lb, .func (.func sf) #[] sb], .int .i64 a, .int .i64 b] W fun e w' => e = .returned (.tuple #[]) ∧ SW enc w0 blk off (breakPatterns d a b) w' ∧ Kx blk blk W w' := by
  subst hs
  have hc := Any.breakPatterns_func_w (P := Yba.prog) { Yba.sa6 with } enc (.func 21) #[] lb sf sb blk off a b d W G.hswap (G.holds hW rfl) (hW.lt G.hblk) hab hb G.hN
  change Calls Yba.prog 42 _ _ _ at hc
  exact hc.mono fun _ _ ⟨he, hw⟩ => ⟨he, sw_trans G.hblk hW hw hz, sw_kx (show SW enc W blk off _ _ from hw)⟩
theorem reverse_c (G : Gd enc lt lb sf sb blk off N w0) (a b : Nat) (d : Array α) (W : World) (hW : SW enc w0 blk off d W) (hs : d.size = N) (hz : (reverseRange d a b).size = d.size) (hab : a ≤ b) (hb : b ≤ N) :
    Calls Yba.prog 44 #[.agg #[.func (.func 21) #[] lb, .func (.func sf) #[] sb], .int .i64 a, .int .i64 b] W fun e w' => e = .returned (.tuple #[]) ∧ SW enc w0 blk off (reverseRange d a b) w' ∧ Kx blk blk W w' := by
  subst hs
  have hc := Any.reverseRange_func_w (P := Yba.prog) { Yba.sa6 with } enc (.func 21) #[] lb sf sb blk off a b d W G.hswap (G.holds hW rfl) (hW.lt G.hblk) hab hb G.hN
  change Calls Yba.prog 44 _ _ _ at hc
  exact hc.mono fun _ _ ⟨he, hw⟩ => ⟨he, sw_trans G.hblk hW hw hz, sw_kx (show SW enc W blk off _ _ from hw)⟩

set_option maxHeartbeats 12800000 in
set_option maxRecDepth 1000000 in
theorem pdq_c (G : Gd enc lt lb sf sb blk off N w0) (hO : SWO lt) : ∀ (M a b limit : Nat) (d : Array α) (W : World), b - a < M → SW enc w0 blk off d W → d.size = N → a ≤ b → b ≤ N → limit < 4611686018427387904 → Go.Sort.Below lt a b d →
    Calls Yba.prog 27 #[.agg #[.func (.func 21) #[] lb, .func (.func sf) #[] sb], .int .i64 a, .int .i64 b, .int .i64 limit] W fun e w' => e = .returned (.tuple #[]) ∧ SW enc w0 blk off (pdq lt d a b limit true true) w' ∧ Kx blk blk W w' := by
  have hN := G.hN
  intro M
  induction M with
  | zero => intro _ _ _ _ _ h; exact absurd h (Nat.not_lt_zero _)
  | succ M ih =>
    intro a b limit d W hM hW hs0 hab hb hlimit hBel0
    have h0 := G.start hW
    go_enter Yba.func27, Yba.ntmps27
    go_wp2
    go_loopg [1, 2, 3, 8, 9] (b - a) (fun k s1 s2 s3 s8 s9 wr => ∃ (a' b' lim : Nat) (wb wp : Bool) (dk : Array α), s1 = .int .i64 a' ∧ s2 = .int .i64 b' ∧ s3 = .int .i64 lim ∧ s8 = .bool wb ∧ s9 = .bool wp ∧
      a' ≤ b' ∧ b' ≤ N ∧ b' - a' ≤ k ∧ k ≤ b - a ∧ lim ≤ limit ∧ dk.size = N ∧ Go.Sort.Below lt a' b' dk ∧ Sn enc lb sf sb blk off w0 W dk wr ∧ pdq lt dk a' b' lim wb wp = pdq lt d a b limit true true)
    case atStart => exact ⟨a, b, limit, true, true, d, rfl, rfl, rfl, rfl, rfl, hab, hb, Nat.le_refl _, Nat.le_refl _, Nat.le_refl _, hs0, hBel0, h0, rfl⟩
    case round =>
      obtain ⟨a', b', lim, wb, wp, dk, rfl, rfl, rfl, rfl, rfl, hab', hb', hk, hkN, hlim, hds, hBel, hn, heq⟩ := hrel
      have x0 := hn.b.c0
      have x1 := hn.b.c1
      have A : Aside (pdq lt dk a' b' lim wb wp = pdq lt d a b limit true true) := heq
      clear heq
      by_cases h12 : b' - a' ≤ 12
      · have h12z : (b' : Int) - (a' : Int) ≤ 12 := by omega
        have hc := insertion_c G a' b' dk wr hn.s hds hab' hb'
        go_wp2_with (go_at_call 40; refine hc.mono ?_; rintro e w1 ⟨rfl, hS1, hK1⟩)
        (try simp only [Exit.inBlock, Exit.then]); refine bodyPost_ret (results_none rfl _ _ _) rfl ?_
        refine ⟨rfl, ?_, hn.k.trans hK1⟩
        rw [← A.out, pdq_small h12]
        exact hS1
      · have h12z : ¬ ((b' : Int) - (a' : Int) ≤ 12) := by omega
        by_cases hl0 : lim = 0
        · subst hl0
          have hc := heap_c G a' b' dk wr hn.s hds hab' hb'
          go_wp2_with (go_at_call 41; refine hc.mono ?_; rintro e w1 ⟨rfl, hS1, hK1⟩)
          (try simp only [Exit.inBlock, Exit.then]); refine bodyPost_ret (results_none rfl _ _ _) rfl ?_
          refine ⟨rfl, ?_, hn.k.trans hK1⟩
          rw [← A.out, pdq_heap h12 rfl]
          exact hS1
        · have hl0z : ¬ ((lim : Int) = 0) := by omega
          obtain ⟨s1, B1, hc1, s2, B2, hpv, s3, B3⟩ := rd_facts (lt := lt) (limit := lim) (wb := wb) (wp := wp) hO partialInsertionSort_holds reverseRange_holds (show a' < b' by omega) (show b' ≤ dk.size by omega) hBel
          go_upto_if 35 with fail
          go_cut [3] from 19 (fun s3 wc => s3 = .int .i64 (rd lt dk a' b' lim wb wp).lim ∧ Sn enc lb sf sb blk off w0 W (rd lt dk a' b' lim wb wp).d1 wc)
          case first =>
            cases wb
            · have hc := break_c G a' b' dk wr hn.s hds s1 hab' hb'
              go_wp2_with (go_at_call 42; refine hc.mono ?_; rintro e w1 ⟨rfl, hS1, hK1⟩)
              go_meet
              case rel =>
                refine ⟨?_, hn.to hS1 hK1⟩
                show Value.int .i64 ((lim : Int) - 1) = Value.int .i64 ((lim - 1 : Nat) : Int)
                congr 1
                omega
            · go_wp2_with fail
              go_meet
              case rel => exact ⟨rfl, hn⟩
          case rest =>
            clear x0 x1 hn
            obtain ⟨rfl, hn⟩ := hcut
            have y0 := hn.b.c0
            have y1 := hn.b.c1
            have hc17 : Calls Yba.prog 43 #[.agg #[.func (.func 21) #[] lb, .func (.func sf) #[] sb], .int .i64 a', .int .i64 b'] wc fun e w' => e = .returned (.tuple #[.int .i64 (rd lt dk a' b' lim wb wp).c.1, .int .i64 (hintCode (rd lt dk a' b' lim wb wp).c.2)]) ∧ SW enc w0 blk off (rd lt dk a' b' lim wb wp).d1 w' ∧ Kx blk blk wc w' :=
              pivot_c G a' b' (rd lt dk a' b' lim wb wp).d1 wc hn.s (s1.trans hds) (by omega) hb'
            go_upto_if 50 with (go_at_call 43; refine hc17.mono ?_; rintro e w2 ⟨rfl, hS2, hK2⟩)
            have hn2 := hn.to hS2 hK2
            clear y0 y1 hn hc17 hS2 hK2
            have z0 := hn2.b.c0
            have z1 := hn2.b.c1
            go_cut [11, 12] from 19 (fun s11 s12 wc => s11 = .int .i64 (rd lt dk a' b' lim wb wp).pivot ∧ s12 = .int .i64 (hintCode (rd lt dk a' b' lim wb wp).hint) ∧ Sn enc lb sf sb blk off w0 W (rd lt dk a' b' lim wb wp).d2 wc)
            case first =>
              by_cases hh : (rd lt dk a' b' lim wb wp).c.2 = .decreasing
              · have hcode : hintCode (rd lt dk a' b' lim wb wp).c.2 = 2 := by rw [hh]; rfl
                obtain ⟨e2, epv, eht⟩ := rd_dec hh
                have hc18 := reverse_c G a' b' (rd lt dk a' b' lim wb wp).d1 w2 hn2.s (s1.trans hds) (by rw [← e2, s2, s1]) hab' hb'
                go_wp2_with (go_at_call 44; refine hc18.mono ?_; rintro e w3 ⟨rfl, hS3, hK3⟩)
                go_meet
                case rel =>
                  refine ⟨?_, by rw [eht]; rfl, by rw [e2]; exact hn2.to hS3 hK3⟩
                  rw [epv]
                  congr 1
                  omega
              · have hcode : ¬ (hintCode (rd lt dk a' b' lim wb wp).c.2 = 2) := fun h => hh (hintCode_two h)
                obtain ⟨e2, epv, eht⟩ := rd_not hh
                go_wp2_with fail
                go_meet
                case rel => exact ⟨by rw [epv], by rw [eht], by rw [e2]; exact hn2⟩
            case rest =>
              clear z0 z1 hn2
              obtain ⟨rfl, rfl, hn3⟩ := hcut
              have v0 := hn3.b.c0
              have v1 := hn3.b.c1
              go_upto_region 16 with fail
              go_cut [12, 68] from 19 (fun s12 s68 wx => s12 = .int .i64 (hintCode (rd lt dk a' b' lim wb wp).hint) ∧ s68 = .bool (wb && wp && decide ((rd lt dk a' b' lim wb wp).hint = .increasing)) ∧ wx = wc)
              case first =>
                cases wb <;> cases wp <;> cases hh3 : (rd lt dk a' b' lim _ _).hint <;>
                  (have hcode3 := congrArg hintCode hh3
                   simp only [hintCode] at hcode3
                   go_wp2_with fail
                   go_meet
                   exact ⟨by simp [hh3, hintCode], by simp [hh3, hintCode], rfl⟩)
              case rest =>
                obtain ⟨rfl, rfl, rfl⟩ := hcut
                go_upto_if 68 with fail
                go_cut [] from 19 (fun wx => (rd lt dk a' b' lim wb wp).pi.2 = false ∧ Sn enc lb sf sb blk off w0 W (rd lt dk a' b' lim wb wp).pi.1 wx)
                case first =>
                  cases h68 : (wb && wp && decide ((rd lt dk a' b' lim wb wp).hint = .increasing))
                  · have epi := rd_pi_no h68
                    go_wp2_with fail
                    go_meet
                    case rel => exact ⟨by rw [epi], by rw [epi]; exact hn3⟩
                  · have epi := rd_pi_yes h68
                    have hc19 := pins_c G a' b' (rd lt dk a' b' lim wb wp).d2 wc hn3.s (s2.trans hds) (by omega) hb'
                    rw [← epi] at hc19
                    go_wp2_with (go_at_call 45; refine hc19.mono ?_; rintro e w4 ⟨rfl, hS4, hK4⟩)
                    all_goals first
                      | (have hp2 : (rd lt dk a' b' lim wb wp).pi.2 = false := by rw [epi]; assumption
                         go_meet
                         exact ⟨hp2, hn3.to hS4 hK4⟩)
                      | (have hp2 : (rd lt dk a' b' lim wb wp).pi.2 = true := by rw [epi]; assumption
                         (try simp only [Exit.inBlock, Exit.then]); refine bodyPost_ret (results_none rfl _ _ _) rfl ?_
                         refine ⟨rfl, ?_, hn3.k.trans hK4⟩
                         rw [← A.out, pdq_done h12 hl0 hp2]
                         exact hS4)
                case rest =>
                  clear v0 v1 hn3
                  obtain ⟨hp2, hn5⟩ := hcut
                  have t0 := hn5.b.c0
                  have t1 := hn5.b.c1
                  go_upto_region 18 with fail
                  go_cut [83] from 19 (fun s83 wx => s83 = .bool (decide (a' > 0) && !lt (rd lt dk a' b' lim wb wp).pi.1[a' - 1]! (rd lt dk a' b' lim wb wp).pi.1[(rd lt dk a' b' lim wb wp).pivot]!) ∧ Sn enc lb sf sb blk off w0 W (rd lt dk a' b' lim wb wp).pi.1 wx)
                  case first =>
                    rcases Nat.eq_zero_or_pos a' with ha0 | ha0
                    · have ha0z : decide ((a' : Int) > 0) = false := decide_eq_false (by omega)
                      go_wp2_with fail
                      go_meet
                      case rel => exact ⟨by simp [ha0], hn5⟩
                    · have ha0z : (a' : Int) > 0 := by omega
                      have hl := G.lessN hn5 (s3.trans hds) (a' - 1) (rd lt dk a' b' lim wb wp).pivot (by omega) (by omega)
                      rw [show ((a' - 1 : Nat) : Int) = (a' : Int) - 1 by omega] at hl
                      cases hlv : lt (rd lt dk a' b' lim wb wp).pi.1[a' - 1]! (rd lt dk a' b' lim wb wp).pi.1[(rd lt dk a' b' lim wb wp).pivot]! <;>
                        (rw [hlv] at hl
                         go_wp2_with (go_at_call 21; refine hl.mono ?_; rintro e w' ⟨rfl, hn6⟩)
                         go_meet
                         exact ⟨by simp [ha0, hlv], hn6⟩)
                  case rest =>
                    clear t0 t1 hn5
                    obtain ⟨rfl, hn6⟩ := hcut
                    have q0 := hn6.b.c0
                    have q1 := hn6.b.c1
                    cases h87 : (decide (a' > 0) && !lt (rd lt dk a' b' lim wb wp).pi.1[a' - 1]! (rd lt dk a' b' lim wb wp).pi.1[(rd lt dk a' b' lim wb wp).pivot]!)
                    · obtain ⟨mid, ap, d4, hx⟩ : ∃ mid ap d4, partition lt (rd lt dk a' b' lim wb wp).pi.1 a' b' (rd lt dk a' b' lim wb wp).pivot = (mid, ap, d4) := ⟨(partition lt (rd lt dk a' b' lim wb wp).pi.1 a' b' (rd lt dk a' b' lim wb wp).pivot).1, (partition lt (rd lt dk a' b' lim wb wp).pi.1 a' b' (rd lt dk a' b' lim wb wp).pivot).2.1, (partition lt (rd lt dk a' b' lim wb wp).pi.1 a' b' (rd lt dk a' b' lim wb wp).pivot).2.2, rfl⟩
                      obtain ⟨r1, r2, r3, r4, r5, r6, r7⟩ := round_part hO (partition_holds lt) hpv.1 hpv.2 (show b' ≤ (rd lt dk a' b' lim wb wp).pi.1.size by omega) B3 hx
                      have hc22 := part_c G a' b' (rd lt dk a' b' lim wb wp).pivot (rd lt dk a' b' lim wb wp).pi.1 wc hn6.s (s3.trans hds) hpv.1 hpv.2 hb'
                      rw [hx] at hc22
                      have X : Aside (partition lt (rd lt dk a' b' lim wb wp).pi.1 a' b' (rd lt dk a' b' lim wb wp).pivot = (mid, ap, d4)) := hx
                      clear hx
                      go_upto_if 109 with (go_at_call 47; refine hc22.mono ?_; rintro e w7 ⟨rfl, hS7, hK7⟩)
                      have hx := X.out
                      have hs4 : d4.size = N := r3.trans (s3.trans hds)
                      have hn7 := hn6.to hS7 hK7
                      clear q0 q1 hn6 hS7 hK7 hc22
                      have p0 := hn7.b.c0
                      have p1 := hn7.b.c1
                      by_cases h4 : mid - a' < b' - mid
                      · have h4z : (mid : Int) - (a' : Int) < (b' : Int) - (mid : Int) := by omega
                        have hih := ih a' mid (rd lt dk a' b' lim wb wp).lim d4 w7 (by omega) hn7.s hs4 (by omega) (by omega) (Nat.lt_of_le_of_lt (Nat.le_trans rd_lim_le hlim) hlimit) r4
                        obtain ⟨pL, sL⟩ := pdq_sorts lt hO d4 a' mid (rd lt dk a' b' lim wb wp).lim true true (by omega) (by omega) r4
                        go_wp2_with (go_at_call 27; refine hih.mono ?_; rintro e w8 ⟨rfl, hS8, hK8⟩)
                        go_roundg (b' - (mid + 1))
                        case measure => omega
                        case rel =>
                          refine ⟨mid + 1, b', (rd lt dk a' b' lim wb wp).lim, decide (mid - a' ≥ (b' - a') / 8), ap, pdq lt d4 a' mid (rd lt dk a' b' lim wb wp).lim true true, by simp, rfl, rfl, ?_, rfl, by omega, by omega, Nat.le_refl _, by omega, Nat.le_trans rd_lim_le hlim, by rw [pL.1, hs4], (r6 _ pL sL).1, hn7.to hS8 hK8, ?_⟩
                          · exact congrArg Value.bool (eighth (by omega) (by omega))
                          · rw [← A.out, pdq_left h12 hl0 hp2 h87 (by rw [hx]; exact ⟨r1, r2⟩) (by rw [hx]; exact h4), hx]
                      · have h4z : ¬ ((mid : Int) - (a' : Int) < (b' : Int) - (mid : Int)) := by omega
                        have hih := ih (mid + 1) b' (rd lt dk a' b' lim wb wp).lim d4 w7 (by omega) hn7.s hs4 (by omega) (by omega) (Nat.lt_of_le_of_lt (Nat.le_trans rd_lim_le hlim) hlimit) r5
                        rw [show ((mid + 1 : Nat) : Int) = (mid : Int) + 1 by omega] at hih
                        obtain ⟨pL, sL⟩ := pdq_sorts lt hO d4 (mid + 1) b' (rd lt dk a' b' lim wb wp).lim true true (by omega) (by omega) r5
                        go_wp2_with (go_at_call 27; refine hih.mono ?_; rintro e w8 ⟨rfl, hS8, hK8⟩)
                        go_roundg (mid - a')
                        case measure => omega
                        case rel =>
                          refine ⟨a', mid, (rd lt dk a' b' lim wb wp).lim, decide (b' - mid ≥ (b' - a') / 8), ap, pdq lt d4 (mid + 1) b' (rd lt dk a' b' lim wb wp).lim true true, rfl, rfl, rfl, ?_, rfl, by omega, by omega, Nat.le_refl _, by omega, Nat.le_trans rd_lim_le hlim, by rw [pL.1, hs4], (r7 _ pL sL).1, hn7.to hS8 hK8, ?_⟩
                          · exact congrArg Value.bool (eighth (by omega) (by omega))
                          · rw [← A.out, pdq_right h12 hl0 hp2 h87 (by rw [hx]; exact ⟨r1, r2⟩) (by rw [hx]; exact h4), hx]
                    · have h87' := h87
                      simp only [Bool.and_eq_true, decide_eq_true_eq, Bool.not_eq_true'] at h87'
                      obtain ⟨mid, d4, hx⟩ : ∃ mid d4, partitionEqual lt (rd lt dk a' b' lim wb wp).pi.1 a' b' (rd lt dk a' b' lim wb wp).pivot = (mid, d4) := ⟨(partitionEqual lt (rd lt dk a' b' lim wb wp).pi.1 a' b' (rd lt dk a' b' lim wb wp).pivot).1, (partitionEqual lt (rd lt dk a' b' lim wb wp).pi.1 a' b' (rd lt dk a' b' lim wb wp).pivot).2, rfl⟩
                      obtain ⟨r1, r2, r3, r4, _⟩ := round_eq hO (partitionEqual_holds lt) h87'.1 hpv.1 hpv.2 (show b' ≤ (rd lt dk a' b' lim wb wp).pi.1.size by omega) B3 h87'.2 hx
                      have hc21 := partEq_c G a' b' (rd lt dk a' b' lim wb wp).pivot (rd lt dk a' b' lim wb wp).pi.1 wc hn6.s (s3.trans hds) hpv.1 hpv.2 hb'
                      rw [hx] at hc21
                      have X : Aside (partitionEqual lt (rd lt dk a' b' lim wb wp).pi.1 a' b' (rd lt dk a' b' lim wb wp).pivot = (mid, d4)) := hx
                      clear hx
                      go_wp2_with (go_at_call 46; refine hc21.mono ?_; rintro e w7 ⟨rfl, hS7, hK7⟩)
                      go_roundg (b' - mid)
                      case measure => omega
                      case rel =>
                        have hx := X.out
                        exact ⟨mid, b', (rd lt dk a' b' lim wb wp).lim, wb, wp, d4, rfl, rfl, rfl, rfl, rfl, r2, hb', Nat.le_refl _, by omega, Nat.le_trans rd_lim_le hlim, by rw [r3, s3, hds], r4, hn6.to hS7 hK7, by rw [← A.out, pdq_eq h12 hl0 hp2 h87 (by rw [hx]; exact ⟨r1, r2⟩), hx]⟩

end Go.Proofs.Ybulkdwzg.lawB
