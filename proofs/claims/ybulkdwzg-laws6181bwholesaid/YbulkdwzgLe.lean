/-
  LawS6181BWhole (4): THE WALK.
-/
import Derived.Test.YbulkdwzgLd
namespace Go.Proofs.Ybulkdwzg.lawB
open Go.RowKit

theorem split9 {P : Program} {a b c d f g h i j t : Code} {Q : Exit → Act → World → Prop} {x : Act} {w : World} (T : Code) (e : t = T) (k : Code.wp P (.seq a (.seq b (.seq c (.seq d (.seq f (.seq g (.seq h (.seq i (.seq j T))))))))) Q x w) : Code.wp P (.seq a (.seq b (.seq c (.seq d (.seq f (.seq g (.seq h (.seq i (.seq j t))))))))) Q x w := by subst e; exact k
/-- The pairs that came in. -/
def IN (w : World) (a : Option Addr) (n : Nat) (I J : Nat → Int) : Prop := 0 < n → ∃ b off, a = some ⟨b, off, none⟩ ∧ b < w.heap.size ∧ ∀ k, k < n → w.cell? ⟨b, off + k * 2, none⟩ = some (.int .i64 (I k)) ∧ w.cell? ⟨b, off + k * 2 + 1, none⟩ = some (.int .i64 (J k))
def PI (I J : Nat → Int) (k : Nat) : Pr := ((IntKind.u64.wrap (I k)).tmod 512, J k)
theorem pi_in (I J : Nat → Int) (k : Nat) : 0 ≤ (PI I J k).1 ∧ (PI I J k).1 < 512 := by
  unfold PI
  simp only
  have : 0 ≤ IntKind.u64.wrap (I k) := by rw [IntKind.wrap_u64]; omega
  rw [Int.tmod_eq_emod_of_nonneg this]
  omega

set_option maxRecDepth 1000000 in
set_option maxHeartbeats 8000000 in
theorem law_h (w : World) (ia wa : Option Addr) (n ic nw wwc : Nat) (I J : Nat → Int) (Z : Nat → Nat) (hin : IN w ia n I J) (hy : BY w wa nw Z) (hZ : ∀ j, j < nw → Z j < 256) (hwa : ∀ ad, wa = some ad → ad.block < w.heap.size) (hn : n ≤ 4096) (hnw : nw ≤ 1048576) :
    Calls Yba.prog 4 #[.slice ia n ic, .slice wa nw wwc] w fun x w' => x = .returned (.bool true) ∧ Below w.heap.size w w' := by
  have hnI : ¬ (4096 : Int) < (n : Int) := by omega
  have hnwI : ¬ (1048576 : Int) < (nw : Int) := by omega
  have HIN : Hid (IN w ia n I J) := hin
  have HY : Hid (BY w wa nw Z) := hy
  have HZ : Hid (∀ j, j < nw → Z j < 256) := hZ
  have HWA : Hid (∀ ad, wa = some ad → ad.block < w.heap.size) := hwa
  have hmk := mk53 n (by omega)
  clear hin hy hZ hwa
  go_enter Yba.func4, Yba.ntmps4
  obtain ⟨T', hT'⟩ : ∃ T', T' = tl 9 (Yba.f4.body.getD .skip) := ⟨_, rfl⟩
  refine split9 T' hT'.symm ?_
  replace hT' : Hid (T' = tl 9 (Yba.f4.body.getD .skip)) := hT'
  go_wp2
  obtain ⟨w2, hw2⟩ : ∃ w2, w2 = (w.alloc (.cells #[.slice wa nw wwc] 52)).alloc (.cells (rowL (p2 (fun _ => .int .i64 0) (fun _ => .int .i64 0)) (n * 2)).toArray 57) := ⟨_, rfl⟩
  rw [← hw2]
  have hz1 : (w.alloc (.cells #[.slice wa nw wwc] 52)).heap.size = w.heap.size + 1 := by simp
  have hO2 : Out (fun _ => False) w w2 := by rw [hw2]; exact (out_alloc _ w _).trans (out_alloc _ _ _) (fun _ _ h => h)
  have HWS : Hid (RW w2 w.heap.size 52 (fun _ => .slice wa nw wwc) 1) := by rw [hw2]; exact (rw_one w _ _).alloc _
  have HPS : Hid (R2 w2 (w.heap.size + 1) 57 (fun _ => .int .i64 0) (fun _ => .int .i64 0) n) := by
    have := rw_new (w.alloc (.cells #[.slice wa nw wwc] 52)) (p2 (fun _ => .int .i64 0) (fun _ => .int .i64 0)) (n * 2) 57
    rw [hz1, ← hw2] at this
    exact this
  have HO2 : Hid (Out (fun _ => False) w w2) := hO2
  clear hw2 hz1 hO2
  go_loopw [7] (fun kv wr => ∃ (k : Nat), k ≤ n ∧ kv = .int .i64 k ∧ Hid (R2 wr (w.heap.size + 1) 57 (fun j => .int .i64 (if j < k then (PI I J j).1 else 0)) (fun j => .int .i64 (if j < k then (PI I J j).2 else 0)) n) ∧ Hid (Out (fun b => b = w.heap.size + 1) w2 wr)) (fun kv _ => n - (intOf kv).toNat)
  case atStart => exact ⟨0, Nat.zero_le _, rfl, HPS.out.congr (fun j _ => by rw [if_neg (by omega)]) (fun j _ => by rw [if_neg (by omega)]), Out.refl _ _⟩
  case round =>
    clear HPS
    obtain ⟨k, hk, rfl, HR, HO⟩ := hrel
    rename World => wr
    by_cases hlt : k < n
    · have hltI : (k : Int) < (n : Int) := by omega
      obtain ⟨b, off, rfl, hb, hc⟩ := HIN.out (by omega)
      have i0 := HO.out.cell (HO2.out.cell (hc k hlt).1 id) (by show ¬ b = w.heap.size + 1; omega)
      have i1 := HO.out.cell (HO2.out.cell (hc k hlt).2 id) (by show ¬ b = w.heap.size + 1; omega)
      have s0 := HR.out.c0 hlt
      have s1 := HR.out.c1 hlt
      have f0 := HR.out.frozen (k * 2)
      have f1 := HR.out.frozen (k * 2 + 1)
      have hpi := pi_in I J k
      have HPI : Hid (PI I J k = ((IntKind.u64.wrap (I k)).tmod 512, J k)) := rfl
      obtain ⟨r, hr⟩ : ∃ r, (IntKind.u64.wrap (I k)).tmod 512 = r := ⟨_, rfl⟩
      have HR1 : Hid ((PI I J k).1 = r) := by rw [← hr]; exact rfl
      have hr0 : 0 ≤ r ∧ r < 512 := by rw [← HR1.out]; exact hpi
      have hwr : IntKind.i64.wrap r = r := by rw [IntKind.wrap_i64]; omega
      have HKP : Hid (∀ u v, ((wr.setCell ⟨w.heap.size + 1, k * 2, none⟩ u).setCell ⟨w.heap.size + 1, k * 2 + 1, none⟩ v).drew.cell? ⟨b, off + k * 2, none⟩ = some (.int .i64 (I k)) ∧ ((wr.setCell ⟨w.heap.size + 1, k * 2, none⟩ u).setCell ⟨w.heap.size + 1, k * 2 + 1, none⟩ v).drew.cell? ⟨b, off + k * 2 + 1, none⟩ = some (.int .i64 (J k))) := fun u v => by
        show ((wr.setCell ⟨w.heap.size + 1, k * 2, none⟩ u).setCell ⟨w.heap.size + 1, k * 2 + 1, none⟩ v).cell? ⟨b, off + k * 2, none⟩ = some (.int .i64 (I k)) ∧ ((wr.setCell ⟨w.heap.size + 1, k * 2, none⟩ u).setCell ⟨w.heap.size + 1, k * 2 + 1, none⟩ v).cell? ⟨b, off + k * 2 + 1, none⟩ = some (.int .i64 (J k))
        have m : ∀ j l : Nat, (⟨w.heap.size + 1, j, none⟩ : Addr) ≠ ⟨b, l, none⟩ := fun j l e => by simp only [Addr.mk.injEq] at e; omega
        rw [World.cell?_setCell_other _ _ _ _ (m _ _), World.cell?_setCell_other _ _ _ _ (m _ _), World.cell?_setCell_other _ _ _ _ (m _ _), World.cell?_setCell_other _ _ _ _ (m _ _)]
        exact ⟨i0, i1⟩
      clear hc hpi
      go_wp2
      go_region_held3 (fun w' => w'.cell? ⟨b, off + k * 2, none⟩ = some (.int .i64 (I k)) ∧ w'.cell? ⟨b, off + k * 2 + 1, none⟩ = some (.int .i64 (J k))) (first | exact HKP.out _ _ | go_keep) (fail)
      have hset := HR.out.set hlt (.int .i64 r) (.int .i64 (J k))
      have HSET : Hid (R2 ((wr.setCell ⟨w.heap.size + 1, k * 2, none⟩ (.int .i64 r)).setCell ⟨w.heap.size + 1, k * 2 + 1, none⟩ (.int .i64 (J k))) (w.heap.size + 1) 57 (fun j => .int .i64 (if j < k + 1 then (PI I J j).1 else 0)) (fun j => .int .i64 (if j < k + 1 then (PI I J j).2 else 0)) n) := by
        refine R2.congr hset (fun j hj => ?_) (fun j hj => ?_)
        · by_cases e : j = k
          · subst e; rw [if_pos rfl, if_pos (by omega), HR1.out]
          · rw [if_neg e]
            by_cases e2 : j < k
            · rw [if_pos e2, if_pos (by omega)]
            · rw [if_neg e2, if_neg (by omega)]
        · by_cases e : j = k
          · subst e; rw [if_pos rfl, if_pos (by omega), HPI.out]
          · rw [if_neg e]
            by_cases e2 : j < k
            · rw [if_pos e2, if_pos (by omega)]
            · rw [if_neg e2, if_neg (by omega)]
      have HOS : Hid (Out (fun b => b = w.heap.size + 1) w2 ((wr.setCell ⟨w.heap.size + 1, k * 2, none⟩ (.int .i64 r)).setCell ⟨w.heap.size + 1, k * 2 + 1, none⟩ (.int .i64 (J k)))) := (HO.out.trans (out_set _ ⟨w.heap.size + 1, k * 2, none⟩ _) (fun _ _ h => h)).trans (out_set _ ⟨w.heap.size + 1, k * 2 + 1, none⟩ _) (fun _ _ h => h)
      clear hset
      go_wp2
      go_roundw
      case rel => exact ⟨k + 1, by omega, by go_num, HSET.out, ⟨HOS.out.os, HOS.out.tape, HOS.out.output, HOS.out.size, HOS.out.block⟩⟩
      case measure => simp [intOf]; omega
    · obtain rfl : k = n := by omega
      have HPn : Hid (R2 wr (w.heap.size + 1) 57 (fun j => .int .i64 (PI I J j).1) (fun j => .int .i64 (PI I J j).2) k) := HR.out.congr (fun j hj => by rw [if_pos hj]) (fun j hj => by rw [if_pos hj])
      have HOw : Hid (Out (fun _ => False) w wr) := HO2.out.trans HO.out (fun i hi h => by omega)
      have HWr : Hid (RW wr w.heap.size 52 (fun _ => .slice wa nw wwc) 1) := (HO.out.block _ HWS.out.lt (by omega)).trans HWS.out
      clear HR HO HWS HO2
      go_wp2_with (first
        | (refine Lib.wpList_copy_run _ rfl _ _ 53 53 rfl _ _ rfl rfl (copy2 _ wr.heap.size (w.heap.size + 1) k k k _ (p2 (fun _ => .int .i64 0) (fun _ => .int .i64 0)) (fun j => (PI I J j).1) (fun j => (PI I J j).2) (by exact rw_new wr (p2 (fun _ => .int .i64 0) (fun _ => .int .i64 0)) (k * 2) 57) (by exact RW.alloc HPn.out _)) ?_
           obtain ⟨wK, hwK⟩ : ∃ wK, wK = (wr.alloc (.cells (rowL (p2 (fun _ => .int .i64 0) (fun _ => .int .i64 0)) (k * 2)).toArray 57)).setRow wr.heap.size (rowL (p2 (fun j => .int .i64 (PI I J j).1) (fun j => .int .i64 (PI I J j).2)) (k * 2)).toArray := ⟨_, rfl⟩
           rw [← hwK]
           have HOK : Hid (Out (fun b => b = wr.heap.size) wr wK) := by rw [hwK]; exact (out_alloc _ wr _).trans (out_setRow _ _ _) (fun _ _ h => h)
           have HKK : Hid (R2 wK wr.heap.size 57 (fun j => .int .i64 (PI I J j).1) (fun j => .int .i64 (PI I J j).2) k) := by rw [hwK]; exact setRow_heap _ wr.heap.size _ _ 57 (0, 0) (rw_new wr _ (k * 2) 57)
           clear hwK))
      have hwl := HWr.out.lt
      have hpl := HPn.out.lt
      have hkl := HKK.out.lt
      have hO1 : Out (fun _ => False) w wK := HOw.out.trans HOK.out (fun i hi h => by have := HOw.out.size; omega)
      have hPK : R2 wK (w.heap.size + 1) 57 (fun j => .int .i64 (PI I J j).1) (fun j => .int .i64 (PI I J j).2) k := (HOK.out.block _ HPn.out.lt (by omega)).trans HPn.out
      have hWK : RW wK w.heap.size 52 (fun _ => .slice wa nw wwc) 1 := (HOK.out.block _ HWr.out.lt (by omega)).trans HWr.out
      have hW0 : Wc wK.heap.size w.heap.size wa nw wwc Z 0 (wK.alloc (.cells #[.int .i64 0] 3)) :=
        ⟨rw_one wK _ _, (hWK.alloc _).cell (j := 0) (by omega), (HY.out.out hO1 (fun _ _ => id)).out (out_alloc (fun _ => False) wK _) (fun _ _ => id), by omega, fun ad had => by have := HWA.out ad had; omega⟩
      have hsz : wK.heap.size < (wK.alloc (.cells #[.int .i64 0] 3)).heap.size := by simp
      refine (heav_c (wK.alloc (.cells #[.int .i64 0] 3)) (w.heap.size + 1) wK.heap.size w.heap.size k k (PI I J) wa nw wwc Z hn hnw HZ.out (fun j _ => pi_in I J j) (by omega) (fun ad had => by have := HWA.out ad had; omega) (by omega) (RW.alloc hPK _) hW0).mono ?_
      rintro x wH ⟨T, va, vc, hS, rfl, hown, hva, hWc, hOut⟩
      have hSa : Out (fun b => b = wK.heap.size) wK wH := (out_alloc (fun b => b = wK.heap.size) wK _).trans hOut (fun _ _ h => h)
      have HS : Hid (Srt (PI I J) T k) := hS
      have HOWN : Hid (wH.ownsRow (wK.alloc (.cells #[.int .i64 0] 3)).heap.size 57 2 (.slice va (CH nw Z T k).length vc) (CH nw Z T k).length (prs ((CH nw Z T k).reverse.map T))) := hown
      have HVA : Hid ((CH nw Z T k).length = 0 → va = none ∧ vc = 0) := hva
      have HWC : Hid (Wc wK.heap.size w.heap.size wa nw wwc Z k wH) := hWc
      have HPH : Hid (R2 wH (w.heap.size + 1) 57 (fun j => .int .i64 (PI I J j).1) (fun j => .int .i64 (PI I J j).2) k) := (hSa.block _ hPK.lt (by omega)).trans hPK
      have HKH : Hid (R2 wH wr.heap.size 57 (fun j => .int .i64 (PI I J j).1) (fun j => .int .i64 (PI I J j).2) k) := (hSa.block _ HKK.out.lt (by omega)).trans HKK.out
      have HBH : Hid (Below w.heap.size w wH) := by
        have h1 : Out (fun _ => False) w wH := hO1.trans hSa (fun i hi h => by have := hO1.size; omega)
        exact ⟨h1.os, h1.tape, h1.output, h1.size, fun b hb => h1.block b hb id⟩
      have HTn : Hid (∀ j, j < k → 0 ≤ (T j).1 ∧ (T j).1 < 512) := fun j hj => by
        have hm : T j ∈ (List.range k).map (PI I J) := hS.1.mem_iff.1 (List.mem_map.2 ⟨j, List.mem_range.2 hj, rfl⟩)
        obtain ⟨i, _, e⟩ := List.mem_map.1 hm
        rw [← e]
        exact pi_in I J i
      clear hS hown hva hWc hOut hSa hW0 hWK hPK hO1
      dsimp only
      go_wp2
      rw [hT'.out]
      exact law_k w.heap.size w wH HBH.out HBH.out.size (w.heap.size + 1) wr.heap.size wK.heap.size w.heap.size k k k nw wwc (wK.alloc (.cells #[.int .i64 0] 3)).heap.size (PI I J) T wa Z va vc hn hnw HZ.out HTn.out HS.out HPH.out HKH.out HWC.out HOWN.out HVA.out

end Go.Proofs.Ybulkdwzg.lawB
