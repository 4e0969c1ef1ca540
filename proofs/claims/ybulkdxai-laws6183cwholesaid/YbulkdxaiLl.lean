/-
  THE LAW (3), WHOLE.
-/
import Derived.Test.YbulkdxaiLt
namespace Go.Proofs.Ybulkdxai
open Go.RowKit

/-- The first edges. -/
def Fs (CN : Nat → Nat) (cl : Nat) : Nat → Nat
  | 0 => 0
  | v + 1 => Fs CN cl v + (if v < cl then CN v % 8 else 0)
theorem Fs_le (CN : Nat → Nat) (cl : Nat) : ∀ v, Fs CN cl v ≤ 7 * v
  | 0 => Nat.le_refl _
  | v + 1 => by
    have := Fs_le CN cl v
    simp only [Fs]
    split <;> omega
theorem Fs_step (CN : Nat → Nat) (cl v : Nat) : Fs CN cl v ≤ Fs CN cl (v + 1) ∧ Fs CN cl (v + 1) - Fs CN cl v ≤ 7 := by
  simp only [Fs]
  split <;> omega
theorem Fs_mono (CN : Nat → Nat) (cl v : Nat) : ∀ d, Fs CN cl v ≤ Fs CN cl (v + d)
  | 0 => Nat.le_refl _
  | d + 1 => Nat.le_trans (Fs_mono CN cl v d) (Fs_step CN cl (v + d)).1

set_option maxRecDepth 1000000 in
set_option maxHeartbeats 4000000 in
theorem law_long (ka ta sa wa aa : Option Addr) (cl kc tgl tac ns sac swl wac al ac : Nat) (q : Int) (w : World) (hc : cl < 2 ^ 49 ∧ tgl < 2 ^ 49 ∧ ns < 2 ^ 49 ∧ swl < 2 ^ 49 ∧ al < 2 ^ 49) (hL : 1048576 < cl + tgl + ns + swl + al) :
    Calls Yba.prog 3 #[.slice ka cl kc, .slice ta tgl tac, .slice sa ns sac, .slice wa swl wac, .slice aa al ac, .int .u8 q] w fun e w' => e = .returned (.bool true) ∧ Below w.heap.size w w' := by
  have h1 := hc.1
  have h2 := hc.2.1
  have h3 := hc.2.2.1
  have h4 := hc.2.2.2.1
  have h5 := hc.2.2.2.2
  have hI : (1048576 : Int) < (cl : Int) + tgl + ns + swl + al := by omega
  clear hc
  have hb := below_new w (.cells #[.slice aa al ac] 25)
  go_enter Yba.func3, Yba.ntmps3
  go_wp2
  go_ret
  exact ⟨rfl, hb⟩

set_option maxRecDepth 1000000 in
set_option maxHeartbeats 4000000 in
theorem law_c (ka ta sa wa aa : Option Addr) (cl kc tgl tac ns sac swl wac al ac bl : Nat) (w : World) (hL : cl + tgl + ns + swl + al ≤ 1048576) (hbl : bl < 256)
    (CN TG ST SW : Nat → Nat) (AB : Nat → Bool) (hk : NR .u8 w ka cl (fun j => (CN j : Int))) (ht : NR .u32 w ta tgl (fun j => (TG j : Int))) (hs : NR .u32 w sa ns (fun j => (ST j : Int))) (hw : NR .u64 w wa swl (fun j => (SW j : Int))) (ha : BR w aa al AB)
    (hCN : ∀ j, j < cl → CN j < 256) (hTG : ∀ j, j < tgl → TG j < 4294967296) (hST : ∀ j, j < ns → ST j < 4294967296) (hSW : ∀ j, j < swl → SW j < 18446744073709551616)
    (at_ : ∀ ad, ta = some ad → ad.block < w.heap.size) (as_ : ∀ ad, sa = some ad → ad.block < w.heap.size) (aw_ : ∀ ad, wa = some ad → ad.block < w.heap.size) (aa_ : ∀ ad, aa = some ad → ad.block < w.heap.size) :
    Calls Yba.prog 3 #[.slice ka cl kc, .slice ta tgl tac, .slice sa ns sac, .slice wa swl wac, .slice aa al ac, .int .u8 (bl : Int)] w fun e w' => e = .returned (.bool true) ∧ Below w.heap.size w w' := by
  obtain ⟨w1, hw1⟩ : ∃ w1, w1 = w.alloc (.cells #[.slice aa al ac] 25) := ⟨_, rfl⟩
  have hz1 : w1.heap.size = w.heap.size + 1 := by rw [hw1]; simp
  have hb1 : Below w.heap.size w w1 := by rw [hw1]; exact below_new _ _
  have cP : w1.cell? ⟨w.heap.size, 0, none⟩ = some (.slice aa al ac) := by rw [hw1]; exact cell1 (heap_alloc_new w _)
  have hs0 : ∀ j, (if j < swl then SW j else 0) < 18446744073709551616 := fun j => by
    split
    · rename_i h; exact hSW j h
    · omega
  have HFB : ∀ v, Fs CN cl v ≤ 7 * v := Fs_le CN cl
  obtain ⟨R, hR⟩ : ∃ R : Rn, R = ⟨Fs CN cl, fun e => (if 0 < tgl then TG (e % tgl) else e) % (cl + 1), AC al AB, fun j => ST j % (cl + 1), fun j => if j < swl then SW j else 0⟩ := ⟨_, rfl⟩
  have HN : Hid (∀ wr, Below (w.heap.size + 1) w1 wr → RW wr (w.heap.size + 1) 26 (fun i => .int .u32 ((if i < cl + 1 then Fs CN cl i else 0 : Nat) : Int)) (cl + 1 + 1) →
      Below w.heap.size w wr ∧ Pre1 wr R AB w.heap.size w.heap.size (w.heap.size + 1) (cl + 1) (Fs CN cl (cl + 1)) aa al ac ∧ NR .u32 wr ta tgl (fun j => (TG j : Int)) ∧ NR .u32 wr sa ns (fun j => (ST j : Int)) ∧ NR .u64 wr wa swl (fun j => (SW j : Int))) := by
    intro wr hb hr
    have hbb : Below w.heap.size w wr := hb1.trans (hb.mono (by omega))
    have hf := HFB (cl + 1)
    refine ⟨hbb, ⟨⟨by omega, by omega, by omega⟩, fun e => ?_, fun v => ?_, fun v hv => ?_, ?_, fun ad e => Nat.lt_of_lt_of_le (aa_ ad e) hbb.size, ?_, Nat.lt_succ_self _, fun h0 => ?_, fun ad e => Nat.lt_succ_of_lt (aa_ ad e), Nat.le_succ _⟩, ht.below hbb, hs.below hbb, hw.below hbb⟩
    · rw [hR]; exact Nat.mod_lt _ (Nat.succ_pos _)
    · rw [hR]; exact (Fs_step CN cl v).2
    · rw [hR]
      refine ⟨(Fs_step CN cl v).1, ?_⟩
      have := Fs_mono CN cl (v + 1) (cl - v)
      rw [show v + 1 + (cl - v) = cl + 1 by omega] at this
      exact this
    · rw [hR]
    · exact (hb.cell (show (⟨w.heap.size, 0, none⟩ : Addr).block < w.heap.size + 1 from Nat.lt_succ_self _)).trans cP
    · obtain ⟨b1, off, e, hc⟩ := ha h0
      exact ⟨b1, off, e, fun j hj => cell_below hbb (hc j hj)⟩
  have HRR : Hid (R = ⟨Fs CN cl, fun e => (if 0 < tgl then TG (e % tgl) else e) % (cl + 1), AC al AB, fun j => ST j % (cl + 1), fun j => if j < swl then SW j else 0⟩) := hR
  have HS0 : Hid (∀ j, (if j < swl then SW j else 0) < 18446744073709551616) := hs0
  have HK : Hid (NR .u8 w1 ka cl (fun j => (CN j : Int))) := hk.below hb1
  have HCN : Hid (∀ j, j < cl → CN j < 256) := hCN
  have HTG : Hid (∀ j, j < tgl → TG j < 4294967296) := hTG
  have HST : Hid (∀ j, j < ns → ST j < 4294967296) := hST
  have HT_ : Hid (∀ ad, ta = some ad → ad.block < w.heap.size + 1) := fun ad e => Nat.lt_succ_of_lt (at_ ad e)
  have HS_ : Hid (∀ ad, sa = some ad → ad.block < w.heap.size + 1) := fun ad e => Nat.lt_succ_of_lt (as_ ad e)
  have HW_ : Hid (∀ ad, wa = some ad → ad.block < w.heap.size + 1) := fun ad e => Nat.lt_succ_of_lt (aw_ ad e)
  have HFb : Hid (∀ v, Fs CN cl v ≤ 7 * v) := HFB
  have hLI : (cl : Int) + tgl + ns + swl + al ≤ 1048576 := by omega
  have hmk := mk23 (cl + 1 + 1) (by omega)
  simp only [Int.natCast_add, Int.cast_ofNat_Int] at hmk
  replace hw1 := hw1.symm
  clear hk ht hs hw ha hCN hTG hST hSW at_ as_ aw_ aa_ hs0 hR HFB hb1
  obtain ⟨T, hT⟩ : ∃ T, T = tl 6 (Yba.f3.body.getD .skip) := ⟨_, rfl⟩
  go_enter Yba.func3, Yba.ntmps3
  refine split6 T hT.symm ?_
  replace hT : Hid (T = tl 6 (Yba.f3.body.getD .skip)) := hT
  go_wp2
  go_loopw [15, 16] (fun tv i wq => ∃ (k : Nat), k ≤ cl + 1 ∧ tv = .int .i64 (Fs CN cl k) ∧ i = .int .i64 k ∧ Hid (RW wq (w.heap.size + 1) 26 (fun i => .int .u32 ((if i < k then Fs CN cl i else 0 : Nat) : Int)) (cl + 1 + 1)) ∧ Hid (Below (w.heap.size + 1) w1 wq)) (fun _ i _ => cl + 1 - (intOf i).toNat)
  case atStart =>
    have h := rw_new w1 (fun _ => .int .u32 0) (cl + 1 + 1) 26
    have hb := below_new w1 (.cells (rowL (fun _ => .int .u32 0) (cl + 1 + 1)).toArray 26)
    rw [hz1] at h hb
    exact ⟨0, Nat.zero_le _, rfl, rfl, h.congr (fun j _ => by simp), hb⟩
  case round =>
    obtain ⟨k, hk, rfl, rfl, HR, HBl⟩ := hrel
    have hF := HFb.out k
    obtain ⟨f, hf⟩ : ∃ f, f = Fs CN cl k := ⟨_, rfl⟩
    rw [← hf] at hF ⊢
    have HF : Hid (f = Fs CN cl k) := hf
    clear hf
    by_cases hlt : k < cl + 1
    · have hltI : (k : Int) < (cl : Int) + 1 := by omega
      have g2 := HR.out.cell (show k < cl + 1 + 1 by omega)
      have g3 := HR.out.frozen k
      have hup : ∀ i, i < cl + 1 + 1 → (if i = k then Value.int .u32 (f : Int) else .int .u32 ((if i < k then Fs CN cl i else 0 : Nat) : Int)) = .int .u32 ((if i < k + 1 then Fs CN cl i else 0 : Nat) : Int) := by
        intro i _
        by_cases e : i = k
        · subst e; simp [HF.out]
        · rw [if_neg e]
          by_cases e2 : i < k
          · rw [if_pos e2, if_pos (by omega)]
          · rw [if_neg e2, if_neg (by omega)]
      replace hup : Hid _ := hup
      by_cases hk2 : k < cl
      · have hk2I : (k : Int) < (cl : Int) := by omega
        obtain ⟨kb, ko, rfl, hkc⟩ := HK.out (by omega)
        have hw1k : Below w1.heap.size w1 wr := by rw [hz1]; exact HBl.out
        have g1 := cell_below hw1k (hkc k hk2)
        have hc := HCN.out k hk2
        clear hkc hw1k
        have HV : Hid (Fs CN cl (k + 1) = f + CN k % 8) := by
          show Fs CN cl k + (if k < cl then CN k % 8 else 0) = _
          rw [if_pos hk2, ← HF.out]
        obtain ⟨c, hcc⟩ : ∃ c, c = CN k := ⟨_, rfl⟩
        simp only [← hcc] at g1 hc HV
        clear hcc
        have hmod : (c : Int).tmod 8 = ((c % 8 : Nat) : Int) := by rw [Int.tmod_eq_emod_of_nonneg (by omega)]; omega
        go_wp2
        go_roundw
        case rel => exact ⟨k + 1, by omega, by rw [HV.out]; go_num, by go_num, HR.out.set (by omega) _ _ hup.out, HBl.out.setCell (Nat.le_refl _) _⟩
        case measure => simp [intOf]; omega
      · have hk2I : (cl : Int) ≤ (k : Int) := by omega
        have HV : Hid (Fs CN cl (k + 1) = f) := by
          show Fs CN cl k + (if k < cl then CN k % 8 else 0) = _
          rw [if_neg hk2, ← HF.out]; rfl
        go_wp2
        go_roundw
        case rel => exact ⟨k + 1, by omega, by rw [HV.out], by go_num, HR.out.set (by omega) _ _ hup.out, HBl.out.setCell (Nat.le_refl _) _⟩
        case measure => simp [intOf]; omega
    · obtain rfl : k = cl + 1 := by omega
      have hns : ns < 2 ^ 30 := by omega
      have htl : tgl < 2 ^ 40 := by omega
      have hsl : swl < 2 ^ 40 := by omega
      go_wp2
      rw [hT.out]
      obtain ⟨h1, h2, h3, h4, h5⟩ := HN.out _ HBl.out HR.out
      have hRR := HRR.out
      rw [← HF.out] at h2
      exact tail_m w.heap.size w _ w.heap.size (w.heap.size + 1) (cl + 1) f ns (cl + 1 + 1) bl hbl R AB aa al ac h1 h2 (by rw [hRR]; exact HF.out.symm) (by rw [hRR]; exact HR.out) (Nat.succ_pos _) hns ta tgl tac TG h3 HT_.out HTG.out htl (by rw [hRR]) sa sac ST h4 HS_.out HST.out (by rw [hRR]) wa swl wac SW h5 HW_.out hsl (by rw [hRR]) (by rw [hRR]; exact HS0.out)

end Go.Proofs.Ybulkdxai
