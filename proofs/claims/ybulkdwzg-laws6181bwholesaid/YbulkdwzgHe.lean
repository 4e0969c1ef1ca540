/-
  LawS6181BWhole: heaviestRun (10), THE VALUES AND THE WEIGHTS.
-/
import Derived.Test.YbulkdwzgHd
namespace Go.Proofs.Ybulkdwzg.lawB
open Go.RowKit

theorem own_mono {w : World} {b b' e s n : Nat} {v : Value} {xs : List Value} (h : w.ownsRow b e s v n xs) (hb : b' ≤ b) : w.ownsRow b' e s v n xs := by
  refine ⟨h.1, ?_⟩
  rcases h.2 with h4 | ⟨g, c, cur, rfl, hg, r⟩
  · exact .inl h4
  · exact .inr ⟨g, c, cur, rfl, Nat.le_trans hb hg, r⟩

theorem Out.mono {P Q : Nat → Prop} {w w' : World} (h : Out P w w') (hpq : ∀ k, P k → Q k) : Out Q w w' := ⟨h.os, h.tape, h.output, h.size, fun k hk hn => h.block k hk (fun f => hn (hpq k f))⟩
theorem body_mono {P : Program} {fn : Func} {R R' : Ending → World → Prop} (h : ∀ e w, R e w → R' e w) : ∀ e a w, bodyPost P fn R e a w → bodyPost P fn R' e a w := by
  intro e a w hb
  unfold bodyPost at hb ⊢
  split at hb <;> first | exact ⟨hb.1, hb.2.choose, hb.2.choose_spec.1, h _ _ hb.2.choose_spec.2⟩ | exact ⟨hb.1, h _ _ hb.2⟩ | exact h _ _ hb | exact hb.elim

set_option maxRecDepth 1000000 in
set_option maxHeartbeats 8000000 in
theorem heav_l (w : World) (PP OP PB OB SB WB CB WSP n pc oc sc wc : Nat) (P : Nat → Pr) (D S Wt : Nat → Nat) (wa : Option Addr) (nw wwc : Nat) (Z : Nat → Nat) (hn : n ≤ 4096) (hnw : nw ≤ 1048576) (hZ : ∀ j, j < nw → Z j < 256) (hD : ∀ k, k < n → D k < n)
    (hP : ∀ k, k < n → 0 ≤ (P k).1 ∧ (P k).1 < 512) (hS : ∀ k, S k = (P (D k)).1.toNat) (hWt : ∀ k, Wt k = WT nw Z (P (D k)))
    (o1 : CB < PP) (o2 : PB < PP) (o3 : WSP < PP) (o4 : ∀ ad, wa = some ad → ad.block < PP) (o5 : PP < OB) (o6 : OB < OP) (o7 : OP < SB) (o8 : OP < WB) (o9 : SB ≠ WB) (o10 : CB ≠ PB)
    (h : Hv PP OP PB OB n pc oc P D w) (hs : RW w SB 3 (fun _ => .int .i64 0) n) (hw : RW w WB 3 (fun _ => .int .i64 0) n) (hc : Wc CB WSP wa nw wwc Z 0 w)
    {c0 c3 c4 c6 c9 c10 c11 c12 c13 c14 c15 c16 c17 c18 c19 c20 c21 c22 c23 c24 c25 c26 c27 c28 c29 c30 c31 c32 c33 c34 c35 c36 c37 c38 c39 c40 c41 c42 c43 c44 c45 c46 c47 c48 c49 c50 c51 c52 c53 c54 c55 c56 c57 c58 c59 c60 c61 c62 c63 c64 c65 c66 c67 c68 c69 c70 c71 c72 c73 c74 c75 c76 c77 c78 c79 c80 c81 : Value} :
    Code.wp Yba.prog (tl 5 (Yba.f10.body.getD .skip)) (bodyPost Yba.prog Yba.f10 fun x w' => ∃ va vc, x = .returned (.slice va (chain (Pv S Wt) n (tp S Wt n).2).length vc) ∧ w'.ownsRow w.heap.size 57 2 (.slice va (chain (Pv S Wt) n (tp S Wt n).2).length vc) (chain (Pv S Wt) n (tp S Wt n).2).length (prs ((chain (Pv S Wt) n (tp S Wt n).2).reverse.map fun x => P (D x))) ∧ ((chain (Pv S Wt) n (tp S Wt n).2).length = 0 → va = none ∧ vc = 0) ∧ Wc CB WSP wa nw wwc Z n w' ∧ Out (fun b => b = CB ∨ b = SB ∨ b = WB) w w') ⟨#[c0, .func (.func 11) #[] #[.pointer (some ⟨CB, 0, none⟩), .pointer (some ⟨WSP, 0, none⟩)], .pointer (some ⟨PP, 0, none⟩), c3, c4, .pointer (some ⟨OP, 0, none⟩), c6, .slice (some ⟨SB, 0, none⟩) n sc, .slice (some ⟨WB, 0, none⟩) n wc, c9, c10, c11, c12, c13, c14, c15, c16, c17, c18, c19, c20, c21, c22, c23, c24, c25, c26, c27, c28, c29, c30, c31, c32, c33, c34, c35, c36, c37, c38, c39, c40, c41, c42, c43, c44, c45, c46, c47, c48, c49, c50, c51, c52, c53, c54, c55, c56, c57, c58, c59, c60, c61, c62, c63, c64, c65, c66, c67, c68, c69, c70, c71, c72, c73, c74, c75, c76, c77, c78, c79, c80, c81], []⟩ w := by
  obtain ⟨T, hT⟩ : ∃ T, T = tl 6 (Yba.f10.body.getD .skip) := ⟨_, rfl⟩
  conv => arg 2; whnf
  refine split1 T hT.symm ?_
  replace hT : Hid (T = tl 6 (Yba.f10.body.getD .skip)) := hT
  have cop := h.op.cell (j := 0) (by omega)
  have HV : Hid (Hv PP OP PB OB n pc oc P D w) := h
  have HSB : Hid (RW w SB 3 (fun _ => .int .i64 0) n) := hs
  have HWB : Hid (RW w WB 3 (fun _ => .int .i64 0) n) := hw
  have HC : Hid (Wc CB WSP wa nw wwc Z 0 w) := hc
  have HD : Hid (∀ k, k < n → D k < n) := hD
  have HP : Hid (∀ k, k < n → 0 ≤ (P k).1 ∧ (P k).1 < 512) := hP
  have HS : Hid (∀ k, S k = (P (D k)).1.toNat) := hS
  have HWt : Hid (∀ k, Wt k = WT nw Z (P (D k))) := hWt
  have HZ : Hid (∀ j, j < nw → Z j < 256) := hZ
  have HO4 : Hid (∀ ad, wa = some ad → ad.block < PP) := o4
  clear h hs hw hc hD hP hS hWt hZ o4
  go_wp2
  clear cop
  go_loopw [39] (fun kv wr => ∃ (k : Nat), k ≤ n ∧ kv = .int .i64 k ∧ Hid (Hv PP OP PB OB n pc oc P D wr) ∧ Hid (RW wr SB 3 (fun j => .int .i64 (if j < k then S j else 0 : Nat)) n) ∧ Hid (RW wr WB 3 (fun j => .int .i64 (if j < k then Wt j else 0 : Nat)) n) ∧ Hid (Wc CB WSP wa nw wwc Z k wr) ∧ Hid (Out (fun b => b = CB ∨ b = SB ∨ b = WB) w wr)) (fun kv _ => n - (intOf kv).toNat)
  case atStart => exact ⟨0, Nat.zero_le _, rfl, HV, HSB.out.congr (fun j _ => by rw [if_neg (by omega)]; rfl), HWB.out.congr (fun j _ => by rw [if_neg (by omega)]; rfl), HC, Out.refl _ w⟩
  case round =>
    clear HV HSB HWB HC
    obtain ⟨k, hk, rfl, HV, HSB, HWB, HC, HO⟩ := hrel
    by_cases hlt : k < n
    · have hltI : (k : Int) < (n : Int) := by omega
      obtain ⟨d, hd⟩ : ∃ d, D k = d := ⟨_, rfl⟩
      have hdn := HD.out k hlt
      have co := HV.out.od k hlt
      have hSk := HS.out k
      have hWk := HWt.out k
      rw [hd] at hdn co hSk hWk
      have HSk : Hid (S k = (P d).1.toNat) := hSk
      have HWk : Hid (Wt k = WT nw Z (P d)) := hWk
      clear hd hSk hWk
      have hdI : (d : Int) < (n : Int) := by omega
      have c1 := HV.out.pp.cell (j := 0) (by omega)
      have c4 := HV.out.pr.c0 hdn
      have c5 := HV.out.pr.c1 hdn
      have hcall := wcl_at (P d) CB WSP wa nw wwc k Z wr 1 (by omega) hnw HZ.out HC.out
      have nSBp : (⟨SB, k, none⟩ : Addr) ≠ ⟨PP, 0, none⟩ := fun e => by simp only [Addr.mk.injEq] at e; omega
      have nSBa : (⟨SB, k, none⟩ : Addr) ≠ ⟨PB, d * 2, none⟩ := fun e => by simp only [Addr.mk.injEq] at e; omega
      have nSBb : (⟨SB, k, none⟩ : Addr) ≠ ⟨PB, d * 2 + 1, none⟩ := fun e => by simp only [Addr.mk.injEq] at e; omega
      have nWBp : (⟨WB, k, none⟩ : Addr) ≠ ⟨PP, 0, none⟩ := fun e => by simp only [Addr.mk.injEq] at e; omega
      have nWBa : (⟨WB, k, none⟩ : Addr) ≠ ⟨PB, d * 2, none⟩ := fun e => by simp only [Addr.mk.injEq] at e; omega
      have nWBb : (⟨WB, k, none⟩ : Addr) ≠ ⟨PB, d * 2 + 1, none⟩ := fun e => by simp only [Addr.mk.injEq] at e; omega
      go_wp2
      go_region_held3 (fun w' => w'.cell? ⟨PP, 0, none⟩ = some (.slice (some ⟨PB, 0, none⟩) n pc) ∧ w'.cell? ⟨PB, d * 2, none⟩ = some (.int .i64 (P d).1) ∧ w'.cell? ⟨PB, d * 2 + 1, none⟩ = some (.int .i64 (P d).2)) (first | go_keep | (refine ⟨?_, ?_, ?_⟩ <;> (rw [World.cell?_setCell_other _ _ _ _ (by assumption)]; assumption)) | (refine ⟨?_, ?_, ?_⟩ <;> (rw [World.cell?_setCell_other _ _ _ _ (by assumption), World.cell?_setCell_other _ _ _ _ (by assumption)]; assumption))) ((go_at_call 11; refine hcall.mono ?_; rintro e w1 ⟨rfl, hC1, hO1⟩; have HV1 : Hid (Hv PP OP PB OB n pc oc P D w1) := HV.out.out hO1 (by omega) (by omega) (by omega) (by omega); have d1 := HV1.out.pp.cell (j := 0) (by omega); have d4 := HV1.out.pr.c0 hdn; have d5 := HV1.out.pr.c1 hdn; have HSB1 : Hid (RW w1 SB 3 (fun j => .int .i64 (if j < k then S j else 0 : Nat)) n) := (hO1.block SB HSB.out.lt (by omega)).trans HSB.out; have HWB1 : Hid (RW w1 WB 3 (fun j => .int .i64 (if j < k then Wt j else 0 : Nat)) n) := (hO1.block WB HWB.out.lt (by omega)).trans HWB.out; have s1 := HSB1.out.cell hlt; have s2 := HSB1.out.frozen k; have s3 := HWB1.out.cell hlt; have s4 := HWB1.out.frozen k; have HC1 : Hid (Wc CB WSP wa nw wwc Z (k + 1) w1) := hC1; have HO1 : Hid (Out (fun b => b = CB) wr w1) := hO1; clear hC1 hO1))
      clear c1 c4 c5 d1 d4 d5 s1 s2 s3 s4 hcall
      go_wp2
      go_roundw
      case rel =>
        have hw1 : Out (fun b => b = SB ∨ b = WB) w1 ((w1.setCell ⟨SB, k, none⟩ (.int .i64 (P d).1)).setCell ⟨WB, k, none⟩ (.int .i64 (WT nw Z (P d) : Nat))) :=
          Out.trans ((out_set w1 ⟨SB, k, none⟩ (.int .i64 (P d).1)).mono (fun _ h => .inl h)) (out_set _ ⟨WB, k, none⟩ _) (fun _ _ h => .inr h)
        have hpd := HP.out d hdn
        refine ⟨k + 1, by omega, by go_num, HV1.out.out hw1 (by omega) (by omega) (by omega) (by omega), ?_, ?_, HC1.out.out hw1 (by omega) (by omega) (fun ad had => by have := HO4.out ad had; omega), HO.out.trans (Out.trans (HO1.out.mono (Q := fun b => b = CB ∨ b = SB ∨ b = WB) (fun _ h => .inl h)) hw1 (fun _ _ h => .inr h)) (fun _ _ h => h)⟩
        · refine RW.other (RW.set HSB1.out hlt _ _ (fun j hj => ?_)) (a := ⟨WB, k, none⟩) o9 _
          by_cases e : j = k
          · subst e
            rw [if_pos rfl, if_pos (by omega), HSk.out]
            congr 1
            omega
          · rw [if_neg e]
            by_cases e2 : j < k
            · rw [if_pos e2, if_pos (by omega)]
            · rw [if_neg e2, if_neg (by omega)]
        · refine RW.set (RW.other HWB1.out (a := ⟨SB, k, none⟩) (fun e => o9 e.symm) _) hlt _ _ (fun j hj => ?_)
          by_cases e : j = k
          · subst e
            rw [if_pos rfl, if_pos (by omega), HWk.out]
          · rw [if_neg e]
            by_cases e2 : j < k
            · rw [if_pos e2, if_pos (by omega)]
            · rw [if_neg e2, if_neg (by omega)]
      case measure => simp [intOf]; omega
    · obtain rfl : k = n := by omega
      go_wp2
      rw [hT.out]
      rename World => wz
      refine Code.wp_mono (body_mono ?_) (heav_t wz PP OP PB OB SB WB k pc oc sc wc P D S Wt hn (fun i hi => by have := HP.out (D i) (HD.out i hi); rw [HS.out]; omega) (fun i => by rw [HWt.out]; exact wt_pos _ _ _) (fun i => by rw [HWt.out]; exact wt_le _ _ _) HD.out HV.out (HSB.out.congr (fun j hj => by rw [if_pos hj])) (HWB.out.congr (fun j hj => by rw [if_pos hj])))
      rintro e w' ⟨va, vc, rfl, hown, hva, hb⟩
      exact ⟨va, vc, rfl, own_mono hown HO.out.size, hva, HC.out.out (out_below (D := fun _ => False) hb) id id (fun _ _ => id), HO.out.trans (out_below (D := fun _ => False) hb) (fun _ _ h => h.elim)⟩

end Go.Proofs.Ybulkdwzg.lawB
