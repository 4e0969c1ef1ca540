/-
  LawS6181BWhole: rising (22), ITS GREAT LOOP.
-/
import Derived.Test.YbulkdwzgRm
namespace Go.Proofs.Ybulkdwzg.lawB
open Go.RowKit

theorem Best.in_n {S Sc : Nat → Nat} {X : Nat → Prop} {r : Rn} {n : Nat} (h : Best S Sc X r) (hX : ∀ y, X y → y < n) : ∀ x, r.2 = some x → x < n := by
  intro x hx
  rcases h with ⟨rfl, _⟩ | ⟨y, hy, rfl, _⟩
  · exact absurd hx (by simp)
  · simp only [run, Option.some.injEq] at hx
    subst hx; exact hX _ hy
theorem low_le {v : Nat} : low v ≤ v := by unfold low; omega

/-- The call of better, in a world of the great loop. -/
theorem bet_at {SB WB P0 BB PB TB n m sc : Nat} {S Wt : Nat → Nat} {B : Nat → Rn} {ip it : Nat} {w : World} (h : Mn SB WB P0 BB PB TB n m sc S Wt B ip it w) (q : Nat) (a b : Rn) (t : Bool) (ha : ∀ x, a.2 = some x → x < n) (hb : ∀ x, b.2 = some x → x < n) (ht : rb S a b = t) :
    Calls Yba.prog 28 #[.agg #[.int .i64 (a.1 : Int), .int .i64 (en a.2)], .agg #[.int .i64 (b.1 : Int), .int .i64 (en b.2)], .pointer (some ⟨P0, 0, none⟩)] (w.drewN q) fun e w' => e = .returned (.bool t) ∧ Below w.heap.size w w' := by
  have := rbet_c S a b P0 SB n sc (w.drewN q) (h.p.cell (by omega)) (fun k hk => h.s.cell hk) ha hb
  rw [ht] at this
  exact this.mono fun _ _ ⟨he, hB⟩ => ⟨he, below_draw hB⟩

set_option maxRecDepth 1000000 in
set_option maxHeartbeats 8000000 in
theorem rise_m (w0 w : World) (SB WB P0 BB PB TB n m sc wc bc pc : Nat) (S Wt : Nat → Nat) (hn : n ≤ 4096) (hm : m ≤ 512) (hS : ∀ i, i < n → S i + 1 ≤ m) (hW1 : ∀ i, 0 < Wt i) (hW8 : ∀ i, Wt i ≤ 8)
    (o : Od SB WB P0 BB PB TB) (hB : Below P0 w0 w) (h : Mn SB WB P0 BB PB TB n m sc S Wt (fun _ => (0, none)) 0 0 w)
    {c0 c3 c4 c7 c8 c10 c13 c14 c15 c16 c17 c18 c19 c20 c21 c22 c23 c24 c25 c26 c27 c28 c29 c30 c31 c32 c33 c34 c35 c36 c37 c38 c39 c40 c41 c42 c43 c44 c45 c46 c47 c48 c49 c50 c51 c52 c53 c54 c55 c56 c57 c58 c59 c60 c61 c62 c63 c64 c65 c66 c67 c68 c69 c70 c71 c72 c73 c74 c75 c76 c77 c78 c79 c80 c81 c82 c83 c84 c85 c86 c87 c88 c89 c90 c91 c92 c93 c94 c95 c96 c97 c98 c99 c100 c101 c102 c103 c104 c105 c106 c107 c108 c109 c110 c111 c112 c113 c114 c115 c116 c117 c118 c119 c120 c121 c122 c123 c124 c125 c126 c127 c128 c129 c130 c131 c132 c133 c134 c135 c136 c137 c138 c139 c140 c141 c142 c143 c144 c145 c146 c147 c148 c149 c150 c151 c152 c153 c154 c155 c156 c157 c158 c159 c160 c161 : Value} :
    Code.wp Yba.prog (tl 8 (Yba.f22.body.getD .skip)) (bodyPost Yba.prog Yba.f22 fun x w' => ∃ QB, x = .returned (.slice (some ⟨QB, 0, none⟩) (chain (Pv S Wt) n (tp S Wt n).2).length (chain (Pv S Wt) n (tp S Wt n).2).length) ∧ RW w' QB 3 (fun j => .int .i64 ((chain (Pv S Wt) n (tp S Wt n).2).getD ((chain (Pv S Wt) n (tp S Wt n).2).length - 1 - j) 0 : Nat)) (chain (Pv S Wt) n (tp S Wt n).2).length ∧ Below P0 w0 w') ⟨#[c0, .slice (some ⟨WB, 0, none⟩) n wc, .pointer (some ⟨P0, 0, none⟩), c3, c4, .func (.func 28) #[] #[.pointer (some ⟨P0, 0, none⟩)], .int .i64 (m : Int), c7, c8, .slice (some ⟨BB, 0, none⟩) (m + 1) bc, c10, .slice (some ⟨PB, 0, none⟩) n pc, .pointer (some ⟨TB, 0, none⟩), c13, c14, c15, c16, c17, c18, c19, c20, c21, c22, c23, c24, c25, c26, c27, c28, c29, c30, c31, c32, c33, c34, c35, c36, c37, c38, c39, c40, c41, c42, c43, c44, c45, c46, c47, c48, c49, c50, c51, c52, c53, c54, c55, c56, c57, c58, c59, c60, c61, c62, c63, c64, c65, c66, c67, c68, c69, c70, c71, c72, c73, c74, c75, c76, c77, c78, c79, c80, c81, c82, c83, c84, c85, c86, c87, c88, c89, c90, c91, c92, c93, c94, c95, c96, c97, c98, c99, c100, c101, c102, c103, c104, c105, c106, c107, c108, c109, c110, c111, c112, c113, c114, c115, c116, c117, c118, c119, c120, c121, c122, c123, c124, c125, c126, c127, c128, c129, c130, c131, c132, c133, c134, c135, c136, c137, c138, c139, c140, c141, c142, c143, c144, c145, c146, c147, c148, c149, c150, c151, c152, c153, c154, c155, c156, c157, c158, c159, c160, c161], []⟩ w := by
  obtain ⟨T, hT⟩ : ∃ T, T = tl 9 (Yba.f22.body.getD .skip) := ⟨_, rfl⟩
  conv => arg 2; whnf
  refine split1 T hT.symm ?_
  replace hT : Hid (T = tl 9 (Yba.f22.body.getD .skip)) := hT
  have cp := h.p.cell (j := 0) (by omega)
  have HS : Hid (∀ i, i < n → S i + 1 ≤ m) := hS
  have HW1 : Hid (∀ i, 0 < Wt i) := hW1
  have HW8 : Hid (∀ i, Wt i ≤ 8) := hW8
  have hsp : ∀ y, 0 < Sc S Wt y := fun y => sc_pos S Wt y (hW1 y)
  have HSP : Hid (∀ y, 0 < Sc S Wt y) := hsp
  have HM : Hid (Mn SB WB P0 BB PB TB n m sc S Wt (fun _ => (0, none)) 0 0 w) := h
  have HB : Hid (Below P0 w0 w) := hB
  have o1 := o.s
  have o2 := o.w
  have o3 := o.p
  have o4 := o.b
  have o5 := o.t
  have HSL : Hid (∀ i, Sc S Wt i ≤ 8 * (i + 1)) := sc_le S Wt hW8
  clear hS hW1 hW8 hsp h hB
  go_wp2
  clear cp
  go_loopw [54] (fun iv wr => ∃ (i : Nat) (B : Nat → Rn), i ≤ n ∧ iv = .int .i64 i ∧ Hid (Tr S (Sc S Wt) m i B) ∧ Hid (Mn SB WB P0 BB PB TB n m sc S Wt B i i wr) ∧ Hid (Below P0 w0 wr)) (fun iv _ => n - (intOf iv).toNat)
  case atStart => exact ⟨0, _, Nat.zero_le _, rfl, tr_zero _ _ _, HM.out, HB.out⟩
  case round =>
    clear HM HB
    obtain ⟨i, B, hi, rfl, HT, HM, HB⟩ := hrel
    by_cases hlt : i < n
    · have hltI : (i : Int) < (n : Int) := by omega
      have cs := HM.out.s.cell hlt
      have hSi := HS.out i hlt
      obtain ⟨x, hx⟩ : ∃ x, S i = x := ⟨_, rfl⟩
      rw [hx] at cs hSi
      have HX : Hid (S i = x) := hx
      clear hx
      go_wp2
      obtain ⟨RB, hRB⟩ : ∃ RB, RB = wr.heap.size := ⟨_, rfl⟩
      have hTR : TB < RB := by rw [hRB]; exact HM.out.t.lt
      have HMa : Hid (Mn SB WB P0 BB PB TB n m sc S Wt B i i (wr.alloc (.cells #[.int .i64 0, .int .i64 (-1)] 85))) := HM.out.alloc o _
      have HRa : Hid (RW (wr.alloc (.cells #[.int .i64 0, .int .i64 (-1)] 85)) RB 85 (two (0, none)) 2) := by
        rw [hRB]
        exact (rw_two wr (.int .i64 0) (.int .i64 (-1)) 85).congr (fun j _ => by unfold two en; rfl)
      have HBa : Hid (Below P0 w0 (wr.alloc (.cells #[.int .i64 0, .int .i64 (-1)] 85))) := HB.out.alloc (by have := HM.out.p.lt; omega) _
      generalize wr.alloc (.cells #[.int .i64 0, .int .i64 (-1)] 85) = wa at HMa HRa HBa ⊢
      rw [← hRB]
      clear HM HB cs hRB
      -- the look
      have hbbn : ∀ (v : Nat), 1 ≤ v → v ≤ m → ∀ y, (B v).2 = some y → y < n := fun v h1 h2 => (HT.out v h1 h2).in_n (fun y hy => by omega)
      have HBN : Hid (∀ (v : Nat), 1 ≤ v → v ≤ m → ∀ y, (B v).2 = some y → y < n) := hbbn
      clear hbbn
      go_loopw [16] (fun vv wq => ∃ (v f : Nat) (r : Rn), vv = .int .i64 v ∧ v ≤ x ∧ v ≤ f ∧ Hid (∀ y, r.2 = some y → y < n) ∧ Hid (qF S B (qry f v) r = qF S B (qry 600 x) (0, none)) ∧ Hid (Mn SB WB P0 BB PB TB n m sc S Wt B i i wq) ∧ Hid (RW wq RB 85 (two r) 2) ∧ Hid (Below P0 w0 wq)) (fun vv _ => (intOf vv).toNat)
      case atStart => exact ⟨x, 600, (0, none), rfl, Nat.le_refl _, by omega, (fun y hy => by cases hy), rfl, HMa.out, HRa.out, HBa.out⟩
      case round =>
        clear HMa HRa HBa
        obtain ⟨v, f, r, rfl, hvx, hvf, Hr, HQ, HM, HR, HB⟩ := hrel
        have cR0 := HR.out.cell (j := 0) (by omega)
        have cR1 := HR.out.cell (j := 1) (by omega)
        simp only [two, Nat.zero_mod, if_true, show (1 : Nat) % 2 = 1 from rfl, if_neg (show ¬ (1 : Nat) = 0 by omega)] at cR0 cR1
        by_cases hv0 : v = 0
        · subst hv0
          rw [show ((0 : Nat) : Int) = 0 from rfl]
          have HQ2 : Hid (r = bb S (Sc S Wt) x i) := by
            have h1 := HQ.out
            have h2 : qry f 0 = [] := by cases f <;> rfl
            rw [h2] at h1
            have h3 := look (S := S) (Sc := Sc S Wt) (x := x) hm (by omega) (fun y _ => HSP.out y) HT.out
            exact h1.trans h3
          have hrs : r.1 ≤ 40000 := by
            have e := HQ2.out
            rcases bb_form S (Sc S Wt) x i with e2 | ⟨y, hy, e2⟩
            · rw [e, e2]; simp only; omega
            · have := HSL.out y
              rw [e, e2]; simp only [run]; omega
          have hpe : Pv S Wt i = r.2 := by unfold Pv; rw [HX.out, HQ2.out]
          have hse : Sc S Wt i = r.1 + Wt i := by rw [sc_eq, HX.out, HQ2.out]
          have HPE : Hid (Pv S Wt i = r.2) := hpe
          have HSE : Hid (Sc S Wt i = r.1 + Wt i) := hse
          have cW := HM.out.wt.cell hlt
          have hW8 := HW8.out i
          have hW1 := HW1.out i
          obtain ⟨u, hu⟩ : ∃ u, Wt i = u := ⟨_, rfl⟩
          rw [hu] at cW hW8 hW1
          have HU : Hid (Wt i = u) := hu
          have hpb := HM.out.pv.cell hlt
          have hpf := HM.out.pv.frozen i
          have fR0 := HR.out.frozen 0
          have fR1 := HR.out.frozen 1
          clear hpe hse hu HQ hvx hvf
          have nRP : RB ≠ PB := by omega
          have nRW : RB ≠ WB := by omega
          have nPR : PB ≠ RB := by omega
          have nWP : WB ≠ PB := by omega
          have nWR : WB ≠ RB := by omega
          go_wp2
          rename World => wq
          have HMb : Hid (Mn SB WB P0 BB PB TB n m sc S Wt B (i + 1) i ((wq.setCell ⟨PB, i, none⟩ (.int .i64 (en r.2))).setCell ⟨RB, 0, none⟩ (.int .i64 ((r.1 : Int) + 1)))) := by
            have := HM.out.setPv o hlt
            rw [HPE.out] at this
            exact this.set o (a := ⟨RB, 0, none⟩) hTR _
          have HRb : Hid (RW ((wq.setCell ⟨PB, i, none⟩ (.int .i64 (en r.2))).setCell ⟨RB, 0, none⟩ (.int .i64 ((r.1 : Int) + 1))) RB 85 (two (r.1 + 1, r.2)) 2) := by
            refine (HR.out.other (a := ⟨PB, i, none⟩) nRP _).set (j := 0) (by omega) _ _ (fun j hj => ?_)
            match j, hj with
            | 0, _ => simp [two]
            | 1, _ => simp [two]
          have HBb : Hid (Below P0 w0 ((wq.setCell ⟨PB, i, none⟩ (.int .i64 (en r.2))).setCell ⟨RB, 0, none⟩ (.int .i64 ((r.1 : Int) + 1)))) := (HB.out.setCell (p := ⟨PB, i, none⟩) (by show P0 ≤ PB; omega) _).setCell (p := ⟨RB, 0, none⟩) (by show P0 ≤ RB; omega) _
          generalize (wq.setCell ⟨PB, i, none⟩ (.int .i64 (en r.2))).setCell ⟨RB, 0, none⟩ (.int .i64 ((r.1 : Int) + 1)) = wb at HMb HRb HBb ⊢
          have e0 := HRb.out.cell (j := 0) (by omega)
          have e1 := HRb.out.cell (j := 1) (by omega)
          simp only [two, Nat.zero_mod, if_true, show (1 : Nat) % 2 = 1 from rfl, if_neg (show ¬ (1 : Nat) = 0 by omega)] at e0 e1
          have f0 := HRb.out.frozen 0
          have f1 := HRb.out.frozen 1
          have cW1 := HMb.out.wt.cell hlt
          rw [HU.out] at cW1
          clear HM HR HB cW hpb hpf fR0 fR1 cR0 cR1
          go_region
          go_wp2
          have HMc : Hid (Mn SB WB P0 BB PB TB n m sc S Wt B (i + 1) i (((wb.setCell ⟨RB, 0, none⟩ (.int .i64 ((r.1 : Int) + 1 + ((u : Int) - 1)))).setCell ⟨RB, 1, none⟩ (.int .i64 i)).drew)) :=
            ((HMb.out.set o (a := ⟨RB, 0, none⟩) hTR (.int .i64 ((r.1 : Int) + 1 + ((u : Int) - 1)))).set o (a := ⟨RB, 1, none⟩) hTR (.int .i64 i)).same o (fun _ _ => rfl)
          have HRc : Hid (RW (((wb.setCell ⟨RB, 0, none⟩ (.int .i64 ((r.1 : Int) + 1 + ((u : Int) - 1)))).setCell ⟨RB, 1, none⟩ (.int .i64 i)).drew) RB 85 (two (run (Sc S Wt) i)) 2) := by
            have h1 := HRb.out.set (j := 0) (by omega) (.int .i64 ((r.1 : Int) + 1 + ((u : Int) - 1))) (fun j => if j = 0 then .int .i64 ((r.1 : Int) + 1 + ((u : Int) - 1)) else two (r.1 + 1, r.2) j) (fun j _ => rfl)
            refine RW.set (w := (wb.setCell ⟨RB, 0, none⟩ (.int .i64 ((r.1 : Int) + 1 + ((u : Int) - 1))))) h1 (j := 1) (by omega) _ _ (fun j hj => ?_)
            have hq := HSE.out
            rw [HU.out] at hq
            match j, hj with
            | 0, _ =>
              simp only [two, run, hq, Nat.zero_mod, if_true]
              rw [if_neg (by omega)]
              congr 1
              omega
            | 1, _ => simp [two, run, en]
          have HBc : Hid (Below P0 w0 (((wb.setCell ⟨RB, 0, none⟩ (.int .i64 ((r.1 : Int) + 1 + ((u : Int) - 1)))).setCell ⟨RB, 1, none⟩ (.int .i64 i)).drew)) :=
            ((HBb.out.setCell (p := ⟨RB, 0, none⟩) (by show P0 ≤ RB; omega) _).setCell (p := ⟨RB, 1, none⟩) (by show P0 ≤ RB; omega) _).drew
          generalize ((wb.setCell ⟨RB, 0, none⟩ (.int .i64 ((r.1 : Int) + 1 + ((u : Int) - 1)))).setCell ⟨RB, 1, none⟩ (.int .i64 i)).drew = wc2 at HMc HRc HBc ⊢
          clear HMb HRb HBb e0 e1 f0 f1 cW1 HSE HPE HQ2 hrs HU hW8 hW1
          have hri : ∀ y, (run (Sc S Wt) i).2 = some y → y < n := fun y hy => by simp only [run, Option.some.injEq] at hy; omega
          have HRI : Hid (∀ y, (run (Sc S Wt) i).2 = some y → y < n) := hri
          obtain ⟨rr, hrr⟩ : ∃ rr, rr = run (Sc S Wt) i := ⟨_, rfl⟩
          rw [← hrr] at HRc HRI
          have HRR : Hid (rr = run (Sc S Wt) i) := hrr
          clear hrr hri Hr
          -- the marks
          go_loopw [17] (fun vv wq => ∃ (v f : Nat) (B' : Nat → Rn), vv = .int .i64 v ∧ 1 ≤ v ∧ v ≤ 2 * m ∧ m + 1 ≤ f + v ∧ Hid (∀ t, 1 ≤ t → t ≤ m → ∀ y, (B' t).2 = some y → y < n) ∧ Hid (uF S rr (upd m f v) B' = uF S rr (upd m 600 (x + 1)) B) ∧ Hid (Mn SB WB P0 BB PB TB n m sc S Wt B' (i + 1) i wq) ∧ Hid (RW wq RB 85 (two rr) 2) ∧ Hid (Below P0 w0 wq)) (fun vv _ => 2 * m + 1 - (intOf vv).toNat)
          case atStart => exact ⟨x + 1, 600, B, by go_num, by omega, by omega, by omega, HBN, rfl, HMc, HRc, HBc⟩
          case round =>
            clear HMc HRc HBc HBN
            obtain ⟨v, f, B', rfl, hv1, hv2, hvf, HBN, HU, HM, HR, HB⟩ := hrel
            have cR0 := HR.out.cell (j := 0) (by omega)
            have cR1 := HR.out.cell (j := 1) (by omega)
            simp only [two, Nat.zero_mod, if_true, show (1 : Nat) % 2 = 1 from rfl, if_neg (show ¬ (1 : Nat) = 0 by omega)] at cR0 cR1
            by_cases hvm : v ≤ m
            · have hvI : (v : Int) ≤ (m : Int) := by omega
              have hvmI : (v : Int) < (m : Int) + 1 := by omega
              obtain ⟨f', rfl⟩ : ∃ f', f = f' + 1 := by
                rcases f with _ | f'
                · omega
                · exact ⟨f', rfl⟩
              have hlow := and_low (show v ≤ 512 by omega)
              have hlp := low_pos (show v ≤ 512 by omega) (by omega)
              have b0 := HM.out.b.c0 (show v < m + 1 by omega)
              have b1 := HM.out.b.c1 (show v < m + 1 by omega)
              have hstep : upd m (f' + 1) v = v :: upd m f' (v + low v) := by rw [upd, if_neg (by omega)]
              have HST : Hid (upd m (f' + 1) v = v :: upd m f' (v + low v)) := hstep
              have ev : IntKind.i64.wrap ((v : Int) + (low v : Int)) = ((v + low v : Nat) : Int) := by rw [IntKind.wrap_i64]; omega
              clear hstep
              cases hrb : rb S rr (B' v) with
              | true =>
                have hcall := bet_at HM.out 1 rr (B' v) true HRI.out (HBN.out v (by omega) (by omega)) hrb
                go_wp2
                go_region_held3 (fun w' => w'.cell? ⟨BB, v * 2, none⟩ = some (.int .i64 ((B' v).1 : Nat)) ∧ w'.cell? ⟨BB, v * 2 + 1, none⟩ = some (.int .i64 (en (B' v).2)) ∧ w'.cell? ⟨RB, 0, none⟩ = some (.int .i64 (rr.1 : Nat)) ∧ w'.cell? ⟨RB, 1, none⟩ = some (.int .i64 (en rr.2))) (go_keep) ((go_at_call 28; refine hcall.mono ?_; rintro e w1 ⟨rfl, hb1⟩; have d0 := cell_below hb1 b0; have d1 := cell_below hb1 b1; have d2 := cell_below hb1 cR0; have d3 := cell_below hb1 cR1))
                have HM1 : Hid (Mn SB WB P0 BB PB TB n m sc S Wt B' (i + 1) i w1) := HM.out.later o hb1
                have HR1 : Hid (RW w1 RB 85 (two rr) 2) := HR.out.later hb1
                have HB1 : Hid (Below P0 w0 w1) := HB.out.trans (hb1.mono (by have := HM.out.p.lt; omega))
                have fB0 := HM1.out.b.frozen (v * 2)
                have fB1 := HM1.out.b.frozen (v * 2 + 1)
                clear HM HR HB hcall b0 b1 cR0 cR1 hb1
                go_wp2
                go_roundw
                case rel =>
                  refine ⟨v + low v, f', (fun t => if t = v then rr else B' t), by congr 1, by omega, by omega, by omega, ?_, ?_, HM1.out.setB o (by omega) rr, (HR1.out.other (a := ⟨BB, v * 2, none⟩) (by show RB ≠ BB; omega) _).other (a := ⟨BB, v * 2 + 1, none⟩) (by show RB ≠ BB; omega) _, (HB1.out.setCell (p := ⟨BB, v * 2, none⟩) (by show P0 ≤ BB; omega) _).setCell (p := ⟨BB, v * 2 + 1, none⟩) (by show P0 ≤ BB; omega) _⟩
                  · intro t h1 h2 y hy
                    by_cases e : t = v
                    · simp only [e, if_true] at hy
                      exact HRI.out y hy
                    · simp only [e, if_false] at hy
                      exact HBN.out t h1 h2 y hy
                  · show _ = _
                    rw [← HU.out, HST.out]
                    show _ = uF S rr (upd m f' (v + low v)) (fun t => if t = v then (if rb S rr (B' v) = true then rr else B' v) else B' t)
                    rw [hrb, if_pos rfl]
                case measure => simp [intOf]; omega
              | false =>
                have hcall := bet_at HM.out 1 rr (B' v) false HRI.out (HBN.out v (by omega) (by omega)) hrb
                go_wp2
                go_region_held3 (fun w' => w'.cell? ⟨BB, v * 2, none⟩ = some (.int .i64 ((B' v).1 : Nat)) ∧ w'.cell? ⟨BB, v * 2 + 1, none⟩ = some (.int .i64 (en (B' v).2)) ∧ w'.cell? ⟨RB, 0, none⟩ = some (.int .i64 (rr.1 : Nat)) ∧ w'.cell? ⟨RB, 1, none⟩ = some (.int .i64 (en rr.2))) (go_keep) ((go_at_call 28; refine hcall.mono ?_; rintro e w1 ⟨rfl, hb1⟩; have d0 := cell_below hb1 b0; have d1 := cell_below hb1 b1; have d2 := cell_below hb1 cR0; have d3 := cell_below hb1 cR1))
                have HM1 : Hid (Mn SB WB P0 BB PB TB n m sc S Wt B' (i + 1) i w1) := HM.out.later o hb1
                have HR1 : Hid (RW w1 RB 85 (two rr) 2) := HR.out.later hb1
                have HB1 : Hid (Below P0 w0 w1) := HB.out.trans (hb1.mono (by have := HM.out.p.lt; omega))
                clear HM HR HB hcall b0 b1 cR0 cR1 hb1
                go_wp2
                go_roundw
                case rel =>
                  refine ⟨v + low v, f', B', by congr 1, by omega, by omega, by omega, HBN, ?_, HM1, HR1, HB1⟩
                  show _ = _
                  rw [← HU.out, HST.out]
                  show _ = uF S rr (upd m f' (v + low v)) (fun t => if t = v then (if rb S rr (B' v) = true then rr else B' v) else B' t)
                  rw [hrb, if_neg (by simp)]
                  congr 1
                  funext t
                  by_cases e : t = v
                  · subst e; rw [if_pos rfl]
                  · rw [if_neg e]
                case measure => simp [intOf]; omega
            · have hvI : ¬ (v : Int) ≤ (m : Int) := by omega
              have HTR : Hid (Tr S (Sc S Wt) m (i + 1) B') := by
                have h1 := HU.out
                have h2 : upd m f v = [] := by
                  cases f with
                  | zero => rfl
                  | succ f => rw [upd, if_pos (by omega)]
                rw [h2] at h1
                have h3 : B' = uF S rr (upd m 600 (x + 1)) B := h1
                rw [h3, HRR.out, ← HX.out]
                exact tr_succ (fun y _ => HSP.out y) HT.out
              have htn : ∀ y, (tp S Wt i).2 = some y → y < n := fun y hy => by have := tp_lt S Wt hy; omega
              have ct0 := HM.out.t.cell (j := 0) (by omega)
              have ct1 := HM.out.t.cell (j := 1) (by omega)
              simp only [two, Nat.zero_mod, if_true, show (1 : Nat) % 2 = 1 from rfl, if_neg (show ¬ (1 : Nat) = 0 by omega)] at ct0 ct1
              have htp : tp S Wt (i + 1) = if rb S rr (tp S Wt i) = true then rr else tp S Wt i := by rw [tp, HRR.out]
              have HTP : Hid (tp S Wt (i + 1) = if rb S rr (tp S Wt i) = true then rr else tp S Wt i) := htp
              have HTN : Hid (∀ y, (tp S Wt i).2 = some y → y < n) := htn
              clear htp htn HU HBN HT
              cases hrb : rb S rr (tp S Wt i) with
              | true =>
                have hcall := bet_at HM.out 0 rr (tp S Wt i) true HRI.out HTN.out hrb
                go_wp2_with (go_at_call 28; refine hcall.mono ?_; rintro e w1 ⟨rfl, hb1⟩; have d2 := cell_below hb1 cR0; have d3 := cell_below hb1 cR1; have HM1 : Hid (Mn SB WB P0 BB PB TB n m sc S Wt B' (i + 1) i w1) := HM.out.later o hb1; have fT0 := HM1.out.t.frozen 0; have fT1 := HM1.out.t.frozen 1; have d4 := cell_below hb1 ct0; have d5 := cell_below hb1 ct1)
                have HB1 : Hid (Below P0 w0 w1) := HB.out.trans (hb1.mono (by have := HM.out.p.lt; omega))
                go_roundw
                case rel => exact ⟨i + 1, B', by omega, by go_num, HTR, HM1.out.setT o (by rw [HTP.out, hrb, if_pos rfl]), (HB1.out.setCell (p := ⟨TB, 0, none⟩) (by show P0 ≤ TB; omega) _).setCell (p := ⟨TB, 1, none⟩) (by show P0 ≤ TB; omega) _⟩
                case measure => simp [intOf]; omega
              | false =>
                have hcall := bet_at HM.out 0 rr (tp S Wt i) false HRI.out HTN.out hrb
                go_wp2_with (go_at_call 28; refine hcall.mono ?_; rintro e w1 ⟨rfl, hb1⟩)
                have HB1 : Hid (Below P0 w0 w1) := HB.out.trans (hb1.mono (by have := HM.out.p.lt; omega))
                have HM1 : Hid (Mn SB WB P0 BB PB TB n m sc S Wt B' (i + 1) i w1) := HM.out.later o hb1
                go_roundw
                case rel =>
                  refine ⟨i + 1, B', by omega, by go_num, HTR, ⟨HM1.out.s, HM1.out.wt, HM1.out.p, HM1.out.b, HM1.out.pv, ?_⟩, HB1⟩
                  have := HTP.out
                  rw [hrb, if_neg (by simp)] at this
                  rw [this]; exact HM1.out.t
                case measure => simp [intOf]; omega
        · have hvI : (0 : Int) < (v : Int) := by omega
          have hvmI : (v : Int) < (m : Int) + 1 := by omega
          obtain ⟨f', rfl⟩ : ∃ f', f = f' + 1 := ⟨f - 1, by omega⟩
          have hlow := and_low (show v ≤ 512 by omega)
          have hlp := low_pos (show v ≤ 512 by omega) (by omega)
          have b0 := HM.out.b.c0 (show v < m + 1 by omega)
          have b1 := HM.out.b.c1 (show v < m + 1 by omega)
          have hstep : qry (f' + 1) v = v :: qry f' (v - low v) := by rw [qry, if_neg hv0]
          have HST : Hid (qry (f' + 1) v = v :: qry f' (v - low v)) := hstep
          have ev : (v : Int) - (low v : Int) = ((v - low v : Nat) : Int) := by omega
          clear hstep
          cases hrb : rb S (B v) r with
          | true =>
            have hcall := bet_at HM.out 1 (B v) r true (HBN.out v (by omega) (by omega)) Hr.out hrb
            go_wp2
            go_region_held3 (fun w' => w'.cell? ⟨BB, v * 2, none⟩ = some (.int .i64 ((B v).1 : Nat)) ∧ w'.cell? ⟨BB, v * 2 + 1, none⟩ = some (.int .i64 (en (B v).2)) ∧ w'.cell? ⟨RB, 0, none⟩ = some (.int .i64 (r.1 : Nat)) ∧ w'.cell? ⟨RB, 1, none⟩ = some (.int .i64 (en r.2))) (go_keep) ((go_at_call 28; refine hcall.mono ?_; rintro e w1 ⟨rfl, hb1⟩; have d0 := cell_below hb1 b0; have d1 := cell_below hb1 b1; have d2 := cell_below hb1 cR0; have d3 := cell_below hb1 cR1))
            have HM1 : Hid (Mn SB WB P0 BB PB TB n m sc S Wt B i i w1) := HM.out.later o hb1
            have HR1 : Hid (RW w1 RB 85 (two r) 2) := HR.out.later hb1
            have HB1 : Hid (Below P0 w0 w1) := HB.out.trans (hb1.mono (by have := HM.out.p.lt; omega))
            have fR0 := HR1.out.frozen 0
            have fR1 := HR1.out.frozen 1
            clear HM HR HB hcall b0 b1 cR0 cR1 hb1
            go_wp2
            go_roundw
            case rel =>
              refine ⟨v - low v, f', B v, by congr 1, by omega, by omega, HBN.out v (by omega) (by omega), ?_, (HM1.out.set o (a := ⟨RB, 0, none⟩) hTR _).set o (a := ⟨RB, 1, none⟩) hTR _, two_set HR1.out (B v), (HB1.out.setCell (p := ⟨RB, 0, none⟩) (by show P0 ≤ RB; omega) _).setCell (p := ⟨RB, 1, none⟩) (by show P0 ≤ RB; omega) _⟩
              show _ = _
              rw [← HQ.out, HST.out]
              show _ = qF S B (qry f' (v - low v)) (if rb S (B v) r = true then B v else r)
              rw [hrb, if_pos rfl]
            case measure => simp [intOf]; omega
          | false =>
            have hcall := bet_at HM.out 1 (B v) r false (HBN.out v (by omega) (by omega)) Hr.out hrb
            go_wp2
            go_region_held3 (fun w' => w'.cell? ⟨BB, v * 2, none⟩ = some (.int .i64 ((B v).1 : Nat)) ∧ w'.cell? ⟨BB, v * 2 + 1, none⟩ = some (.int .i64 (en (B v).2)) ∧ w'.cell? ⟨RB, 0, none⟩ = some (.int .i64 (r.1 : Nat)) ∧ w'.cell? ⟨RB, 1, none⟩ = some (.int .i64 (en r.2))) (go_keep) ((go_at_call 28; refine hcall.mono ?_; rintro e w1 ⟨rfl, hb1⟩; have d0 := cell_below hb1 b0; have d1 := cell_below hb1 b1; have d2 := cell_below hb1 cR0; have d3 := cell_below hb1 cR1))
            have HM1 : Hid (Mn SB WB P0 BB PB TB n m sc S Wt B i i w1) := HM.out.later o hb1
            have HR1 : Hid (RW w1 RB 85 (two r) 2) := HR.out.later hb1
            have HB1 : Hid (Below P0 w0 w1) := HB.out.trans (hb1.mono (by have := HM.out.p.lt; omega))
            clear HM HR HB hcall b0 b1 cR0 cR1 hb1
            go_wp2
            go_roundw
            case rel =>
              refine ⟨v - low v, f', r, by congr 1, by omega, by omega, Hr, ?_, HM1, HR1, HB1⟩
              show _ = _
              rw [← HQ.out, HST.out]
              show _ = qF S B (qry f' (v - low v)) (if rb S (B v) r = true then B v else r)
              rw [hrb, if_neg (by simp)]
            case measure => simp [intOf]; omega
    · obtain rfl : i = n := by omega
      go_wp2
      rw [hT.out]
      rename World => wz
      exact rise_t w0 P0 wz HB.out (Nat.le_of_lt HM.out.p.lt) PB TB i pc (Pv S Wt) (.int .i64 ((tp S Wt i).1 : Nat)) (tp S Wt i).2 hn (fun x y hy => pv_lt S Wt hy) (fun y hy => tp_lt S Wt hy) (HM.out.pv.congr (fun j hj => by rw [if_pos hj])) HM.out.t

end Go.Proofs.Ybulkdwzg.lawB
