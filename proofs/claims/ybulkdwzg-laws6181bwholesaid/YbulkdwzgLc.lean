/-
  LawS6181BWhole (4): THE INSERTION SORT; the checks behind the call.
-/
import Derived.Test.YbulkdwzgLk
namespace Go.Proofs.Ybulkdwzg.lawB
open Go.RowKit

/-- What the rest of the law needs: the weights, the run that was got. -/
structure Rs (WSP nw wwc base gn : Nat) (wa : Option Addr) (Z : Nat → Nat) (gv : Value) (gx : List Value) (w : World) : Prop where
  c : w.cell? ⟨WSP, 0, none⟩ = some (.slice wa nw wwc)
  y : BY w wa nw Z
  g : w.ownsRow base 57 2 gv gn gx
theorem Rs.out {WSP nw wwc base gn : Nat} {wa : Option Addr} {Z : Nat → Nat} {gv : Value} {gx : List Value} {w w' : World} {D : Nat → Prop} (h : Rs WSP nw wwc base gn wa Z gv gx w) (o : Out D w w') (h1 : ¬ D WSP) (h2 : 0 < nw → ∀ ad, wa = some ad → ¬ D ad.block) (h3 : ∀ k, gv.ownBlock = some k → ¬ D k) : Rs WSP nw wwc base gn wa Z gv gx w' :=
  ⟨o.cell h.c h1, h.y.out' o h2, own_kept h.g o h3⟩

theorem swap_row {w1 : World} {OB n : Nat} {dj : Array Pr} {y z : Nat} {p q : Pr} (h : R2 w1 OB 57 (fun k => .int .i64 dj[k]!.1) (fun k => .int .i64 dj[k]!.2) n) (hy : y < n) (hz : z < n) (hp : dj[y]! = p) (hq : dj[z]! = q) (hdj : dj.size = n) (hzy : z < y) (o : Obj) :
    R2 (((((w1.setCell ⟨OB, y * 2, none⟩ (.int .i64 q.1)).setCell ⟨OB, y * 2 + 1, none⟩ (.int .i64 q.2)).setCell ⟨OB, z * 2, none⟩ (.int .i64 p.1)).setCell ⟨OB, z * 2 + 1, none⟩ (.int .i64 p.2)).alloc o) OB 57 (fun k => .int .i64 (Sort.swp dj y z)[k]!.1) (fun k => .int .i64 (Sort.swp dj y z)[k]!.2) n := by
  have h1 := R2.set (R2.set h hy (.int .i64 q.1) (.int .i64 q.2)) hz (.int .i64 p.1) (.int .i64 p.2)
  have h2 : R2 ((((w1.setCell ⟨OB, y * 2, none⟩ (.int .i64 q.1)).setCell ⟨OB, y * 2 + 1, none⟩ (.int .i64 q.2)).setCell ⟨OB, z * 2, none⟩ (.int .i64 p.1)).setCell ⟨OB, z * 2 + 1, none⟩ (.int .i64 p.2)) OB 57 (fun k => .int .i64 (Sort.swp dj y z)[k]!.1) (fun k => .int .i64 (Sort.swp dj y z)[k]!.2) n := by
    refine R2.congr h1 (fun j hj => ?_) (fun j hj => ?_)
    · rw [Sort.swp_get dj (by omega) (by omega), hp, hq]
      by_cases e : j = z
      · simp only [e, if_true]
      · by_cases e2 : j = y
        · simp only [e2, if_true]
          rw [if_neg (by omega), if_neg (by omega)]
        · simp only [e, e2, if_false]
    · rw [Sort.swp_get dj (by omega) (by omega), hp, hq]
      by_cases e : j = z
      · simp only [e, if_true]
      · by_cases e2 : j = y
        · simp only [e2, if_true]
          rw [if_neg (by omega), if_neg (by omega)]
        · simp only [e, e2, if_false]
  exact RW.alloc h2 o
theorem swap_out (w1 : World) (OB y z : Nat) (a b c d : Value) (o : Obj) : Out (fun k => k = OB) w1 (((((w1.setCell ⟨OB, y * 2, none⟩ a).setCell ⟨OB, y * 2 + 1, none⟩ b).setCell ⟨OB, z * 2, none⟩ c).setCell ⟨OB, z * 2 + 1, none⟩ d).alloc o) :=
  ((((out_set w1 ⟨OB, y * 2, none⟩ a).trans (out_set _ ⟨OB, y * 2 + 1, none⟩ b) (fun _ _ h => h)).trans (out_set _ ⟨OB, z * 2, none⟩ c) (fun _ _ h => h)).trans (out_set _ ⟨OB, z * 2 + 1, none⟩ d) (fun _ _ h => h)).trans (out_alloc _ _ _) (fun _ _ h => h)

open Go.Sort in
set_option maxRecDepth 1000000 in
set_option maxHeartbeats 8000000 in
theorem law_s (N : Nat) (w0 w : World) (hB : Below N w0 w) (OB WSP n nw wwc base : Nat) (hN : N ≤ OB) (P T : Nat → Pr) (wa : Option Addr) (Z : Nat → Nat) (va : Option Addr) (vc : Nat) (hn : n ≤ 4096) (hnw : nw ≤ 1048576) (hZ : ∀ j, j < nw → Z j < 256) (hT5 : ∀ k, k < n → 0 ≤ (T k).1 ∧ (T k).1 < 512) (hT : Srt P T n)
    (ho : R2 w OB 57 (fun k => .int .i64 (P k).1) (fun k => .int .i64 (P k).2) n) (hr : Rs WSP nw wwc base (CH nw Z T n).length wa Z (.slice va (CH nw Z T n).length vc) (prs ((CH nw Z T n).reverse.map T)) w)
    (n1 : WSP < OB) (n2 : 0 < nw → ∀ ad, wa = some ad → ad.block < OB) (n3 : ∀ k, (Value.slice va (CH nw Z T n).length vc).ownBlock = some k → k < OB) (hva : (CH nw Z T n).length = 0 → va = none ∧ vc = 0)
    {c0 c1 c2 c6 c7 c8 c9 c11 c13 c14 c15 c16 c17 c18 c19 c20 c21 c22 c23 c24 c25 c26 c27 c28 c29 c30 c31 c32 c33 c34 c35 c36 c37 c38 c39 c40 c41 c42 c43 c44 c45 c46 c47 c48 c49 c50 c51 c52 c53 c54 c55 c56 c57 c58 c59 c60 c61 c62 c63 c64 c65 c66 c67 c68 c69 c70 c71 c72 c73 c74 c75 c76 c77 c78 c79 c80 c81 c82 c83 c84 c85 c86 c87 c88 c89 c90 c91 c92 c93 c94 c95 c96 c97 c98 c99 c100 c101 c102 c103 c104 c105 c106 c107 c108 c109 c110 c111 c112 c113 c114 c115 c116 c117 c118 c119 c120 c121 c122 c123 c124 c125 c126 c127 c128 c129 c130 c131 c132 c133 c134 c135 c136 c137 c138 c139 c140 c141 c142 c143 c144 c145 c146 c147 c148 c149 c150 c151 c152 c153 c154 c155 c156 c157 c158 c159 c160 c161 c162 c163 c164 c165 c166 c167 c168 c169 c170 c171 c172 c173 c174 c175 c176 c177 c178 c179 c180 c181 c182 c183 c184 c185 c186 c187 c188 c189 c190 c191 c192 c193 c194 c195 c196 c197 c198 c199 c200 c201 c202 c203 c204 c205 c206 c207 c208 c209 c210 c211 c212 c213 c214 c215 c216 c217 c218 c219 c220 c221 c222 c223 c224 c225 c226 : Value} :
    Code.wp Yba.prog (tl 13 (Yba.f4.body.getD .skip)) (bodyPost Yba.prog Yba.f4 fun x w' => x = .returned (.bool true) ∧ Below N w0 w') ⟨#[c0, c1, c2, .pointer (some ⟨WSP, 0, none⟩), .bool false, .int .i64 (n : Int), c6, c7, c8, c9, .slice va (CH nw Z T n).length vc, c11, .slice (some ⟨OB, 0, none⟩) n n, c13, c14, c15, c16, c17, c18, c19, c20, c21, c22, c23, c24, c25, c26, c27, c28, c29, c30, c31, c32, c33, c34, c35, c36, c37, c38, c39, c40, c41, c42, c43, c44, c45, c46, c47, c48, c49, c50, c51, c52, c53, c54, c55, c56, c57, c58, c59, c60, c61, c62, c63, c64, c65, c66, c67, c68, c69, c70, c71, c72, c73, c74, c75, c76, c77, c78, c79, c80, c81, c82, c83, c84, c85, c86, c87, c88, c89, c90, c91, c92, c93, c94, c95, c96, c97, c98, c99, c100, c101, c102, c103, c104, c105, c106, c107, c108, c109, c110, c111, c112, c113, c114, c115, c116, c117, c118, c119, c120, c121, c122, c123, c124, c125, c126, c127, c128, c129, c130, c131, c132, c133, c134, c135, c136, c137, c138, c139, c140, c141, c142, c143, c144, c145, c146, c147, c148, c149, c150, c151, c152, c153, c154, c155, c156, c157, c158, c159, c160, c161, c162, c163, c164, c165, c166, c167, c168, c169, c170, c171, c172, c173, c174, c175, c176, c177, c178, c179, c180, c181, c182, c183, c184, c185, c186, c187, c188, c189, c190, c191, c192, c193, c194, c195, c196, c197, c198, c199, c200, c201, c202, c203, c204, c205, c206, c207, c208, c209, c210, c211, c212, c213, c214, c215, c216, c217, c218, c219, c220, c221, c222, c223, c224, c225, c226], []⟩ w := by
  obtain ⟨T', hT'⟩ : ∃ T', T' = tl 14 (Yba.f4.body.getD .skip) := ⟨_, rfl⟩
  conv => arg 2; whnf
  refine split1 T' hT'.symm ?_
  replace hT' : Hid (T' = tl 14 (Yba.f4.body.getD .skip)) := hT'
  obtain ⟨d0, hd0⟩ : ∃ d0 : Array Pr, d0 = ((List.range n).map P).toArray := ⟨_, rfl⟩
  have hds : d0.size = n := by rw [hd0]; simp
  have hat : ∀ k, k < n → d0[k]! = P k := fun k hk => by
    rw [hd0, getElem!_pos _ k (by simpa using hk)]; simp
  have HD0 : Hid (d0 = ((List.range n).map P).toArray) := hd0
  have HR0 : Hid (R2 w OB 57 (fun k => .int .i64 d0[k]!.1) (fun k => .int .i64 d0[k]!.2) n) := ho.congr (fun j hj => by rw [hat j hj]) (fun j hj => by rw [hat j hj])
  have HRs : Hid (Rs WSP nw wwc base (CH nw Z T n).length wa Z (.slice va (CH nw Z T n).length vc) (prs ((CH nw Z T n).reverse.map T)) w) := hr
  have HB : Hid (Below N w0 w) := hB
  have HZ : Hid (∀ j, j < nw → Z j < 256) := hZ
  have HT5 : Hid (∀ k, k < n → 0 ≤ (T k).1 ∧ (T k).1 < 512) := hT5
  have HT : Hid (Srt P T n) := hT
  have HN2 : Hid (0 < nw → ∀ ad, wa = some ad → ad.block < OB) := n2
  have HN3 : Hid (∀ k, (Value.slice va (CH nw Z T n).length vc).ownBlock = some k → k < OB) := n3
  have HVA : Hid ((CH nw Z T n).length = 0 → va = none ∧ vc = 0) := hva
  clear hd0 hat ho hr hB hZ hT5 hT n2 n3 hva
  go_wp2
  go_loopw [13] (fun xv wr => ∃ (x : Nat) (dk : Array Pr), xv = .int .i64 x ∧ 1 ≤ x ∧ x ≤ n + 1 ∧ dk.size = n ∧ Hid (R2 wr OB 57 (fun k => .int .i64 dk[k]!.1) (fun k => .int .i64 dk[k]!.2) n) ∧ Hid (Out (fun b => b = OB) w wr) ∧ Hid (insOuter lt 0 n x dk = insOuter lt 0 n 1 d0)) (fun xv _ => n + 1 - (intOf xv).toNat)
  case atStart => exact ⟨1, d0, rfl, by omega, by omega, hds, HR0, Out.refl _ w, rfl⟩
  case round =>
    have HR00 := HR0
    clear HR0
    obtain ⟨x, dk, rfl, hx1, hxn, hdk, HR, HO, HI⟩ := hrel
    by_cases hlt : x < n
    · have hltI : (x : Int) < (n : Int) := by omega
      go_wp2
      go_loopw [14] (fun yv wq => ∃ (y : Nat) (dj : Array Pr), yv = .int .i64 y ∧ y ≤ x ∧ dj.size = n ∧ Hid (R2 wq OB 57 (fun k => .int .i64 dj[k]!.1) (fun k => .int .i64 dj[k]!.2) n) ∧ Hid (Out (fun b => b = OB) w wq) ∧ Hid (insInner lt 0 y dj = insInner lt 0 x dk)) (fun yv _ => (intOf yv).toNat)
      case atStart => exact ⟨x, dk, rfl, Nat.le_refl _, hdk, HR, HO, rfl⟩
      case round =>
        clear HR HO
        obtain ⟨y, dj, rfl, hyx, hdj, HR, HO, HJ⟩ := hrel
        rename World => wq
        have OUT : Hid ((y ≤ 0 ∨ lt dj[y]! dj[y - 1]! = false) → insOuter lt 0 n (x + 1) dj = insOuter lt 0 n 1 d0) := fun h => by
          rw [← HI.out, insOuter_go _ _ _ _ _ hlt, ← HJ.out, insInner_stop _ _ _ _ h]
        by_cases hy0 : y = 0
        · subst hy0
          rw [show ((0 : Nat) : Int) = 0 from rfl]
          go_wp2
          go_quiet (fail)
          go_wp2
          go_roundw
          case rel => exact ⟨x + 1, dj, by go_num, by omega, by omega, hdj, HR, HO.out.trans (out_draw _ _) (fun _ _ h => h.elim), OUT.out (.inl (Nat.le_refl _))⟩
          case measure => simp [intOf]; omega
        · obtain ⟨z, hz⟩ : ∃ z, z = y - 1 := ⟨_, rfl⟩
          have HZY : Hid (z = y - 1) := hz
          have hyI0 : (0 : Int) < (y : Int) := by omega
          have hyI : (y : Int) < (n : Int) := by omega
          have hzI : (z : Int) < (n : Int) := by omega
          rw [← hz] at OUT
          have hyn : y < n := by omega
          have hzn : z < n := by omega
          have hzy : z < y := by omega
          clear hz
          have cy0 := HR.out.c0 hyn
          have cy1 := HR.out.c1 hyn
          have cz0 := HR.out.c0 hzn
          have cz1 := HR.out.c1 hzn
          obtain ⟨p, hp⟩ : ∃ p, dj[y]! = p := ⟨_, rfl⟩
          obtain ⟨q, hq⟩ : ∃ q, dj[z]! = q := ⟨_, rfl⟩
          rw [hp] at cy0 cy1 OUT
          rw [hq] at cz0 cz1 OUT
          have HPp : Hid (dj[y]! = p) := hp
          have HPq : Hid (dj[z]! = q) := hq
          clear hp hq
          have hcall : ∀ v, lt p q = v → ∀ wq : World, Calls Yba.prog 13 #[.agg #[.int .i64 p.1, .int .i64 p.2], .agg #[.int .i64 q.1, .int .i64 q.2]] (wq.drewN 1) fun e w' => e = .returned (.bool v) ∧ Below wq.heap.size wq w' := fun v hv wq => by
            have := less_c p q (wq.drewN 1)
            rw [hv] at this
            exact this.mono fun _ _ ⟨he, hb⟩ => ⟨he, below_draw hb⟩
          cases hlv : lt p q with
          | false =>
            have hc := hcall false hlv wq
            clear hcall
            go_wp2
            have hyp : 0 < y := by omega
            have hd2 : decide ((0 : Int) < (y : Int)) = true := decide_eq_true (by omega)
            have k1 : IntKind.i64.wrap ((y : Int) - 1) = (z : Int) := by have := HZY.out; rw [IntKind.wrap_i64]; omega
            have k3 : (z : Int) < (n : Int) := by omega
            go_region_held3 (fun w' => w'.cell? ⟨OB, y * 2, none⟩ = some (.int .i64 p.1) ∧ w'.cell? ⟨OB, y * 2 + 1, none⟩ = some (.int .i64 p.2) ∧ w'.cell? ⟨OB, z * 2, none⟩ = some (.int .i64 q.1) ∧ w'.cell? ⟨OB, z * 2 + 1, none⟩ = some (.int .i64 q.2)) (go_keep) ((go_at_call 13; refine hc.mono ?_; rintro e w1 ⟨rfl, hb1⟩; have g0 := cell_below hb1 cy0; have g1 := cell_below hb1 cy1; have g2 := cell_below hb1 cz0; have g3 := cell_below hb1 cz1))
            go_wp2
            go_roundw
            case rel => exact ⟨x + 1, dj, by go_num, by omega, by omega, hdj, ((out_below (D := fun _ => False) hb1).block OB HR.out.lt id).trans HR.out, HO.out.trans (out_below (D := fun _ => False) hb1) (fun _ _ h => h.elim), OUT.out (.inr hlv)⟩
            case measure => simp [intOf]; omega
          | true =>
            have hc := hcall true hlv wq
            clear hcall OUT
            go_wp2
            have hyp : 0 < y := by omega
            have hd2 : decide ((0 : Int) < (y : Int)) = true := decide_eq_true (by omega)
            have k1 : IntKind.i64.wrap ((y : Int) - 1) = (z : Int) := by have := HZY.out; rw [IntKind.wrap_i64]; omega
            have k3 : (z : Int) < (n : Int) := by omega
            go_region_held3 (fun w' => w'.cell? ⟨OB, y * 2, none⟩ = some (.int .i64 p.1) ∧ w'.cell? ⟨OB, y * 2 + 1, none⟩ = some (.int .i64 p.2) ∧ w'.cell? ⟨OB, z * 2, none⟩ = some (.int .i64 q.1) ∧ w'.cell? ⟨OB, z * 2 + 1, none⟩ = some (.int .i64 q.2)) (go_keep) ((go_at_call 13; refine hc.mono ?_; rintro e w1 ⟨rfl, hb1⟩; have g0 := cell_below hb1 cy0; have g1 := cell_below hb1 cy1; have g2 := cell_below hb1 cz0; have g3 := cell_below hb1 cz1))
            have hR1 : R2 w1 OB 57 (fun k => .int .i64 dj[k]!.1) (fun k => .int .i64 dj[k]!.2) n := ((out_below (D := fun _ => False) hb1).block OB HR.out.lt id).trans HR.out
            have HR1 : Hid (R2 w1 OB 57 (fun k => .int .i64 dj[k]!.1) (fun k => .int .i64 dj[k]!.2) n) := hR1
            have HO1 : Hid (Out (fun b => b = OB) w w1) := HO.out.trans (out_below (D := fun _ => False) hb1) (fun _ _ h => h.elim)
            have hob : OB < w1.heap.size := hR1.lt
            have hne : OB ≠ w1.heap.size := by omega
            have hne2 : w1.heap.size ≠ OB := by omega
            have f1 : ∀ k, w1.frozen? ⟨OB, k, none⟩ = false := fun k => RW.frozen hR1 k
            clear hR1 hb1 hc cy0 cy1 cz0 cz1
            go_wp2
            go_roundw
            case rel =>
              have hzy' := HZY.out
              have h1 := insInner_go lt 0 y dj (by omega) (by rw [← hzy', HPp.out, HPq.out]; exact hlv)
              rw [← hzy'] at h1
              exact ⟨z, Sort.swp dj y z, rfl, by omega, by rw [Sort.size_swp]; exact hdj, swap_row HR1.out hyn hzn HPp.out HPq.out hdj hzy _, HO1.out.trans (swap_out w1 OB y z _ _ _ _ _) (fun _ _ h => h), (show _ = _ from h1.symm.trans HJ.out)⟩
            case measure => simp [intOf]; omega
    · have hnI : ¬ (x : Int) < (n : Int) := by omega
      go_wp2
      rw [hT'.out]
      rename World => wz
      have hdf : dk = Sort.insertionSort lt d0 0 n := by
        have := HI.out
        rw [insOuter_stop _ _ _ _ _ hlt] at this
        exact this
      have hh := insertionSort_holds (lt := lt) (swo_lt (fun p : Pr => p)) d0 0 n (Nat.zero_le _) (by omega)
      rw [← hdf] at hh
      have hu := srt_uniq HT.out dk (by rw [← HD0.out]; exact hh.1) hh.2
      have hrs := HRs.out.out HO.out (by omega) (fun h0 ad had => by have := HN2.out h0 ad had; omega) (fun k hk => by have := HN3.out k hk; omega)
      exact law_b N w0 wz (below_out HB.out HO.out (fun k hk => by omega) (by have := HR00.out.lt; omega)) (by have := HR.out.lt; omega) OB WSP n n nw wwc base T wa Z va vc hn hnw HZ.out HT5.out (HR.out.congr (fun j hj => by rw [hu j hj]) (fun j hj => by rw [hu j hj])) hrs.c hrs.y hrs.g HVA.out

end Go.Proofs.Ybulkdwzg.lawB
