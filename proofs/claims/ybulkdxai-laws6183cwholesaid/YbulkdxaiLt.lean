/-
  THE LAW (3): the targets.
-/
import Derived.Test.YbulkdxaiLn
namespace Go.Proofs.Ybulkdxai
open Go.RowKit

/-- What is made of the arguments ahead of the targets. -/
structure Pre1 (w : World) (R : Rn) (AB : Nat → Bool) (N P Fb n tot : Nat) (aa : Option Addr) (al ac : Nat) : Prop where
  hd : n < 2 ^ 30 ∧ tot < 2 ^ 30 ∧ al < 2 ^ 48
  T : ∀ e, R.T e < n
  F : ∀ v, R.F (v + 1) - R.F v ≤ 7
  F1 : ∀ v, v < n → R.F v ≤ R.F (v + 1) ∧ R.F (v + 1) ≤ tot
  A : R.A = AC al AB
  ha : ∀ ad, aa = some ad → ad.block < w.heap.size
  cP : w.cell? ⟨P, 0, none⟩ = some (.slice aa al ac)
  hP : P < Fb
  br : BR w aa al AB
  ab : ∀ ad, aa = some ad → ad.block < Fb
  hN : N ≤ Fb

set_option maxRecDepth 1000000 in
set_option maxHeartbeats 4000000 in
theorem tail_m (N : Nat) (w0 w : World) (P Fb n tot ns fc bl : Nat) (hbl : bl < 256) (R : Rn) (AB : Nat → Bool) (aa : Option Addr) (al ac : Nat)
    (hB : Below N w0 w) (hp : Pre1 w R AB N P Fb n tot aa al ac) (htot : R.F n = tot) (hrF : RW w Fb 26 (fun v => .int .u32 ((if v < n then R.F v else 0 : Nat) : Int)) (n + 1)) (h0 : 0 < n) (hns : ns < 2 ^ 30)
    (ta : Option Addr) (tgl tac : Nat) (TG : Nat → Nat) (htg : NR .u32 w ta tgl (fun j => (TG j : Int))) (htf : ∀ ad, ta = some ad → ad.block < Fb) (hTG : ∀ j, j < tgl → TG j < 4294967296) (htgl : tgl < 2 ^ 40) (hRT : R.T = fun e => (if 0 < tgl then TG (e % tgl) else e) % n)
    (sa : Option Addr) (sac : Nat) (ST : Nat → Nat) (hst : NR .u32 w sa ns (fun j => (ST j : Int))) (hsf : ∀ ad, sa = some ad → ad.block < Fb) (hST : ∀ j, j < ns → ST j < 4294967296) (hS : R.S = fun j => ST j % n)
    (wa : Option Addr) (swl wac : Nat) (SW : Nat → Nat) (hsw : NR .u64 w wa swl (fun j => (SW j : Int))) (hwf : ∀ ad, wa = some ad → ad.block < Fb) (hswl : swl < 2 ^ 40) (hW : R.W = fun j => if j < swl then SW j else 0) (hW2 : ∀ j, R.W j < 18446744073709551616)
    {c0 c4 c6 c7 c8 c9 c11 c16 c17 c18 c19 c20 c21 c22 c23 c24 c25 c26 c27 c28 c29 c30 c31 c32 c33 c34 c35 c36 c37 c38 c39 c40 c41 c42 c43 c44 c45 c46 c47 c48 c49 c50 c51 c52 c53 c54 c55 c56 c57 c58 c59 c60 c61 c62 c63 c64 c65 c66 c67 c68 c69 c70 c71 c72 c73 c74 c75 c76 c77 c78 c79 c80 c81 c82 c83 c84 c85 c86 c87 c88 c89 c90 c91 c92 c93 c94 c95 c96 c97 c98 c99 c100 c101 c102 c103 c104 c105 c106 c107 c108 c109 c110 c111 c112 c113 c114 c115 c116 c117 c118 c119 c120 c121 c122 c123 c124 c125 c126 c127 c128 c129 c130 c131 c132 c133 c134 c135 c136 c137 c138 c139 c140 c141 c142 c143 c144 c145 c146 c147 c148 c149 c150 c151 c152 c153 c154 c155 c156 c157 c158 c159 c160 c161 c162 c163 c164 c165 c166 c167 c168 c169 c170 c171 c172 c173 c174 c175 c176 c177 c178 c179 c180 c181 c182 c183 c184 c185 c186 c187 c188 c189 c190 c191 c192 c193 c194 c195 c196 c197 c198 c199 c200 c201 c202 c203 c204 c205 c206 c207 c208 c209 c210 c211 c212 c213 c214 c215 c216 c217 c218 c219 c220 c221 c222 c223 c224 c225 c226 c227 c228 c229 c230 c231 c232 c233 c234 c235 c236 c237 c238 c239 c240 c241 c242 c243 c244 c245 c246 c247 c248 c249 c250 c251 c252 c253 c254 c255 c256 c257 c258 c259 c260 c261 c262 c263 c264 c265 c266 c267 c268 c269 c270 c271 c272 c273 c274 c275 c276 c277 c278 c279 c280 c281 c282 c283 c284 c285 c286 c287 c288 c289 c290 c291 c292 c293 c294 c295 c296 c297 c298 c299 c300 c301 c302 c303 c304 c305 c306 c307 c308 c309 c310 c311 c312 c313 c314 c315 c316 c317 c318 c319 c320 c321 c322 c323 c324 c325 c326 c327 c328 c329 c330 c331 c332 c333 c334 c335 c336 c337 c338 c339 c340 c341 c342 c343 c344 c345 c346 c347 c348 c349 c350 c351 c352 c353 c354 c355 c356 c357 c358 c359 c360 c361 c362 c363 c364 c365 c366 c367 c368 c369 c370 c371 c372 c373 c374 c375 c376 c377 c378 c379 c380 c381 c382 c383 c384 c385 c386 c387 c388 c389 c390 : Value} :
    Code.wp Yba.prog (tl 6 (Yba.f3.body.getD .skip)) (bodyPost Yba.prog Yba.f3 fun e w' => e = .returned (.bool true) ∧ Below N w0 w') ⟨#[c0, .slice ta tgl tac, .slice sa ns sac, .slice wa swl wac, c4, .int .u8 (bl : Int), c6, c7, c8, c9, .pointer (some ⟨P, 0, none⟩), c11, .bool false, .int .i64 n, .slice (some ⟨Fb, 0, none⟩) (n + 1) fc, .int .i64 tot, c16, c17, c18, c19, c20, c21, c22, c23, c24, c25, c26, c27, c28, c29, c30, c31, c32, c33, c34, c35, c36, c37, c38, c39, c40, c41, c42, c43, c44, c45, c46, c47, c48, c49, c50, c51, c52, c53, c54, c55, c56, c57, c58, c59, c60, c61, c62, c63, c64, c65, c66, c67, c68, c69, c70, c71, c72, c73, c74, c75, c76, c77, c78, c79, c80, c81, c82, c83, c84, c85, c86, c87, c88, c89, c90, c91, c92, c93, c94, c95, c96, c97, c98, c99, c100, c101, c102, c103, c104, c105, c106, c107, c108, c109, c110, c111, c112, c113, c114, c115, c116, c117, c118, c119, c120, c121, c122, c123, c124, c125, c126, c127, c128, c129, c130, c131, c132, c133, c134, c135, c136, c137, c138, c139, c140, c141, c142, c143, c144, c145, c146, c147, c148, c149, c150, c151, c152, c153, c154, c155, c156, c157, c158, c159, c160, c161, c162, c163, c164, c165, c166, c167, c168, c169, c170, c171, c172, c173, c174, c175, c176, c177, c178, c179, c180, c181, c182, c183, c184, c185, c186, c187, c188, c189, c190, c191, c192, c193, c194, c195, c196, c197, c198, c199, c200, c201, c202, c203, c204, c205, c206, c207, c208, c209, c210, c211, c212, c213, c214, c215, c216, c217, c218, c219, c220, c221, c222, c223, c224, c225, c226, c227, c228, c229, c230, c231, c232, c233, c234, c235, c236, c237, c238, c239, c240, c241, c242, c243, c244, c245, c246, c247, c248, c249, c250, c251, c252, c253, c254, c255, c256, c257, c258, c259, c260, c261, c262, c263, c264, c265, c266, c267, c268, c269, c270, c271, c272, c273, c274, c275, c276, c277, c278, c279, c280, c281, c282, c283, c284, c285, c286, c287, c288, c289, c290, c291, c292, c293, c294, c295, c296, c297, c298, c299, c300, c301, c302, c303, c304, c305, c306, c307, c308, c309, c310, c311, c312, c313, c314, c315, c316, c317, c318, c319, c320, c321, c322, c323, c324, c325, c326, c327, c328, c329, c330, c331, c332, c333, c334, c335, c336, c337, c338, c339, c340, c341, c342, c343, c344, c345, c346, c347, c348, c349, c350, c351, c352, c353, c354, c355, c356, c357, c358, c359, c360, c361, c362, c363, c364, c365, c366, c367, c368, c369, c370, c371, c372, c373, c374, c375, c376, c377, c378, c379, c380, c381, c382, c383, c384, c385, c386, c387, c388, c389, c390], []⟩ w := by
  obtain ⟨T, hT⟩ : ∃ T, T = tl 9 (Yba.f3.body.getD .skip) := ⟨_, rfl⟩
  conv => arg 2; whnf
  refine split3 T hT.symm ?_
  replace hT : Hid (T = tl 9 (Yba.f3.body.getD .skip)) := hT
  obtain ⟨w1, hw1⟩ : ∃ w1, w1 = w.setCell ⟨Fb, n, none⟩ (.int .u32 (tot : Int)) := ⟨_, rfl⟩
  have hz1 : w1.heap.size = w.heap.size := by rw [hw1]; simp [World.setCell]
  have hb1 : Below Fb w w1 := by rw [hw1]; exact (Below.refl Fb w).setCell (p := ⟨Fb, n, none⟩) (Nat.le_refl _) _
  have hrF1 : RW w1 Fb 26 (fun v => .int .u32 (R.F v)) (n + 1) := by
    rw [hw1]
    refine hrF.set (Nat.lt_succ_self _) _ _ ?_
    intro i hi
    by_cases e : i = n
    · subst e; simp [htot]
    · rw [if_neg e, if_pos (by omega)]
  have hfl := hrF.lt
  have nrb : ∀ {k : IntKind} {a : Option Addr} {m : Nat} {Z : Nat → Int}, NR k w a m Z → (∀ ad, a = some ad → ad.block < Fb) → NR k w1 a m Z := fun hn ha h0 => by
    obtain ⟨b1, off, e, hc⟩ := hn h0
    refine ⟨b1, off, e, fun j hj => ?_⟩
    have := ha _ e
    exact (hb1.cell (show (⟨b1, off + j, none⟩ : Addr).block < Fb from this)).trans (hc j hj)
  have HN : Hid (∀ wr, Below w1.heap.size w1 wr → RW wr w1.heap.size 26 (fun v => .int .u32 (R.T v)) tot → Below N w0 wr ∧ Pre0 wr R AB N P Fb w1.heap.size n tot aa al ac ∧ NR .u32 wr sa ns (fun j => (ST j : Int)) ∧ NR .u64 wr wa swl (fun j => (SW j : Int))) := by
    intro wr hb hr
    have hbb : Below Fb w wr := hb1.trans (hb.mono (by omega))
    refine ⟨hB.trans (hbb.mono hp.hN), ⟨hp.hd, hp.T, hp.F, hp.F1, hp.A, fun ad e => Nat.lt_of_lt_of_le (hp.ha ad e) hbb.size, hrF1.later hb hrF1.lt, hr, (hbb.cell (show (⟨P, 0, none⟩ : Addr).block < Fb from hp.hP)).trans hp.cP, fun h0 => ?_, Nat.le_trans hp.hN (Nat.le_trans (Nat.le_of_lt hfl) hbb.size)⟩, (nrb hst hsf).below hb, (nrb hsw hwf).below hb⟩
    obtain ⟨b1, off, e, hc⟩ := hp.br h0
    refine ⟨b1, off, e, fun j hj => ?_⟩
    have := hp.ab _ e
    exact (hbb.cell (show (⟨b1, off + j, none⟩ : Addr).block < Fb from this)).trans (hc j hj)
  have hn := hp.hd.1
  have ht := hp.hd.2.1
  have HTG : Hid (NR .u32 w1 ta tgl (fun j => (TG j : Int))) := nrb htg htf
  have HTG2 : Hid (∀ j, j < tgl → TG j < 4294967296) := hTG
  have HRT : Hid (R.T = fun e => (if 0 < tgl then TG (e % tgl) else e) % n) := hRT
  have HST2 : Hid (∀ j, j < ns → ST j < 4294967296) := hST
  have HS : Hid (R.S = fun j => ST j % n) := hS
  have HW : Hid (R.W = fun j => if j < swl then SW j else 0) := hW
  have HW2 : Hid (∀ j, R.W j < 18446744073709551616) := hW2
  have hmk := mk23 tot (by omega)
  have c1 := hrF.cell (Nat.lt_succ_self n)
  have f1 := hrF.frozen n
  have hnI : (n : Int) < ((n + 1 : Nat) : Int) := by omega
  replace hw1 := hw1.symm
  replace hz1 : Hid (w1.heap.size = w.heap.size) := hz1
  clear hp hB hsw hst hS hW hW2 hST hrF hrF1 htg htf hTG hRT hsf hwf nrb htot
  go_wp2
  go_loopw [19] (fun i wq => ∃ (k : Nat), k ≤ tot ∧ i = .int .i64 k ∧ Hid (RW wq w1.heap.size 26 (fun i => .int .u32 ((if i < k then R.T i else 0 : Nat) : Int)) tot) ∧ Hid (Below w1.heap.size w1 wq)) (fun i _ => tot - (intOf i).toNat)
  case atStart => exact ⟨0, Nat.zero_le _, rfl, (rw_new _ _ _ _).congr (fun j _ => by simp), below_new _ _⟩
  case round =>
    obtain ⟨k, hk, rfl, HR, HBl⟩ := hrel
    by_cases hlt : k < tot
    · have hltI : (k : Int) < (tot : Int) := by omega
      have g2 := HR.out.cell hlt
      have g3 := HR.out.frozen k
      have hn0 : (n : Int) ≠ 0 := by omega
      have hup : ∀ (y : Nat), R.T k = y → ∀ i, i < tot → (if i = k then Value.int .u32 (y : Int) else .int .u32 ((if i < k then R.T i else 0 : Nat) : Int)) = .int .u32 ((if i < k + 1 then R.T i else 0 : Nat) : Int) := by
        intro y hy i _
        by_cases e : i = k
        · subst e; simp [hy]
        · rw [if_neg e]
          by_cases e2 : i < k
          · rw [if_pos e2, if_pos (by omega)]
          · rw [if_neg e2, if_neg (by omega)]
      by_cases hg : 0 < tgl
      · have hgI : (0 : Int) < (tgl : Int) := by omega
        have hg0 : (tgl : Int) ≠ 0 := by omega
        obtain ⟨tb, too, rfl, htc⟩ := HTG.out hg
        have hm : k % tgl < tgl := Nat.mod_lt _ hg
        have hmI : (k : Int).tmod (tgl : Int) = ((k % tgl : Nat) : Int) := by rw [Int.tmod_eq_emod_of_nonneg (by omega)]; simp
        have g1 := cell_below HBl.out (htc _ hm)
        have hs := HTG2.out _ hm
        clear htc
        have hv : R.T k = TG (k % tgl) % n := by rw [HRT.out]; simp only; rw [if_pos hg]
        obtain ⟨s, hs2⟩ : ∃ s, s = TG (k % tgl) := ⟨_, rfl⟩
        simp only [← hs2] at g1 hs hv
        clear hs2
        have HV : Hid (R.T k = s % n) := hv
        clear hv
        replace hup : Hid _ := hup
        have hmod : (s : Int).tmod (n : Int) = ((s % n : Nat) : Int) := by rw [Int.tmod_eq_emod_of_nonneg (by omega)]; simp
        go_wp2
        go_roundw
        case rel => exact ⟨k + 1, by omega, by go_num, HR.out.set hlt _ _ (hup.out _ HV.out), HBl.out.setCell (Nat.le_refl _) _⟩
        case measure => simp [intOf]; omega
      · obtain rfl : tgl = 0 := by omega
        have HV : Hid (R.T k = k % n) := by rw [HRT.out]; exact rfl
        have hmod : (k : Int).tmod (n : Int) = ((k % n : Nat) : Int) := by rw [Int.tmod_eq_emod_of_nonneg (by omega)]; simp
        replace hup : Hid _ := hup
        go_wp2
        go_roundw
        case rel => exact ⟨k + 1, by omega, by go_num, HR.out.set hlt _ _ (hup.out _ HV.out), HBl.out.setCell (Nat.le_refl _) _⟩
        case measure => simp [intOf]; omega
    · obtain rfl : k = tot := by omega
      go_wp2
      rw [hT.out]
      obtain ⟨h1, h2, h3, h4⟩ := HN.out _ HBl.out (HR.out.congr (fun j hj => by rw [if_pos hj]))
      exact tail_n N w0 _ P Fb w1.heap.size n k ns fc k bl hbl R AB aa al ac h1 h2 h0 hns sa sac ST h3 HST2.out HS.out wa swl wac SW h4 hswl HW.out HW2.out

end Go.Proofs.Ybulkdxai
