/-
  THE LAW (3): the starts.
-/
import Derived.Test.YbulkdxaiLo
namespace Go.Proofs.Ybulkdxai
open Go.RowKit

/-- What is made of the arguments ahead of the starts. -/
structure Pre0 (w : World) (R : Rn) (AB : Nat → Bool) (N P Fb Tb n tot : Nat) (aa : Option Addr) (al ac : Nat) : Prop where
  hd : n < 2 ^ 30 ∧ tot < 2 ^ 30 ∧ al < 2 ^ 48
  T : ∀ e, R.T e < n
  F : ∀ v, R.F (v + 1) - R.F v ≤ 7
  F1 : ∀ v, v < n → R.F v ≤ R.F (v + 1) ∧ R.F (v + 1) ≤ tot
  A : R.A = AC al AB
  ha : ∀ ad, aa = some ad → ad.block < w.heap.size
  rF : RW w Fb 26 (fun v => .int .u32 (R.F v)) (n + 1)
  rT : RW w Tb 26 (fun v => .int .u32 (R.T v)) tot
  cP : w.cell? ⟨P, 0, none⟩ = some (.slice aa al ac)
  br : BR w aa al AB
  hN : N ≤ w.heap.size

set_option maxRecDepth 1000000 in
set_option maxHeartbeats 4000000 in
theorem tail_n (N : Nat) (w0 w : World) (P Fb Tb n tot ns fc tc bl : Nat) (hbl : bl < 256) (R : Rn) (AB : Nat → Bool) (aa : Option Addr) (al ac : Nat)
    (hB : Below N w0 w) (hp : Pre0 w R AB N P Fb Tb n tot aa al ac) (h0 : 0 < n) (hns : ns < 2 ^ 30) (sa : Option Addr) (sac : Nat) (ST : Nat → Nat) (hst : NR .u32 w sa ns (fun j => (ST j : Int))) (hST : ∀ j, j < ns → ST j < 4294967296) (hS : R.S = fun j => ST j % n)
    (wa : Option Addr) (swl wac : Nat) (SW : Nat → Nat) (hsw : NR .u64 w wa swl (fun j => (SW j : Int))) (hswl : swl < 2 ^ 40) (hW : R.W = fun j => if j < swl then SW j else 0) (hW2 : ∀ j, R.W j < 18446744073709551616)
    {c0 c1 c4 c6 c7 c8 c9 c11 c15 c16 c17 c19 c20 c21 c22 c23 c24 c25 c26 c27 c28 c29 c30 c31 c32 c33 c34 c35 c36 c37 c38 c39 c40 c41 c42 c43 c44 c45 c46 c47 c48 c49 c50 c51 c52 c53 c54 c55 c56 c57 c58 c59 c60 c61 c62 c63 c64 c65 c66 c67 c68 c69 c70 c71 c72 c73 c74 c75 c76 c77 c78 c79 c80 c81 c82 c83 c84 c85 c86 c87 c88 c89 c90 c91 c92 c93 c94 c95 c96 c97 c98 c99 c100 c101 c102 c103 c104 c105 c106 c107 c108 c109 c110 c111 c112 c113 c114 c115 c116 c117 c118 c119 c120 c121 c122 c123 c124 c125 c126 c127 c128 c129 c130 c131 c132 c133 c134 c135 c136 c137 c138 c139 c140 c141 c142 c143 c144 c145 c146 c147 c148 c149 c150 c151 c152 c153 c154 c155 c156 c157 c158 c159 c160 c161 c162 c163 c164 c165 c166 c167 c168 c169 c170 c171 c172 c173 c174 c175 c176 c177 c178 c179 c180 c181 c182 c183 c184 c185 c186 c187 c188 c189 c190 c191 c192 c193 c194 c195 c196 c197 c198 c199 c200 c201 c202 c203 c204 c205 c206 c207 c208 c209 c210 c211 c212 c213 c214 c215 c216 c217 c218 c219 c220 c221 c222 c223 c224 c225 c226 c227 c228 c229 c230 c231 c232 c233 c234 c235 c236 c237 c238 c239 c240 c241 c242 c243 c244 c245 c246 c247 c248 c249 c250 c251 c252 c253 c254 c255 c256 c257 c258 c259 c260 c261 c262 c263 c264 c265 c266 c267 c268 c269 c270 c271 c272 c273 c274 c275 c276 c277 c278 c279 c280 c281 c282 c283 c284 c285 c286 c287 c288 c289 c290 c291 c292 c293 c294 c295 c296 c297 c298 c299 c300 c301 c302 c303 c304 c305 c306 c307 c308 c309 c310 c311 c312 c313 c314 c315 c316 c317 c318 c319 c320 c321 c322 c323 c324 c325 c326 c327 c328 c329 c330 c331 c332 c333 c334 c335 c336 c337 c338 c339 c340 c341 c342 c343 c344 c345 c346 c347 c348 c349 c350 c351 c352 c353 c354 c355 c356 c357 c358 c359 c360 c361 c362 c363 c364 c365 c366 c367 c368 c369 c370 c371 c372 c373 c374 c375 c376 c377 c378 c379 c380 c381 c382 c383 c384 c385 c386 c387 c388 c389 c390 : Value} :
    Code.wp Yba.prog (tl 9 (Yba.f3.body.getD .skip)) (bodyPost Yba.prog Yba.f3 fun e w' => e = .returned (.bool true) ∧ Below N w0 w') ⟨#[c0, c1, .slice sa ns sac, .slice wa swl wac, c4, .int .u8 (bl : Int), c6, c7, c8, c9, .pointer (some ⟨P, 0, none⟩), c11, .bool false, .int .i64 n, .slice (some ⟨Fb, 0, none⟩) (n + 1) fc, c15, c16, c17, .slice (some ⟨Tb, 0, none⟩) tot tc, c19, c20, c21, c22, c23, c24, c25, c26, c27, c28, c29, c30, c31, c32, c33, c34, c35, c36, c37, c38, c39, c40, c41, c42, c43, c44, c45, c46, c47, c48, c49, c50, c51, c52, c53, c54, c55, c56, c57, c58, c59, c60, c61, c62, c63, c64, c65, c66, c67, c68, c69, c70, c71, c72, c73, c74, c75, c76, c77, c78, c79, c80, c81, c82, c83, c84, c85, c86, c87, c88, c89, c90, c91, c92, c93, c94, c95, c96, c97, c98, c99, c100, c101, c102, c103, c104, c105, c106, c107, c108, c109, c110, c111, c112, c113, c114, c115, c116, c117, c118, c119, c120, c121, c122, c123, c124, c125, c126, c127, c128, c129, c130, c131, c132, c133, c134, c135, c136, c137, c138, c139, c140, c141, c142, c143, c144, c145, c146, c147, c148, c149, c150, c151, c152, c153, c154, c155, c156, c157, c158, c159, c160, c161, c162, c163, c164, c165, c166, c167, c168, c169, c170, c171, c172, c173, c174, c175, c176, c177, c178, c179, c180, c181, c182, c183, c184, c185, c186, c187, c188, c189, c190, c191, c192, c193, c194, c195, c196, c197, c198, c199, c200, c201, c202, c203, c204, c205, c206, c207, c208, c209, c210, c211, c212, c213, c214, c215, c216, c217, c218, c219, c220, c221, c222, c223, c224, c225, c226, c227, c228, c229, c230, c231, c232, c233, c234, c235, c236, c237, c238, c239, c240, c241, c242, c243, c244, c245, c246, c247, c248, c249, c250, c251, c252, c253, c254, c255, c256, c257, c258, c259, c260, c261, c262, c263, c264, c265, c266, c267, c268, c269, c270, c271, c272, c273, c274, c275, c276, c277, c278, c279, c280, c281, c282, c283, c284, c285, c286, c287, c288, c289, c290, c291, c292, c293, c294, c295, c296, c297, c298, c299, c300, c301, c302, c303, c304, c305, c306, c307, c308, c309, c310, c311, c312, c313, c314, c315, c316, c317, c318, c319, c320, c321, c322, c323, c324, c325, c326, c327, c328, c329, c330, c331, c332, c333, c334, c335, c336, c337, c338, c339, c340, c341, c342, c343, c344, c345, c346, c347, c348, c349, c350, c351, c352, c353, c354, c355, c356, c357, c358, c359, c360, c361, c362, c363, c364, c365, c366, c367, c368, c369, c370, c371, c372, c373, c374, c375, c376, c377, c378, c379, c380, c381, c382, c383, c384, c385, c386, c387, c388, c389, c390], []⟩ w := by
  obtain ⟨T, hT⟩ : ∃ T, T = tl 11 (Yba.f3.body.getD .skip) := ⟨_, rfl⟩
  conv => arg 2; whnf
  refine split2 T hT.symm ?_
  replace hT : Hid (T = tl 11 (Yba.f3.body.getD .skip)) := hT
  have HN : Hid (∀ wr, Below w.heap.size w wr → RW wr w.heap.size 26 (fun v => .int .u32 (R.S v)) ns → Below N w0 wr ∧ Pre wr R AB N P Fb Tb w.heap.size n tot ns aa al ac ∧ NR .u64 wr wa swl (fun j => (SW j : Int))) := by
    intro wr hb hr
    refine ⟨hB.trans (hb.mono hp.hN), ⟨⟨hp.hd.1, hp.hd.2.1, hns, hp.hd.2.2⟩, fun j => by rw [hS]; exact Nat.mod_lt _ h0, hp.T, hp.F, hp.F1, hp.A, fun ad e => Nat.lt_of_lt_of_le (hp.ha ad e) hb.size, hp.rF.later hb hp.rF.lt, hp.rT.later hb hp.rT.lt, hr, cell_below hb hp.cP, fun h0 => ?_, Nat.le_trans hp.hN hb.size⟩, hsw.below hb⟩
    obtain ⟨b1, off, e, hc⟩ := hp.br h0
    exact ⟨b1, off, e, fun j hj => cell_below hb (hc j hj)⟩
  have hn := hp.hd.1
  have HST : Hid (NR .u32 w sa ns (fun j => (ST j : Int))) := hst
  have HST2 : Hid (∀ j, j < ns → ST j < 4294967296) := hST
  have HS : Hid (R.S = fun j => ST j % n) := hS
  have HW : Hid (R.W = fun j => if j < swl then SW j else 0) := hW
  have HW2 : Hid (∀ j, R.W j < 18446744073709551616) := hW2
  have hmk := mk23 ns (by omega)
  clear hp hB hsw hst hS hW hW2 hST
  go_wp2
  go_loopw [22] (fun i wq => ∃ (k : Nat), k ≤ ns ∧ i = .int .i64 k ∧ Hid (RW wq w.heap.size 26 (fun i => .int .u32 ((if i < k then ST i % n else 0 : Nat) : Int)) ns) ∧ Hid (Below w.heap.size w wq)) (fun i _ => ns - (intOf i).toNat)
  case atStart => exact ⟨0, Nat.zero_le _, rfl, (rw_new _ _ _ _).congr (fun j _ => by simp), below_new _ _⟩
  case round =>
    obtain ⟨k, hk, rfl, HR, HBl⟩ := hrel
    by_cases hlt : k < ns
    · have hltI : (k : Int) < (ns : Int) := by omega
      obtain ⟨sb, so, rfl, hsc⟩ := HST.out (by omega)
      have g1 := cell_below HBl.out (hsc k hlt)
      have hs := HST2.out k hlt
      clear hsc
      obtain ⟨s, hs2⟩ : ∃ s, s = ST k := ⟨_, rfl⟩
      simp only [← hs2] at g1 hs
      have HSk : Hid (s = ST k) := hs2
      clear hs2
      have g2 := HR.out.cell hlt
      have g3 := HR.out.frozen k
      have hn0 : (n : Int) ≠ 0 := by omega
      have hmod : (s : Int).tmod (n : Int) = ((s % n : Nat) : Int) := by rw [Int.tmod_eq_emod_of_nonneg (by omega)]; simp
      go_wp2
      go_roundw
      case rel =>
        refine ⟨k + 1, by omega, by go_num, HR.out.set hlt _ _ ?_, HBl.out.setCell (Nat.le_refl _) _⟩
        intro i _
        by_cases e : i = k
        · subst e; simp [← HSk.out]
        · rw [if_neg e]
          by_cases e2 : i < k
          · rw [if_pos e2, if_pos (by omega)]
          · rw [if_neg e2, if_neg (by omega)]
      case measure => simp [intOf]; omega
    · obtain rfl : k = ns := by omega
      go_wp2
      rw [hT.out]
      obtain ⟨h1, h2, h3⟩ := HN.out _ HBl.out (HR.out.congr (fun j hj => by rw [if_pos hj, HS.out]))
      exact tail_o N w0 _ P Fb Tb w.heap.size n tot k fc tc k bl hbl R AB aa al ac h1 h2 wa swl wac SW h3 hswl HW.out HW2.out

end Go.Proofs.Ybulkdxai
