/-
  THE LAW (3): the starts' copy, the seen words.
-/
import Derived.Test.YbulkdxaiLp
namespace Go.Proofs.Ybulkdxai
open Go.RowKit

/-- What is made of the arguments ahead of the copy. -/
structure Pre (w : World) (R : Rn) (AB : Nat → Bool) (N P Fb Tb Sx n tot ns : Nat) (aa : Option Addr) (al ac : Nat) : Prop where
  hd : n < 2 ^ 30 ∧ tot < 2 ^ 30 ∧ ns < 2 ^ 30 ∧ al < 2 ^ 48
  S : ∀ j, R.S j < n
  T : ∀ e, R.T e < n
  F : ∀ v, R.F (v + 1) - R.F v ≤ 7
  F1 : ∀ v, v < n → R.F v ≤ R.F (v + 1) ∧ R.F (v + 1) ≤ tot
  A : R.A = AC al AB
  ha : ∀ ad, aa = some ad → ad.block < w.heap.size
  rF : RW w Fb 26 (fun v => .int .u32 (R.F v)) (n + 1)
  rT : RW w Tb 26 (fun v => .int .u32 (R.T v)) tot
  rS : RW w Sx 26 (fun v => .int .u32 (R.S v)) ns
  cP : w.cell? ⟨P, 0, none⟩ = some (.slice aa al ac)
  br : BR w aa al AB
  hN : N ≤ w.heap.size

set_option maxRecDepth 1000000 in
set_option maxHeartbeats 4000000 in
theorem tail_o (N : Nat) (w0 w : World) (P Fb Tb Sx n tot ns fc tc sc bl : Nat) (hbl : bl < 256) (R : Rn) (AB : Nat → Bool) (aa : Option Addr) (al ac : Nat)
    (hB : Below N w0 w) (hp : Pre w R AB N P Fb Tb Sx n tot ns aa al ac) (wa : Option Addr) (swl wac : Nat) (SW : Nat → Nat) (hsw : NR .u64 w wa swl (fun j => (SW j : Int))) (hswl : swl < 2 ^ 40) (hW : R.W = fun j => if j < swl then SW j else 0) (hW2 : ∀ j, R.W j < 18446744073709551616)
    {c0 c1 c2 c4 c6 c7 c8 c9 c11 c15 c16 c17 c19 c20 c22 c23 c24 c25 c26 c27 c28 c29 c30 c31 c32 c33 c34 c35 c36 c37 c38 c39 c40 c41 c42 c43 c44 c45 c46 c47 c48 c49 c50 c51 c52 c53 c54 c55 c56 c57 c58 c59 c60 c61 c62 c63 c64 c65 c66 c67 c68 c69 c70 c71 c72 c73 c74 c75 c76 c77 c78 c79 c80 c81 c82 c83 c84 c85 c86 c87 c88 c89 c90 c91 c92 c93 c94 c95 c96 c97 c98 c99 c100 c101 c102 c103 c104 c105 c106 c107 c108 c109 c110 c111 c112 c113 c114 c115 c116 c117 c118 c119 c120 c121 c122 c123 c124 c125 c126 c127 c128 c129 c130 c131 c132 c133 c134 c135 c136 c137 c138 c139 c140 c141 c142 c143 c144 c145 c146 c147 c148 c149 c150 c151 c152 c153 c154 c155 c156 c157 c158 c159 c160 c161 c162 c163 c164 c165 c166 c167 c168 c169 c170 c171 c172 c173 c174 c175 c176 c177 c178 c179 c180 c181 c182 c183 c184 c185 c186 c187 c188 c189 c190 c191 c192 c193 c194 c195 c196 c197 c198 c199 c200 c201 c202 c203 c204 c205 c206 c207 c208 c209 c210 c211 c212 c213 c214 c215 c216 c217 c218 c219 c220 c221 c222 c223 c224 c225 c226 c227 c228 c229 c230 c231 c232 c233 c234 c235 c236 c237 c238 c239 c240 c241 c242 c243 c244 c245 c246 c247 c248 c249 c250 c251 c252 c253 c254 c255 c256 c257 c258 c259 c260 c261 c262 c263 c264 c265 c266 c267 c268 c269 c270 c271 c272 c273 c274 c275 c276 c277 c278 c279 c280 c281 c282 c283 c284 c285 c286 c287 c288 c289 c290 c291 c292 c293 c294 c295 c296 c297 c298 c299 c300 c301 c302 c303 c304 c305 c306 c307 c308 c309 c310 c311 c312 c313 c314 c315 c316 c317 c318 c319 c320 c321 c322 c323 c324 c325 c326 c327 c328 c329 c330 c331 c332 c333 c334 c335 c336 c337 c338 c339 c340 c341 c342 c343 c344 c345 c346 c347 c348 c349 c350 c351 c352 c353 c354 c355 c356 c357 c358 c359 c360 c361 c362 c363 c364 c365 c366 c367 c368 c369 c370 c371 c372 c373 c374 c375 c376 c377 c378 c379 c380 c381 c382 c383 c384 c385 c386 c387 c388 c389 c390 : Value} :
    Code.wp Yba.prog (tl 11 (Yba.f3.body.getD .skip)) (bodyPost Yba.prog Yba.f3 fun e w' => e = .returned (.bool true) ∧ Below N w0 w') ⟨#[c0, c1, c2, .slice wa swl wac, c4, .int .u8 (bl : Int), c6, c7, c8, c9, .pointer (some ⟨P, 0, none⟩), c11, .bool false, .int .i64 n, .slice (some ⟨Fb, 0, none⟩) (n + 1) fc, c15, c16, c17, .slice (some ⟨Tb, 0, none⟩) tot tc, c19, c20, .slice (some ⟨Sx, 0, none⟩) ns sc, c22, c23, c24, c25, c26, c27, c28, c29, c30, c31, c32, c33, c34, c35, c36, c37, c38, c39, c40, c41, c42, c43, c44, c45, c46, c47, c48, c49, c50, c51, c52, c53, c54, c55, c56, c57, c58, c59, c60, c61, c62, c63, c64, c65, c66, c67, c68, c69, c70, c71, c72, c73, c74, c75, c76, c77, c78, c79, c80, c81, c82, c83, c84, c85, c86, c87, c88, c89, c90, c91, c92, c93, c94, c95, c96, c97, c98, c99, c100, c101, c102, c103, c104, c105, c106, c107, c108, c109, c110, c111, c112, c113, c114, c115, c116, c117, c118, c119, c120, c121, c122, c123, c124, c125, c126, c127, c128, c129, c130, c131, c132, c133, c134, c135, c136, c137, c138, c139, c140, c141, c142, c143, c144, c145, c146, c147, c148, c149, c150, c151, c152, c153, c154, c155, c156, c157, c158, c159, c160, c161, c162, c163, c164, c165, c166, c167, c168, c169, c170, c171, c172, c173, c174, c175, c176, c177, c178, c179, c180, c181, c182, c183, c184, c185, c186, c187, c188, c189, c190, c191, c192, c193, c194, c195, c196, c197, c198, c199, c200, c201, c202, c203, c204, c205, c206, c207, c208, c209, c210, c211, c212, c213, c214, c215, c216, c217, c218, c219, c220, c221, c222, c223, c224, c225, c226, c227, c228, c229, c230, c231, c232, c233, c234, c235, c236, c237, c238, c239, c240, c241, c242, c243, c244, c245, c246, c247, c248, c249, c250, c251, c252, c253, c254, c255, c256, c257, c258, c259, c260, c261, c262, c263, c264, c265, c266, c267, c268, c269, c270, c271, c272, c273, c274, c275, c276, c277, c278, c279, c280, c281, c282, c283, c284, c285, c286, c287, c288, c289, c290, c291, c292, c293, c294, c295, c296, c297, c298, c299, c300, c301, c302, c303, c304, c305, c306, c307, c308, c309, c310, c311, c312, c313, c314, c315, c316, c317, c318, c319, c320, c321, c322, c323, c324, c325, c326, c327, c328, c329, c330, c331, c332, c333, c334, c335, c336, c337, c338, c339, c340, c341, c342, c343, c344, c345, c346, c347, c348, c349, c350, c351, c352, c353, c354, c355, c356, c357, c358, c359, c360, c361, c362, c363, c364, c365, c366, c367, c368, c369, c370, c371, c372, c373, c374, c375, c376, c377, c378, c379, c380, c381, c382, c383, c384, c385, c386, c387, c388, c389, c390], []⟩ w := by
  obtain ⟨T, hT⟩ : ∃ T, T = tl 16 (Yba.f3.body.getD .skip) := ⟨_, rfl⟩
  conv => arg 2; whnf
  refine split5 T hT.symm ?_
  replace hT : Hid (T = tl 16 (Yba.f3.body.getD .skip)) := hT
  obtain ⟨wn, hwn⟩ : ∃ wn, wn = (n + 63) / 64 := ⟨_, rfl⟩
  have hn := hp.hd.1
  have hns := hp.hd.2.2.1
  have hwn1 : wn < 2 ^ 30 := by omega
  have hwn2 : n ≤ wn * 64 := by omega
  have hq : ((n : Int) + 63).tdiv 64 = (wn : Int) := by rw [Int.tdiv_eq_ediv_of_nonneg (by omega)]; omega
  clear hwn
  have HEND : Hid (∀ (g cc Sb : Nat) (w1 wr : World), w.heap.size ≤ g → g < w1.heap.size → Sb = w1.heap.size → w1.ownsRow w.heap.size 26 1 (.slice (some ⟨g, 0, none⟩) ns cc) ns (rowL (fun v => .int .u32 (R.S v)) ns) → Below w.heap.size w w1 → Below w1.heap.size w1 wr → w1.heap.size + 1 < wr.heap.size →
      RW wr Sb 29 (fun j => .int .u64 (R.W j)) wn → RW wr (Sb + 1) 29 (fun j => .int .u64 (R.W j)) wn → ∀ {d0 d1 d2 d3 d4 d6 d7 d8 d9 d11 d15 d16 d17 d19 d20 d22 d27 d28 d29 d30 d31 d32 d33 d34 d35 d36 d37 d38 d39 d40 d41 d42 d43 d44 d45 d46 d47 d48 d49 d50 d51 d52 d53 d54 d55 d56 d57 d58 d59 d60 d61 d62 d63 d64 d65 d66 d67 d68 d69 d70 d71 d72 d73 d74 d75 d76 d77 d78 d79 d80 d81 d82 d83 d84 d85 d86 d87 d88 d89 d90 d91 d92 d93 d94 d95 d96 d97 d98 d99 d100 d101 d102 d103 d104 d105 d106 d107 d108 d109 d110 d111 d112 d113 d114 d115 d116 d117 d118 d119 d120 d121 d122 d123 d124 d125 d126 d127 d128 d129 d130 d131 d132 d133 d134 d135 d136 d137 d138 d139 d140 d141 d142 d143 d144 d145 d146 d147 d148 d149 d150 d151 d152 d153 d154 d155 d156 d157 d158 d159 d160 d161 d162 d163 d164 d165 d166 d167 d168 d169 d170 d171 d172 d173 d174 d175 d176 d177 d178 d179 d180 d181 d182 d183 d184 d185 d186 d187 d188 d189 d190 d191 d192 d193 d194 d195 d196 d197 d198 d199 d200 d201 d202 d203 d204 d205 d206 d207 d208 d209 d210 d211 d212 d213 d214 d215 d216 d217 d218 d219 d220 d221 d222 d223 d224 d225 d226 d227 d228 d229 d230 d231 d232 d233 d234 d235 d236 d237 d238 d239 d240 d241 d242 d243 d244 d245 d246 d247 d248 d249 d250 d251 d252 d253 d254 d255 d256 d257 d258 d259 d260 d261 d262 d263 d264 d265 d266 d267 d268 d269 d270 d271 d272 d273 d274 d275 d276 d277 d278 d279 d280 d281 d282 d283 d284 d285 d286 d287 d288 d289 d290 d291 d292 d293 d294 d295 d296 d297 d298 d299 d300 d301 d302 d303 d304 d305 d306 d307 d308 d309 d310 d311 d312 d313 d314 d315 d316 d317 d318 d319 d320 d321 d322 d323 d324 d325 d326 d327 d328 d329 d330 d331 d332 d333 d334 d335 d336 d337 d338 d339 d340 d341 d342 d343 d344 d345 d346 d347 d348 d349 d350 d351 d352 d353 d354 d355 d356 d357 d358 d359 d360 d361 d362 d363 d364 d365 d366 d367 d368 d369 d370 d371 d372 d373 d374 d375 d376 d377 d378 d379 d380 d381 d382 d383 d384 d385 d386 d387 d388 d389 d390 : Value}, Code.wp Yba.prog (tl 16 (Yba.f3.body.getD .skip)) (bodyPost Yba.prog Yba.f3 fun e w' => e = .returned (.bool true) ∧ Below N w0 w') ⟨#[d0, d1, d2, d3, d4, .int .u8 (bl : Int), d6, d7, d8, d9, .pointer (some ⟨P, 0, none⟩), d11, .bool false, .int .i64 n, .slice (some ⟨Fb, 0, none⟩) (n + 1) fc, d15, d16, d17, .slice (some ⟨Tb, 0, none⟩) tot tc, d19, d20, .slice (some ⟨Sx, 0, none⟩) ns sc, d22, .slice (some ⟨g, 0, none⟩) ns cc, .int .i64 wn, .slice (some ⟨Sb, 0, none⟩) wn wn, .slice (some ⟨Sb + 1, 0, none⟩) wn wn, d27, d28, d29, d30, d31, d32, d33, d34, d35, d36, d37, d38, d39, d40, d41, d42, d43, d44, d45, d46, d47, d48, d49, d50, d51, d52, d53, d54, d55, d56, d57, d58, d59, d60, d61, d62, d63, d64, d65, d66, d67, d68, d69, d70, d71, d72, d73, d74, d75, d76, d77, d78, d79, d80, d81, d82, d83, d84, d85, d86, d87, d88, d89, d90, d91, d92, d93, d94, d95, d96, d97, d98, d99, d100, d101, d102, d103, d104, d105, d106, d107, d108, d109, d110, d111, d112, d113, d114, d115, d116, d117, d118, d119, d120, d121, d122, d123, d124, d125, d126, d127, d128, d129, d130, d131, d132, d133, d134, d135, d136, d137, d138, d139, d140, d141, d142, d143, d144, d145, d146, d147, d148, d149, d150, d151, d152, d153, d154, d155, d156, d157, d158, d159, d160, d161, d162, d163, d164, d165, d166, d167, d168, d169, d170, d171, d172, d173, d174, d175, d176, d177, d178, d179, d180, d181, d182, d183, d184, d185, d186, d187, d188, d189, d190, d191, d192, d193, d194, d195, d196, d197, d198, d199, d200, d201, d202, d203, d204, d205, d206, d207, d208, d209, d210, d211, d212, d213, d214, d215, d216, d217, d218, d219, d220, d221, d222, d223, d224, d225, d226, d227, d228, d229, d230, d231, d232, d233, d234, d235, d236, d237, d238, d239, d240, d241, d242, d243, d244, d245, d246, d247, d248, d249, d250, d251, d252, d253, d254, d255, d256, d257, d258, d259, d260, d261, d262, d263, d264, d265, d266, d267, d268, d269, d270, d271, d272, d273, d274, d275, d276, d277, d278, d279, d280, d281, d282, d283, d284, d285, d286, d287, d288, d289, d290, d291, d292, d293, d294, d295, d296, d297, d298, d299, d300, d301, d302, d303, d304, d305, d306, d307, d308, d309, d310, d311, d312, d313, d314, d315, d316, d317, d318, d319, d320, d321, d322, d323, d324, d325, d326, d327, d328, d329, d330, d331, d332, d333, d334, d335, d336, d337, d338, d339, d340, d341, d342, d343, d344, d345, d346, d347, d348, d349, d350, d351, d352, d353, d354, d355, d356, d357, d358, d359, d360, d361, d362, d363, d364, d365, d366, d367, d368, d369, d370, d371, d372, d373, d374, d375, d376, d377, d378, d379, d380, d381, d382, d383, d384, d385, d386, d387, d388, d389, d390], []⟩ wr) := by
    intro g cc Sb w1 wr hg1 hg2 hSb hown hb1 hb2 hz hrs hrb
    intros
    have hb : Below w.heap.size w wr := hb1.trans (hb2.mono hb1.size)
    have hsz := hb1.size
    have hlt : ∀ k, k < w.heap.size → k < wr.heap.size ∧ k ≠ Sb := fun k hk => by omega
    have hcell := World.block_lt_of_cell? w _ hp.cP
    simp only at hcell
    refine tail_p N w0 wr (some ⟨g, 0, none⟩) P Fb Tb Sx Sb (Sb + 1) n tot ns wn fc tc sc cc wn wn bl hbl (by omega) R AB aa al ac (hB.trans (hb.mono hp.hN)) ⟨by have := hp.hN; omega, by have := hp.hN; omega⟩ ⟨hp.hd.1, hp.hd.2.1, hp.hd.2.2.1, hwn2, hp.hd.2.2.2⟩ ⟨hW2, hp.S, hp.T, hp.F, hp.F1⟩ hp.A ?_ ?_ (fun ad e => hlt _ (hp.ha ad e)) (hp.rF.later hb hp.rF.lt) (hp.rT.later hb hp.rT.lt) (hp.rS.later hb hp.rS.lt) ?_ hrs hrb (cell_below hb hp.cP) ?_
    · rintro k (rfl | rfl | rfl | rfl | rfl)
      · exact hlt _ hcell
      · exact hlt _ hp.rF.lt
      · exact hlt _ hp.rT.lt
      · exact hlt _ hp.rS.lt
      · exact ⟨by omega, by omega⟩
    · intro ad e
      cases e
      simp only
      omega
    · intro h0
      refine ⟨g, 0, rfl, fun j hj => ?_⟩
      obtain ⟨g', c', e, hc⟩ := own_at hown (rowL_at _ hj)
      cases e
      simpa using cell_below hb2 hc
    · intro h0
      obtain ⟨b1, off, e, hc⟩ := hp.br h0
      exact ⟨b1, off, e, fun j hj => cell_below hb (hc j hj)⟩
  have HCL := clone_c ⟨Sx, 0, none⟩ ns sc (rowL (fun v => .int .u32 (R.S v)) ns) w (rowL_len _ _) (by omega) (fun j u hj => by rw [add0, cell_of_row w _ _ _ _ _ hp.rS]; simpa using hj) (by intro u hu; simp [rowL] at hu; obtain ⟨_, _, rfl⟩ := hu; rfl)
  have HSW : Hid (NR .u64 w wa swl (fun j => (SW j : Int))) := hsw
  have HWf : Hid (R.W = fun j => if j < swl then SW j else 0) := hW
  have hmk1 := mk28 wn (by omega)
  have hmk2 := mk24 wn (by omega)
  clear hp hB hsw hW hW2 hn
  go_wp2_with (first | (go_at_call 4; refine HCL.mono ?_; rintro _ w1 ⟨g, cc, rfl, hg1, hown, hb1⟩; have HOwn : Hid (w1.ownsRow w.heap.size 26 1 (.slice (some ⟨g, 0, none⟩) ns cc) ns (rowL (fun v => .int .u32 (R.S v)) ns)) := hown; have hg2 : g < w1.heap.size := (hown.lt g rfl).2; clear hown HCL; dsimp only))
  go_loopw [27] (fun i wq => ∃ (k : Nat), k ≤ wn ∧ k ≤ swl ∧ i = .int .i64 k ∧ Hid (RW wq w1.heap.size 29 (fun i => .int .u64 ((if i < k then SW i else 0 : Nat) : Int)) wn) ∧ Hid (RW wq (w1.heap.size + 1) 29 (fun i => .int .u64 ((if i < k then SW i else 0 : Nat) : Int)) wn) ∧ Hid (Below w1.heap.size w1 wq) ∧ w1.heap.size + 1 < wq.heap.size) (fun i _ => wn - (intOf i).toNat)
  case atStart =>
    refine ⟨0, Nat.zero_le _, Nat.zero_le _, rfl, ((rw_new w1 _ _ _).alloc _).congr (fun j _ => by simp), ?_, (below_new w1 _).alloc (by simp) _, by simp⟩
    have h := rw_new (w1.alloc (.cells (rowL (fun _ => .int .u64 0) wn).toArray 29)) (fun _ => .int .u64 0) wn 29
    rw [show (w1.alloc (.cells (rowL (fun _ => .int .u64 0) wn).toArray 29)).heap.size = w1.heap.size + 1 by simp] at h
    exact h.congr (fun j _ => by simp)
  case round =>
    obtain ⟨k, hk, hk2, rfl, HS, HBf, HBl, hz⟩ := hrel
    by_cases hlt : k < wn
    · have hltI : (k : Int) < (wn : Int) := by omega
      by_cases hl2 : k < swl
      · have hl2I : (k : Int) < (swl : Int) := by omega
        obtain ⟨wb, wo, rfl, hwc⟩ := HSW.out (by omega)
        have g0 := cell_below hb1 (hwc k hl2)
        have g1 := cell_below HBl.out g0
        have hwb := World.block_lt_of_cell? w _ (hwc k hl2)
        simp only at hwb
        have hs1 := hb1.size
        have g1' : ∀ v, (wr.setCell ⟨w1.heap.size, k, none⟩ v).cell? ⟨wb, wo + k, none⟩ = some (.int .u64 (SW k : Int)) := fun v => by
          rw [World.cell?_of_block (heap_setCell_other wr _ _ v (show wb ≠ w1.heap.size by omega))]; exact g1
        clear hwc g0
        have g2 := HS.out.cell hlt
        have g3 := HS.out.frozen k
        have g4 : ∀ v, (wr.setCell ⟨w1.heap.size, k, none⟩ v).cell? ⟨w1.heap.size + 1, k, none⟩ = some (.int .u64 ((if k < k then SW k else 0 : Nat) : Int)) := fun v => (HBf.out.other (by simp) v).cell hlt
        have g5 : ∀ v, (wr.setCell ⟨w1.heap.size, k, none⟩ v).frozen? ⟨w1.heap.size + 1, k, none⟩ = false := fun v => (HBf.out.other (by simp) v).frozen k
        go_wp2
        go_roundw
        case rel =>
          have hup : ∀ i, i < wn → (if i = k then Value.int .u64 (SW k : Int) else .int .u64 ((if i < k then SW i else 0 : Nat) : Int)) = .int .u64 ((if i < k + 1 then SW i else 0 : Nat) : Int) := by
            intro i _
            by_cases e : i = k
            · subst e; simp
            · rw [if_neg e]
              by_cases e2 : i < k
              · rw [if_pos e2, if_pos (by omega)]
              · rw [if_neg e2, if_neg (by omega)]
          refine ⟨k + 1, by omega, by omega, by go_num, (HS.out.set hlt _ _ hup).other (by simp) _, (HBf.out.other (by simp) _).set hlt _ _ hup, (HBl.out.setCell (Nat.le_refl _) _).setCell (by simp) _, by simpa [World.setCell] using hz⟩
        case measure => simp [intOf]; omega
      · obtain rfl : k = swl := by omega
        go_wp2
        rw [hT.out]
        have hW : ∀ j, ((if j < k then SW j else 0 : Nat) : Int) = (R.W j : Int) := fun j => by rw [HWf.out]
        exact HEND.out g cc w1.heap.size w1 wr hg1 hg2 rfl HOwn.out hb1 HBl.out hz (HS.out.congr (fun j _ => by rw [hW])) (HBf.out.congr (fun j _ => by rw [hW]))
    · obtain rfl : k = wn := by omega
      go_wp2
      rw [hT.out]
      have hW : ∀ j, j < k → ((if j < k then SW j else 0 : Nat) : Int) = (R.W j : Int) := fun j hj => by
        rw [HWf.out, if_pos hj]; simp only; rw [if_pos (by omega)]
      exact HEND.out g cc w1.heap.size w1 wr hg1 hg2 rfl HOwn.out hb1 HBl.out hz (HS.out.congr (fun j hj => by rw [hW j hj])) (HBf.out.congr (fun j hj => by rw [hW j hj]))

end Go.Proofs.Ybulkdxai
