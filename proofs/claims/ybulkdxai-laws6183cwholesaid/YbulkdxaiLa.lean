/-
  THE LAW (3): the model's starts.
-/
import Derived.Test.YbulkdxaiLb
namespace Go.Proofs.Ybulkdxai
open Go.RowKit

set_option maxRecDepth 1000000 in
set_option maxHeartbeats 4000000 in
theorem tail_a2 (N : Nat) (w0 w w1 : World) (b : Bk) (R : Rn) (AB : Nat → Bool) (sa ca qa la : Option Addr) (sc cc wc Bb bbc bl bc qc lc fc tc mc K' : Nat)
    (hB : Below N w0 w) (hN : N ≤ w.heap.size) (hbl : bl < 256) (hwn2 : b.wn < 2 ^ 34) (hd : Bd b R) (hA : R.A = AC b.al AB) (he : En b R AB w)
    (hK' : (R.st b.ns K').1.length ≤ K') (hms : RW w1 w.heap.size 4 (fun i => .bool (R.sn [] i)) b.n) (hw1 : Below w.heap.size w w1)
    (hs1 : NR .u32 w sa b.ns (fun j => (R.S j : Int))) (hs2 : NR .u32 w ca b.ns (fun j => (R.S j : Int))) (hr : NR .u32 w qa (R.st b.ns K').1.length (fun j => (((R.st b.ns K').1.getD j 0 : Nat) : Int)))
    (hlg : w.cell? ⟨b.Lg, 0, none⟩ = some (.slice la (R.st b.ns K').2.length lc)) (hl : NR .i64 w la (R.st b.ns K').2.length (fun j => (((R.st b.ns K').2.getD j 0 : Nat) : Int)))
    (hw : ∀ j, j < b.wn → w.cell? ⟨b.Sb, j, none⟩ = some (.int .u64 (wL R.W (R.st b.ns K').1 j))) (hbf : RW w Bb 29 (fun j => .int .u64 (R.W j)) b.wn)
    (hb : ∀ j, j < bl → w.cell? ⟨b.B, j, none⟩ = some (.int .u32 (if j < (R.st b.ns K').1.length then (((R.st b.ns K').1.getD j 0 : Nat) : Int) else OV j)))
    {c0 c1 c2 c3 c4 c5 c6 c7 c8 c9 c10 c11 c13 c15 c16 c17 c19 c20 c22 c27 c28 c31 c33 c36 c37 c38 c39 c40 c41 c42 c43 c44 c45 c46 c47 c48 c49 c50 c51 c52 c53 c54 c55 c56 c57 c58 c59 c60 c61 c62 c63 c64 c65 c66 c67 c68 c69 c70 c71 c72 c73 c74 c75 c76 c77 c78 c79 c80 c81 c82 c83 c84 c85 c86 c87 c88 c89 c90 c91 c92 c93 c94 c95 c96 c97 c98 c99 c100 c101 c102 c103 c104 c105 c106 c107 c108 c109 c110 c111 c112 c113 c114 c115 c116 c117 c118 c119 c120 c121 c122 c123 c124 c125 c126 c127 c128 c129 c130 c131 c132 c133 c134 c135 c136 c137 c138 c139 c140 c141 c142 c143 c144 c145 c146 c147 c148 c149 c150 c151 c152 c153 c154 c155 c156 c157 c158 c159 c160 c161 c162 c163 c164 c165 c166 c167 c168 c169 c170 c171 c172 c173 c174 c175 c176 c177 c178 c179 c180 c181 c182 c183 c184 c185 c186 c187 c188 c189 c190 c191 c192 c193 c194 c195 c196 c197 c198 c199 c200 c201 c202 c203 c204 c205 c206 c207 c208 c209 c210 c211 c212 c213 c214 c215 c216 c217 c218 c219 c220 c221 c222 c223 c224 c225 c226 c227 c228 c229 c230 c231 c232 c233 c234 c235 c236 c237 c238 c239 c240 c241 c242 c243 c244 c245 c246 c247 c248 c249 c250 c251 c252 c253 c254 c255 c256 c257 c258 c259 c260 c261 c262 c263 c264 c265 c266 c267 c268 c269 c270 c271 c272 c273 c274 c275 c276 c277 c278 c279 c280 c281 c282 c283 c284 c285 c286 c287 c288 c289 c290 c291 c292 c293 c294 c295 c296 c297 c298 c299 c300 c301 c302 c303 c304 c305 c306 c307 c308 c309 c310 c311 c312 c313 c314 c315 c316 c317 c318 c319 c320 c321 c322 c323 c324 c325 c326 c327 c328 c329 c330 c331 c332 c333 c334 c335 c336 c337 c338 c339 c340 c341 c342 c343 c344 c345 c346 c347 c348 c349 c350 c351 c352 c353 c354 c355 c356 c357 c358 c359 c360 c361 c362 c363 c364 c365 c366 c367 c368 c369 c370 c371 c372 c373 c374 c375 c376 c377 c378 c379 c380 c381 c382 c383 c384 c385 c386 c387 c388 c389 c390 : Value} :
    Code.wp Yba.prog (tl 25 (Yba.f3.body.getD .skip)) (bodyPost Yba.prog Yba.f3 fun e w' => e = .returned (.bool true) ∧ Below N w0 w') ⟨#[c0, c1, c2, c3, c4, c5, c6, c7, c8, c9, c10, c11, .bool false, c13, .slice (some ⟨b.Fb, 0, none⟩) (b.n + 1) fc, c15, c16, c17, .slice (some ⟨b.Tb, 0, none⟩) b.tot tc, c19, c20, .slice sa b.ns sc, c22, .slice ca b.ns cc, .int .i64 b.wn, .slice (some ⟨b.Sb, 0, none⟩) b.wn wc, .slice (some ⟨Bb, 0, none⟩) b.wn bbc, c27, c28, .pointer (some ⟨b.Pa, 0, none⟩), .pointer (some ⟨b.Lg, 0, none⟩), c31, .slice (some ⟨b.B, 0, none⟩) bl bc, c33, .slice qa (R.st b.ns K').1.length qc, .slice (some ⟨w.heap.size, 0, none⟩) b.n mc, c36, c37, c38, c39, c40, c41, c42, c43, c44, c45, c46, c47, c48, c49, c50, c51, c52, c53, c54, c55, c56, c57, c58, c59, c60, c61, c62, c63, c64, c65, c66, c67, c68, c69, c70, c71, c72, c73, c74, c75, c76, c77, c78, c79, c80, c81, c82, c83, c84, c85, c86, c87, c88, c89, c90, c91, c92, c93, c94, c95, c96, c97, c98, c99, c100, c101, c102, c103, c104, c105, c106, c107, c108, c109, c110, c111, c112, c113, c114, c115, c116, c117, c118, c119, c120, c121, c122, c123, c124, c125, c126, c127, c128, c129, c130, c131, c132, c133, c134, c135, c136, c137, c138, c139, c140, c141, c142, c143, c144, c145, c146, c147, c148, c149, c150, c151, c152, c153, c154, c155, c156, c157, c158, c159, c160, c161, c162, c163, c164, c165, c166, c167, c168, c169, c170, c171, c172, c173, c174, c175, c176, c177, c178, c179, c180, c181, c182, c183, c184, c185, c186, c187, c188, c189, c190, c191, c192, c193, c194, c195, c196, c197, c198, c199, c200, c201, c202, c203, c204, c205, c206, c207, c208, c209, c210, c211, c212, c213, c214, c215, c216, c217, c218, c219, c220, c221, c222, c223, c224, c225, c226, c227, c228, c229, c230, c231, c232, c233, c234, c235, c236, c237, c238, c239, c240, c241, c242, c243, c244, c245, c246, c247, c248, c249, c250, c251, c252, c253, c254, c255, c256, c257, c258, c259, c260, c261, c262, c263, c264, c265, c266, c267, c268, c269, c270, c271, c272, c273, c274, c275, c276, c277, c278, c279, c280, c281, c282, c283, c284, c285, c286, c287, c288, c289, c290, c291, c292, c293, c294, c295, c296, c297, c298, c299, c300, c301, c302, c303, c304, c305, c306, c307, c308, c309, c310, c311, c312, c313, c314, c315, c316, c317, c318, c319, c320, c321, c322, c323, c324, c325, c326, c327, c328, c329, c330, c331, c332, c333, c334, c335, c336, c337, c338, c339, c340, c341, c342, c343, c344, c345, c346, c347, c348, c349, c350, c351, c352, c353, c354, c355, c356, c357, c358, c359, c360, c361, c362, c363, c364, c365, c366, c367, c368, c369, c370, c371, c372, c373, c374, c375, c376, c377, c378, c379, c380, c381, c382, c383, c384, c385, c386, c387, c388, c389, c390], []⟩ w1 := by
  obtain ⟨T, hT⟩ : ∃ T, T = tl 27 (Yba.f3.body.getD .skip) := ⟨_, rfl⟩
  conv => arg 2; whnf
  refine split2 T hT.symm ?_
  replace hT : Hid (T = tl 27 (Yba.f3.body.getD .skip)) := hT
  have HD : Hid (Bd b R) := hd
  have HM : Hid (Md w b.n R (R.st0 0) (.slice none 0 0) (.slice none 0 0) (R.st0 0) [] w1) := ⟨hms, ⟨rfl, .inl ⟨rfl, rfl⟩⟩, ⟨rfl, .inl ⟨rfl, rfl⟩⟩, fun k hk => (by cases hk), hw1, hms.lt⟩
  have HEND : Hid (∀ ov w2, Md w b.n R (R.st0 b.ns) ov (.slice none 0 0) (R.st0 b.ns) [] w2 → ∀ {d0 d1 d2 d3 d4 d5 d6 d7 d8 d9 d10 d11 d13 d15 d16 d17 d19 d20 d22 d27 d28 d31 d33 d36 d38 d39 d40 d41 d42 d43 d44 d45 d46 d47 d48 d49 d50 d51 d52 d53 d54 d55 d56 d57 d58 d59 d60 d61 d62 d63 d64 d65 d66 d67 d68 d69 d70 d71 d72 d73 d74 d75 d76 d77 d78 d79 d80 d81 d82 d83 d84 d85 d86 d87 d88 d89 d90 d91 d92 d93 d94 d95 d96 d97 d98 d99 d100 d101 d102 d103 d104 d105 d106 d107 d108 d109 d110 d111 d112 d113 d114 d115 d116 d117 d118 d119 d120 d121 d122 d123 d124 d125 d126 d127 d128 d129 d130 d131 d132 d133 d134 d135 d136 d137 d138 d139 d140 d141 d142 d143 d144 d145 d146 d147 d148 d149 d150 d151 d152 d153 d154 d155 d156 d157 d158 d159 d160 d161 d162 d163 d164 d165 d166 d167 d168 d169 d170 d171 d172 d173 d174 d175 d176 d177 d178 d179 d180 d181 d182 d183 d184 d185 d186 d187 d188 d189 d190 d191 d192 d193 d194 d195 d196 d197 d198 d199 d200 d201 d202 d203 d204 d205 d206 d207 d208 d209 d210 d211 d212 d213 d214 d215 d216 d217 d218 d219 d220 d221 d222 d223 d224 d225 d226 d227 d228 d229 d230 d231 d232 d233 d234 d235 d236 d237 d238 d239 d240 d241 d242 d243 d244 d245 d246 d247 d248 d249 d250 d251 d252 d253 d254 d255 d256 d257 d258 d259 d260 d261 d262 d263 d264 d265 d266 d267 d268 d269 d270 d271 d272 d273 d274 d275 d276 d277 d278 d279 d280 d281 d282 d283 d284 d285 d286 d287 d288 d289 d290 d291 d292 d293 d294 d295 d296 d297 d298 d299 d300 d301 d302 d303 d304 d305 d306 d307 d308 d309 d310 d311 d312 d313 d314 d315 d316 d317 d318 d319 d320 d321 d322 d323 d324 d325 d326 d327 d328 d329 d330 d331 d332 d333 d334 d335 d336 d337 d338 d339 d340 d341 d342 d343 d344 d345 d346 d347 d348 d349 d350 d351 d352 d353 d354 d355 d356 d357 d358 d359 d360 d361 d362 d363 d364 d365 d366 d367 d368 d369 d370 d371 d372 d373 d374 d375 d376 d377 d378 d379 d380 d381 d382 d383 d384 d385 d386 d387 d388 d389 d390 : Value}, Code.wp Yba.prog (tl 27 (Yba.f3.body.getD .skip)) (bodyPost Yba.prog Yba.f3 fun e w' => e = .returned (.bool true) ∧ Below N w0 w') ⟨#[d0, d1, d2, d3, d4, d5, d6, d7, d8, d9, d10, d11, .bool false, d13, .slice (some ⟨b.Fb, 0, none⟩) (b.n + 1) fc, d15, d16, d17, .slice (some ⟨b.Tb, 0, none⟩) b.tot tc, d19, d20, .slice sa b.ns sc, d22, .slice ca b.ns cc, .int .i64 b.wn, .slice (some ⟨b.Sb, 0, none⟩) b.wn wc, .slice (some ⟨Bb, 0, none⟩) b.wn bbc, d27, d28, .pointer (some ⟨b.Pa, 0, none⟩), .pointer (some ⟨b.Lg, 0, none⟩), d31, .slice (some ⟨b.B, 0, none⟩) bl bc, d33, .slice qa (R.st b.ns K').1.length qc, .slice (some ⟨w.heap.size, 0, none⟩) b.n mc, d36, ov, d38, d39, d40, d41, d42, d43, d44, d45, d46, d47, d48, d49, d50, d51, d52, d53, d54, d55, d56, d57, d58, d59, d60, d61, d62, d63, d64, d65, d66, d67, d68, d69, d70, d71, d72, d73, d74, d75, d76, d77, d78, d79, d80, d81, d82, d83, d84, d85, d86, d87, d88, d89, d90, d91, d92, d93, d94, d95, d96, d97, d98, d99, d100, d101, d102, d103, d104, d105, d106, d107, d108, d109, d110, d111, d112, d113, d114, d115, d116, d117, d118, d119, d120, d121, d122, d123, d124, d125, d126, d127, d128, d129, d130, d131, d132, d133, d134, d135, d136, d137, d138, d139, d140, d141, d142, d143, d144, d145, d146, d147, d148, d149, d150, d151, d152, d153, d154, d155, d156, d157, d158, d159, d160, d161, d162, d163, d164, d165, d166, d167, d168, d169, d170, d171, d172, d173, d174, d175, d176, d177, d178, d179, d180, d181, d182, d183, d184, d185, d186, d187, d188, d189, d190, d191, d192, d193, d194, d195, d196, d197, d198, d199, d200, d201, d202, d203, d204, d205, d206, d207, d208, d209, d210, d211, d212, d213, d214, d215, d216, d217, d218, d219, d220, d221, d222, d223, d224, d225, d226, d227, d228, d229, d230, d231, d232, d233, d234, d235, d236, d237, d238, d239, d240, d241, d242, d243, d244, d245, d246, d247, d248, d249, d250, d251, d252, d253, d254, d255, d256, d257, d258, d259, d260, d261, d262, d263, d264, d265, d266, d267, d268, d269, d270, d271, d272, d273, d274, d275, d276, d277, d278, d279, d280, d281, d282, d283, d284, d285, d286, d287, d288, d289, d290, d291, d292, d293, d294, d295, d296, d297, d298, d299, d300, d301, d302, d303, d304, d305, d306, d307, d308, d309, d310, d311, d312, d313, d314, d315, d316, d317, d318, d319, d320, d321, d322, d323, d324, d325, d326, d327, d328, d329, d330, d331, d332, d333, d334, d335, d336, d337, d338, d339, d340, d341, d342, d343, d344, d345, d346, d347, d348, d349, d350, d351, d352, d353, d354, d355, d356, d357, d358, d359, d360, d361, d362, d363, d364, d365, d366, d367, d368, d369, d370, d371, d372, d373, d374, d375, d376, d377, d378, d379, d380, d381, d382, d383, d384, d385, d386, d387, d388, d389, d390], []⟩ w2) := fun ov w2 hM => tail_b N w0 w w2 b R AB sa ca qa la sc cc wc Bb bbc bl bc qc lc fc tc mc K' ov _ hB hN hbl hwn2 hd hA he hK' hM hs1 hs2 hr hlg hl hw hbf hb
  have HS2 : Hid (NR .u32 w ca b.ns (fun j => (R.S j : Int))) := hs2
  have hn := hd.n
  have hns := hd.ns
  clear hs1 hs2 hr hl hw hb hbf hlg hd hA he hms hw1
  go_wp2
  go_loopw [37, 38] (fun ov i wq => ∃ (j : Nat), j ≤ b.ns ∧ i = .int .i64 j ∧ Hid (Md w b.n R (R.st0 j) ov (.slice none 0 0) (R.st0 j) [] wq)) (fun _ i _ => b.ns - (intOf i).toNat)
  case atStart => exact ⟨0, Nat.zero_le _, rfl, HM.out⟩
  case round =>
    obtain ⟨j, hj, rfl, HM1⟩ := hrel
    by_cases hlt : j < b.ns
    · have hltI : (j : Int) < (b.ns : Int) := by omega
      obtain ⟨sb, so, rfl, hsc⟩ := HS2.out (by omega)
      have cC := cell_below HM1.out.b (hsc j hlt)
      clear hsc
      have hsn := HD.out.S j
      obtain ⟨s, hs⟩ : ∃ s, s = R.S j := ⟨_, rfl⟩
      rw [← hs] at hsn
      simp only [← hs] at cC
      have HS : Hid (s = R.S j) := hs
      clear hs
      have hsI : (s : Int) < (b.n : Int) := by omega
      have cS := HM1.out.s.cell hsn
      have fS := HM1.out.s.frozen s
      have hLl : (R.st0 j).length < 2 ^ 40 := by have := (R.st0_ok HD.out.S j).le; omega
      cases hb : R.sn (R.st0 j) s
      · rw [hb] at cS
        go_wp2_with (first | (at_builtin; refine wpList_mo' rfl (.tmp 245) (.tmp 247) rfl (HM1.out.set hsn) s wr.heap.size (by simp [World.setCell]) rfl rfl hLl ?_; intro ov6 w6 hM6))
        go_roundw
        case rel => exact ⟨j + 1, by omega, by go_num, by simp only [Rn.st0, ← HS.out, hb]; exact hM6⟩
        case measure => simp [intOf]; omega
      · rw [hb] at cS
        go_wp2
        go_roundw
        case rel => exact ⟨j + 1, by omega, by go_num, by simp only [Rn.st0, ← HS.out, hb, if_true]; exact HM1.out⟩
        case measure => simp [intOf]; omega
    · obtain rfl : j = b.ns := by omega
      go_wp2
      rw [hT.out]
      exact HEND.out _ _ HM1.out

end Go.Proofs.Ybulkdxai
