/-
  THE LAW (3): the graph, the closures, the buffer.
-/
import Derived.Test.YbulkdxaiLq
import Derived.Laws.EntriesVeiled
namespace Go.Proofs.Ybulkdxai
open Go.RowKit

theorem new2 (w : World) (A : Obj) (x : Value) (t : Nat) : ((w.alloc A).alloc (.cells #[x] t)).heap[w.heap.size + 1]? = some (.cells #[x] t (0, 0)) := by
  have := heap_alloc_new (w.alloc A) (.cells #[x] t)
  simpa using this

/-- What the four allocations leave. -/
structure PW (w : World) (P Fb Tb n tot fc tc : Nat) (wr : World) : Prop where
  g : ∃ GA : Array Value, wr.heap[w.heap.size]? = some (.cells GA 52 (0, 0)) ∧ GA[13]? = some (.slice (some ⟨Fb, 0, none⟩) (n + 1) fc) ∧ GA[11]? = some (.slice (some ⟨Tb, 0, none⟩) tot tc)
  a : wr.heap[w.heap.size + 1]? = some (.cells #[.func (.func 5) #[] #[.pointer (some ⟨P, 0, none⟩)]] 53 (0, 0))
  l : wr.heap[w.heap.size + 1 + 1]? = some (.cells #[.slice none 0 0] 54 (0, 0))
  b : Below w.heap.size w wr
  z : w.heap.size + 1 + 1 + 1 < wr.heap.size

theorem pw_start (w : World) (P Fb Tb n tot fc tc : Nat) (GA X : Array Value) (h13 : GA[13]? = some (.slice (some ⟨Fb, 0, none⟩) (n + 1) fc)) (h11 : GA[11]? = some (.slice (some ⟨Tb, 0, none⟩) tot tc)) :
    PW w P Fb Tb n tot fc tc ((((w.alloc (.cells GA 52)).alloc (.cells #[.func (.func 5) #[] #[.pointer (some ⟨P, 0, none⟩)]] 53)).alloc (.cells #[.slice none 0 0] 54)).alloc (.cells X 26)) := by
  obtain ⟨w2, h2⟩ : ∃ w2, w2 = (w.alloc (.cells GA 52)).alloc (.cells #[.func (.func 5) #[] #[.pointer (some ⟨P, 0, none⟩)]] 53) := ⟨_, rfl⟩
  have z2 : w2.heap.size = w.heap.size + 1 + 1 := by rw [h2]; simp
  have a2 : w2.heap[w.heap.size + 1]? = some (.cells #[.func (.func 5) #[] #[.pointer (some ⟨P, 0, none⟩)]] 53 (0, 0)) := by rw [h2]; exact new2 w _ _ _
  have g2 : w2.heap[w.heap.size]? = some (.cells GA 52 (0, 0)) := by
    rw [h2, heap_alloc_old _ _ (by simp)]; exact heap_alloc_new w _
  have b2 : Below w.heap.size w w2 := by rw [h2]; exact (below_new w _).alloc (by simp) _
  rw [← h2]
  clear h2
  refine ⟨⟨GA, ?_, h13, h11⟩, ?_, ?_, (b2.alloc (by omega) _).alloc (by simp; omega) _, by simp; omega⟩
  · rw [heap_alloc_old _ _ (by simp; omega), heap_alloc_old _ _ (by omega)]; exact g2
  · rw [heap_alloc_old _ _ (by simp; omega), heap_alloc_old _ _ (by omega)]; exact a2
  · rw [heap_alloc_old _ _ (by simp; omega), ← z2]; exact heap_alloc_new w2 _
theorem PW.set {w : World} {P Fb Tb n tot fc tc : Nat} {wr : World} (h : PW w P Fb Tb n tot fc tc wr) (j : Nat) (v : Value) : PW w P Fb Tb n tot fc tc (wr.setCell ⟨w.heap.size + 1 + 1 + 1, j, none⟩ v) := by
  obtain ⟨⟨GA, g, r⟩, a, l, b, z⟩ := h
  exact ⟨⟨GA, (heap_setCell_other wr _ _ v (by simp; omega)).trans g, r⟩, (heap_setCell_other wr _ _ v (by simp)).trans a, (heap_setCell_other wr _ _ v (by simp)).trans l, b.setCell (by simp; omega) _, by simpa [World.setCell] using z⟩

set_option maxRecDepth 1000000 in
set_option maxHeartbeats 4000000 in
theorem tail_p (N : Nat) (w0 w : World) (ca : Option Addr) (P Fb Tb Sx Sb Bb n tot ns wn fc tc sc cc wc bbc bl : Nat) (hbl : bl < 256) (hwn2 : wn < 2 ^ 34) (R : Rn) (AB : Nat → Bool) (aa : Option Addr) (al ac : Nat)
    (hB : Below N w0 w) (hN : N ≤ w.heap.size ∧ N ≤ Sb) (hd : n < 2 ^ 30 ∧ tot < 2 ^ 30 ∧ ns < 2 ^ 30 ∧ n ≤ wn * 64 ∧ al < 2 ^ 48) (hR : (∀ j, R.W j < 18446744073709551616) ∧ (∀ j, R.S j < n) ∧ (∀ e, R.T e < n) ∧ (∀ v, R.F (v + 1) - R.F v ≤ 7) ∧ ∀ v, v < n → R.F v ≤ R.F (v + 1) ∧ R.F (v + 1) ≤ tot) (hA : R.A = AC al AB)
    (hap : ∀ k, k = P ∨ k = Fb ∨ k = Tb ∨ k = Sx ∨ k = Bb → k < w.heap.size ∧ k ≠ Sb) (hca : ∀ ad, ca = some ad → ad.block < w.heap.size ∧ ad.block ≠ Sb) (haa : ∀ ad, aa = some ad → ad.block < w.heap.size ∧ ad.block ≠ Sb)
    (hF : RW w Fb 26 (fun v => .int .u32 (R.F v)) (n + 1)) (hT' : RW w Tb 26 (fun v => .int .u32 (R.T v)) tot) (hSt : RW w Sx 26 (fun v => .int .u32 (R.S v)) ns) (hs2 : NR .u32 w ca ns (fun j => (R.S j : Int)))
    (hS : RW w Sb 29 (fun j => .int .u64 (R.W j)) wn) (hbf : RW w Bb 29 (fun j => .int .u64 (R.W j)) wn) (hP : w.cell? ⟨P, 0, none⟩ = some (.slice aa al ac)) (hbr : BR w aa al AB)
    {c0 c1 c2 c3 c4 c6 c7 c8 c9 c11 c15 c16 c17 c19 c20 c22 c27 c28 c29 c30 c31 c32 c33 c34 c35 c36 c37 c38 c39 c40 c41 c42 c43 c44 c45 c46 c47 c48 c49 c50 c51 c52 c53 c54 c55 c56 c57 c58 c59 c60 c61 c62 c63 c64 c65 c66 c67 c68 c69 c70 c71 c72 c73 c74 c75 c76 c77 c78 c79 c80 c81 c82 c83 c84 c85 c86 c87 c88 c89 c90 c91 c92 c93 c94 c95 c96 c97 c98 c99 c100 c101 c102 c103 c104 c105 c106 c107 c108 c109 c110 c111 c112 c113 c114 c115 c116 c117 c118 c119 c120 c121 c122 c123 c124 c125 c126 c127 c128 c129 c130 c131 c132 c133 c134 c135 c136 c137 c138 c139 c140 c141 c142 c143 c144 c145 c146 c147 c148 c149 c150 c151 c152 c153 c154 c155 c156 c157 c158 c159 c160 c161 c162 c163 c164 c165 c166 c167 c168 c169 c170 c171 c172 c173 c174 c175 c176 c177 c178 c179 c180 c181 c182 c183 c184 c185 c186 c187 c188 c189 c190 c191 c192 c193 c194 c195 c196 c197 c198 c199 c200 c201 c202 c203 c204 c205 c206 c207 c208 c209 c210 c211 c212 c213 c214 c215 c216 c217 c218 c219 c220 c221 c222 c223 c224 c225 c226 c227 c228 c229 c230 c231 c232 c233 c234 c235 c236 c237 c238 c239 c240 c241 c242 c243 c244 c245 c246 c247 c248 c249 c250 c251 c252 c253 c254 c255 c256 c257 c258 c259 c260 c261 c262 c263 c264 c265 c266 c267 c268 c269 c270 c271 c272 c273 c274 c275 c276 c277 c278 c279 c280 c281 c282 c283 c284 c285 c286 c287 c288 c289 c290 c291 c292 c293 c294 c295 c296 c297 c298 c299 c300 c301 c302 c303 c304 c305 c306 c307 c308 c309 c310 c311 c312 c313 c314 c315 c316 c317 c318 c319 c320 c321 c322 c323 c324 c325 c326 c327 c328 c329 c330 c331 c332 c333 c334 c335 c336 c337 c338 c339 c340 c341 c342 c343 c344 c345 c346 c347 c348 c349 c350 c351 c352 c353 c354 c355 c356 c357 c358 c359 c360 c361 c362 c363 c364 c365 c366 c367 c368 c369 c370 c371 c372 c373 c374 c375 c376 c377 c378 c379 c380 c381 c382 c383 c384 c385 c386 c387 c388 c389 c390 : Value} :
    Code.wp Yba.prog (tl 16 (Yba.f3.body.getD .skip)) (bodyPost Yba.prog Yba.f3 fun e w' => e = .returned (.bool true) ∧ Below N w0 w') ⟨#[c0, c1, c2, c3, c4, .int .u8 (bl : Int), c6, c7, c8, c9, .pointer (some ⟨P, 0, none⟩), c11, .bool false, .int .i64 n, .slice (some ⟨Fb, 0, none⟩) (n + 1) fc, c15, c16, c17, .slice (some ⟨Tb, 0, none⟩) tot tc, c19, c20, .slice (some ⟨Sx, 0, none⟩) ns sc, c22, .slice ca ns cc, .int .i64 wn, .slice (some ⟨Sb, 0, none⟩) wn wc, .slice (some ⟨Bb, 0, none⟩) wn bbc, c27, c28, c29, c30, c31, c32, c33, c34, c35, c36, c37, c38, c39, c40, c41, c42, c43, c44, c45, c46, c47, c48, c49, c50, c51, c52, c53, c54, c55, c56, c57, c58, c59, c60, c61, c62, c63, c64, c65, c66, c67, c68, c69, c70, c71, c72, c73, c74, c75, c76, c77, c78, c79, c80, c81, c82, c83, c84, c85, c86, c87, c88, c89, c90, c91, c92, c93, c94, c95, c96, c97, c98, c99, c100, c101, c102, c103, c104, c105, c106, c107, c108, c109, c110, c111, c112, c113, c114, c115, c116, c117, c118, c119, c120, c121, c122, c123, c124, c125, c126, c127, c128, c129, c130, c131, c132, c133, c134, c135, c136, c137, c138, c139, c140, c141, c142, c143, c144, c145, c146, c147, c148, c149, c150, c151, c152, c153, c154, c155, c156, c157, c158, c159, c160, c161, c162, c163, c164, c165, c166, c167, c168, c169, c170, c171, c172, c173, c174, c175, c176, c177, c178, c179, c180, c181, c182, c183, c184, c185, c186, c187, c188, c189, c190, c191, c192, c193, c194, c195, c196, c197, c198, c199, c200, c201, c202, c203, c204, c205, c206, c207, c208, c209, c210, c211, c212, c213, c214, c215, c216, c217, c218, c219, c220, c221, c222, c223, c224, c225, c226, c227, c228, c229, c230, c231, c232, c233, c234, c235, c236, c237, c238, c239, c240, c241, c242, c243, c244, c245, c246, c247, c248, c249, c250, c251, c252, c253, c254, c255, c256, c257, c258, c259, c260, c261, c262, c263, c264, c265, c266, c267, c268, c269, c270, c271, c272, c273, c274, c275, c276, c277, c278, c279, c280, c281, c282, c283, c284, c285, c286, c287, c288, c289, c290, c291, c292, c293, c294, c295, c296, c297, c298, c299, c300, c301, c302, c303, c304, c305, c306, c307, c308, c309, c310, c311, c312, c313, c314, c315, c316, c317, c318, c319, c320, c321, c322, c323, c324, c325, c326, c327, c328, c329, c330, c331, c332, c333, c334, c335, c336, c337, c338, c339, c340, c341, c342, c343, c344, c345, c346, c347, c348, c349, c350, c351, c352, c353, c354, c355, c356, c357, c358, c359, c360, c361, c362, c363, c364, c365, c366, c367, c368, c369, c370, c371, c372, c373, c374, c375, c376, c377, c378, c379, c380, c381, c382, c383, c384, c385, c386, c387, c388, c389, c390], []⟩ w := by
  obtain ⟨T, hT⟩ : ∃ T, T = tl 22 (Yba.f3.body.getD .skip) := ⟨_, rfl⟩
  conv => arg 2; whnf
  refine split6 T hT.symm ?_
  replace hT : Hid (T = tl 22 (Yba.f3.body.getD .skip)) := hT
  have HB0 : Hid (∀ v : World, v.heap.size = w.heap.size + 1 + 1 + 1 → RW (v.alloc (.cells (rowL (fun _ => .int .u32 0) bl).toArray 26)) (w.heap.size + 1 + 1 + 1) 26 (fun i => .int .u32 (if i < 0 then OV i else 0)) bl) := fun v hv => by
    rw [← hv]; exact (rw_new _ _ _ _).congr (fun j _ => by simp)
  have HP0 : Hid (∀ (GA X : Array Value) (h13 : GA[13]? = some (.slice (some ⟨Fb, 0, none⟩) (n + 1) fc)) (h11 : GA[11]? = some (.slice (some ⟨Tb, 0, none⟩) tot tc)), PW w P Fb Tb n tot fc tc ((((w.alloc (.cells GA 52)).alloc (.cells #[.func (.func 5) #[] #[.pointer (some ⟨P, 0, none⟩)]] 53)).alloc (.cells #[.slice none 0 0] 54)).alloc (.cells X 26))) := fun GA X => pw_start w P Fb Tb n tot fc tc GA X
  have HEND : Hid (∀ wr, RW wr (w.heap.size + 1 + 1 + 1) 26 (fun j => .int .u32 (OV j)) bl → PW w P Fb Tb n tot fc tc wr → ∀ {d0 d1 d2 d3 d4 d6 d7 d8 d9 d11 d15 d16 d17 d19 d20 d22 d27 d33 d34 d35 d36 d37 d38 d39 d40 d41 d42 d43 d44 d45 d46 d47 d48 d49 d50 d51 d52 d53 d54 d55 d56 d57 d58 d59 d60 d61 d62 d63 d64 d65 d66 d67 d68 d69 d70 d71 d72 d73 d74 d75 d76 d77 d78 d79 d80 d81 d82 d83 d84 d85 d86 d87 d88 d89 d90 d91 d92 d93 d94 d95 d96 d97 d98 d99 d100 d101 d102 d103 d104 d105 d106 d107 d108 d109 d110 d111 d112 d113 d114 d115 d116 d117 d118 d119 d120 d121 d122 d123 d124 d125 d126 d127 d128 d129 d130 d131 d132 d133 d134 d135 d136 d137 d138 d139 d140 d141 d142 d143 d144 d145 d146 d147 d148 d149 d150 d151 d152 d153 d154 d155 d156 d157 d158 d159 d160 d161 d162 d163 d164 d165 d166 d167 d168 d169 d170 d171 d172 d173 d174 d175 d176 d177 d178 d179 d180 d181 d182 d183 d184 d185 d186 d187 d188 d189 d190 d191 d192 d193 d194 d195 d196 d197 d198 d199 d200 d201 d202 d203 d204 d205 d206 d207 d208 d209 d210 d211 d212 d213 d214 d215 d216 d217 d218 d219 d220 d221 d222 d223 d224 d225 d226 d227 d228 d229 d230 d231 d232 d233 d234 d235 d236 d237 d238 d239 d240 d241 d242 d243 d244 d245 d246 d247 d248 d249 d250 d251 d252 d253 d254 d255 d256 d257 d258 d259 d260 d261 d262 d263 d264 d265 d266 d267 d268 d269 d270 d271 d272 d273 d274 d275 d276 d277 d278 d279 d280 d281 d282 d283 d284 d285 d286 d287 d288 d289 d290 d291 d292 d293 d294 d295 d296 d297 d298 d299 d300 d301 d302 d303 d304 d305 d306 d307 d308 d309 d310 d311 d312 d313 d314 d315 d316 d317 d318 d319 d320 d321 d322 d323 d324 d325 d326 d327 d328 d329 d330 d331 d332 d333 d334 d335 d336 d337 d338 d339 d340 d341 d342 d343 d344 d345 d346 d347 d348 d349 d350 d351 d352 d353 d354 d355 d356 d357 d358 d359 d360 d361 d362 d363 d364 d365 d366 d367 d368 d369 d370 d371 d372 d373 d374 d375 d376 d377 d378 d379 d380 d381 d382 d383 d384 d385 d386 d387 d388 d389 d390 : Value}, Code.wp Yba.prog (tl 22 (Yba.f3.body.getD .skip)) (bodyPost Yba.prog Yba.f3 fun e w' => e = .returned (.bool true) ∧ Below N w0 w') ⟨#[d0, d1, d2, d3, d4, .int .u8 (bl : Int), d6, d7, d8, d9, .pointer (some ⟨P, 0, none⟩), d11, .bool false, .int .i64 n, .slice (some ⟨Fb, 0, none⟩) (n + 1) fc, d15, d16, d17, .slice (some ⟨Tb, 0, none⟩) tot tc, d19, d20, .slice (some ⟨Sx, 0, none⟩) ns sc, d22, .slice ca ns cc, .int .i64 wn, .slice (some ⟨Sb, 0, none⟩) wn wc, .slice (some ⟨Bb, 0, none⟩) wn bbc, d27, .pointer (some ⟨w.heap.size, 0, none⟩), .pointer (some ⟨w.heap.size + 1, 0, none⟩), .pointer (some ⟨w.heap.size + 1 + 1, 0, none⟩), .func (.func 6) #[] #[.pointer (some ⟨w.heap.size + 1 + 1, 0, none⟩), .pointer (some ⟨w.heap.size + 1, 0, none⟩)], .slice (some ⟨w.heap.size + 1 + 1 + 1, 0, none⟩) bl bl, d33, d34, d35, d36, d37, d38, d39, d40, d41, d42, d43, d44, d45, d46, d47, d48, d49, d50, d51, d52, d53, d54, d55, d56, d57, d58, d59, d60, d61, d62, d63, d64, d65, d66, d67, d68, d69, d70, d71, d72, d73, d74, d75, d76, d77, d78, d79, d80, d81, d82, d83, d84, d85, d86, d87, d88, d89, d90, d91, d92, d93, d94, d95, d96, d97, d98, d99, d100, d101, d102, d103, d104, d105, d106, d107, d108, d109, d110, d111, d112, d113, d114, d115, d116, d117, d118, d119, d120, d121, d122, d123, d124, d125, d126, d127, d128, d129, d130, d131, d132, d133, d134, d135, d136, d137, d138, d139, d140, d141, d142, d143, d144, d145, d146, d147, d148, d149, d150, d151, d152, d153, d154, d155, d156, d157, d158, d159, d160, d161, d162, d163, d164, d165, d166, d167, d168, d169, d170, d171, d172, d173, d174, d175, d176, d177, d178, d179, d180, d181, d182, d183, d184, d185, d186, d187, d188, d189, d190, d191, d192, d193, d194, d195, d196, d197, d198, d199, d200, d201, d202, d203, d204, d205, d206, d207, d208, d209, d210, d211, d212, d213, d214, d215, d216, d217, d218, d219, d220, d221, d222, d223, d224, d225, d226, d227, d228, d229, d230, d231, d232, d233, d234, d235, d236, d237, d238, d239, d240, d241, d242, d243, d244, d245, d246, d247, d248, d249, d250, d251, d252, d253, d254, d255, d256, d257, d258, d259, d260, d261, d262, d263, d264, d265, d266, d267, d268, d269, d270, d271, d272, d273, d274, d275, d276, d277, d278, d279, d280, d281, d282, d283, d284, d285, d286, d287, d288, d289, d290, d291, d292, d293, d294, d295, d296, d297, d298, d299, d300, d301, d302, d303, d304, d305, d306, d307, d308, d309, d310, d311, d312, d313, d314, d315, d316, d317, d318, d319, d320, d321, d322, d323, d324, d325, d326, d327, d328, d329, d330, d331, d332, d333, d334, d335, d336, d337, d338, d339, d340, d341, d342, d343, d344, d345, d346, d347, d348, d349, d350, d351, d352, d353, d354, d355, d356, d357, d358, d359, d360, d361, d362, d363, d364, d365, d366, d367, d368, d369, d370, d371, d372, d373, d374, d375, d376, d377, d378, d379, d380, d381, d382, d383, d384, d385, d386, d387, d388, d389, d390], []⟩ wr) := by
    intro wr hbu hpw
    intros
    obtain ⟨⟨GA, hg, h13, h11⟩, hpa, hlg, hbl2, hz⟩ := hpw
    have hsb := hS.lt
    have nd : ∀ k, k < w.heap.size → k ≠ Sb → ¬ Bk.Dyn { G := w.heap.size, Fb := Fb, Tb := Tb, Sx := Sx, Pa := w.heap.size + 1, P := P, Sb := Sb, B := w.heap.size + 1 + 1 + 1, Lg := w.heap.size + 1 + 1, base := wr.heap.size, n := n, tot := tot, ns := ns, wn := wn, aa := aa, al := al, ac := ac } k := fun k h1 h2 h => by
      unfold Bk.Dyn at h
      simp only at h
      omega
    refine tail_r N w0 wr { G := w.heap.size, Fb := Fb, Tb := Tb, Sx := Sx, Pa := w.heap.size + 1, P := P, Sb := Sb, B := w.heap.size + 1 + 1 + 1, Lg := w.heap.size + 1 + 1, base := wr.heap.size, n := n, tot := tot, ns := ns, wn := wn, aa := aa, al := al, ac := ac } R AB ca sc cc wc Bb bbc bl fc tc (hB.trans (hbl2.mono hN.1)) ⟨hN.2, ?_, ?_, ?_⟩ hbl hwn2 ⟨hd.1, hd.2.1, hd.2.2.1, hd.2.2.2.1, hR.1, hR.2.1, hR.2.2.1, hR.2.2.2.1, hR.2.2.2.2, hd.2.2.2.2⟩ hA ?_ ?_ ⟨hlg, rfl, .inl ⟨rfl, rfl⟩⟩ hbu (hS.later hbl2 hS.lt) (Nat.le_refl _) (hs2.below hbl2) (fun ad e => nd _ (hca ad e).1 (hca ad e).2) (hbf.later hbl2 hbf.lt) (nd _ (hap Bb (by simp)).1 (hap Bb (by simp)).2)
    · show N ≤ w.heap.size + 1 + 1 + 1
      have := hN.1; omega
    · show N ≤ w.heap.size + 1 + 1
      have := hN.1; omega
    · show N ≤ wr.heap.size
      have := hN.1; omega
    · refine ⟨fun h => ?_, nd _ (hap Fb (by simp)).1 (hap Fb (by simp)).2, nd _ (hap Tb (by simp)).1 (hap Tb (by simp)).2, nd _ (hap Sx (by simp)).1 (hap Sx (by simp)).2, fun h => ?_, nd _ (hap P (by simp)).1 (hap P (by simp)).2, fun ad e => nd _ (haa ad e).1 (haa ad e).2, ?_, ?_, ?_, ?_, ?_, ?_⟩
      · unfold Bk.Dyn at h; simp only at h; omega
      · unfold Bk.Dyn at h; simp only at h; omega
      · show Sb ≠ w.heap.size + 1 + 1 + 1
        omega
      · show Sb ≠ w.heap.size + 1 + 1
        omega
      · show w.heap.size + 1 + 1 + 1 ≠ w.heap.size + 1 + 1
        omega
      · show Sb < wr.heap.size
        omega
      · show w.heap.size + 1 + 1 + 1 < wr.heap.size
        omega
      · show w.heap.size + 1 + 1 < wr.heap.size
        omega
    · refine ⟨⟨fc, ?_⟩, ⟨tc, ?_⟩, fun v hv => ?_, fun v hv => cell_below hbl2 (hT'.cell hv), fun v hv => cell_below hbl2 (hSt.cell hv), cell1 hpa, cell_below hbl2 hP, fun h0 => ?_⟩
      · show wr.cell? ⟨w.heap.size, 13, none⟩ = _
        rw [cell_of_row wr _ _ _ _ _ hg]; exact h13
      · show wr.cell? ⟨w.heap.size, 11, none⟩ = _
        rw [cell_of_row wr _ _ _ _ _ hg]; exact h11
      · exact cell_below hbl2 (hF.cell (Nat.lt_succ_of_le hv))
      · obtain ⟨b1, off, e, hc⟩ := hbr h0
        exact ⟨b1, off, e, fun j hj => cell_below hbl2 (hc j hj)⟩
  clear hB hN hd hR hA hap hca haa hF hT' hSt hs2 hS hbf hP hbr
  have hmk := mk23 bl (by omega)
  have hc1 : ∀ A, ((w.alloc A).alloc (.cells #[.nilFunc] 53)).cell? ⟨w.heap.size + 1, 0, none⟩ = some .nilFunc := fun A => cell1 (new2 w A _ _)
  have hf1 : ∀ A, ((w.alloc A).alloc (.cells #[.nilFunc] 53)).frozen? ⟨w.heap.size + 1, 0, none⟩ = false := fun A => frozen_of_row _ _ _ _ _ (new2 w A _ _)
  go_wp2
  go_loopw [33] (fun i wq => ∃ (k : Nat), k ≤ bl ∧ i = .int .i64 k ∧ Hid (RW wq (w.heap.size + 1 + 1 + 1) 26 (fun i => .int .u32 (if i < k then OV i else 0)) bl) ∧ Hid (PW w P Fb Tb n tot fc tc wq)) (fun i _ => bl - (intOf i).toNat)
  case atStart => exact ⟨0, Nat.zero_le _, rfl, HB0.out _ (by simp), HP0.out _ _ rfl rfl⟩
  case round =>
    obtain ⟨k, hk, rfl, HBu, HPW⟩ := hrel
    by_cases hlt : k < bl
    · have hltI : (k : Int) < (bl : Int) := by omega
      have g2 := HBu.out.cell hlt
      have g3 := HBu.out.frozen k
      go_wp2
      go_roundw
      case rel =>
        refine ⟨k + 1, by omega, by go_num, HBu.out.set hlt _ _ ?_, HPW.out.set _ _⟩
        intro i _
        by_cases e : i = k
        · subst e; simp [OV]
        · rw [if_neg e]
          by_cases e2 : i < k
          · rw [if_pos e2, if_pos (by omega)]
          · rw [if_neg e2, if_neg (by omega)]
      case measure => simp [intOf]; omega
    · obtain rfl : k = bl := by omega
      go_wp2
      rw [hT.out]
      exact HEND.out _ (HBu.out.congr (fun j hj => by simp [hj])) HPW.out

end Go.Proofs.Ybulkdxai
