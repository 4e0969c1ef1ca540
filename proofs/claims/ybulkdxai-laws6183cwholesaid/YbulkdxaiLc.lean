/-
  THE LAW (3): exp, from before and the order.
-/
import Derived.Test.YbulkdxaiLm
namespace Go.Proofs.Ybulkdxai
open Go.RowKit

theorem isz29 : (Yba.prog.info? 29).map (·.size) = some 1 := by kernel_rfl
theorem wL_take (W : Nat → Nat) (L : List Nat) {k : Nat} (h : k < L.length) : wL W (L.take (k + 1)) = setW (wL W (L.take k)) (L.getD k 0) := by
  rw [← wL_snoc]
  congr 1
  rw [List.take_add_one, List.getElem?_eq_getElem h]
  simp [List.getD, List.getElem?_eq_getElem h]

set_option maxRecDepth 1000000 in
set_option maxHeartbeats 4000000 in
theorem tail_c (N : Nat) (w0 w : World) (sa ca qa oa ma la : Option Addr) (ns sc cc wn Sb wc Bb bbc Lg B bl bc qc oc Gn mc lc : Nat) (L : List Nat) (ZS Y : Nat → Int) (W : Nat → Nat)
    (hB : Below N w0 w) (hN : N ≤ w.heap.size) (bn : ns < 2 ^ 40 ∧ wn < 2 ^ 34 ∧ bl < 256 ∧ L.length < 2 ^ 40 ∧ Gn < 2 ^ 40) (hLw : ∀ x ∈ L, x / 64 < wn) (hW : ∀ j, W j < 18446744073709551616)
    (hs1 : NR .u32 w sa ns ZS) (hs2 : NR .u32 w ca ns ZS) (hr : NR .u32 w qa L.length (fun j => ((L.getD j 0 : Nat) : Int))) (ho : NR .u32 w oa L.length (fun j => ((L.getD j 0 : Nat) : Int)))
    (hlg : w.cell? ⟨Lg, 0, none⟩ = some (.slice la Gn lc)) (hl : NR .i64 w la Gn Y) (hm : NR .i64 w ma Gn Y)
    (hw : ∀ j, j < wn → w.cell? ⟨Sb, j, none⟩ = some (.int .u64 (wL W L j))) (hbf : RW w Bb 29 (fun j => .int .u64 (W j)) wn)
    (hb : ∀ j, j < bl → w.cell? ⟨B, j, none⟩ = some (.int .u32 (if j < L.length then ((L.getD j 0 : Nat) : Int) else OV j)))
    {c0 c1 c2 c3 c4 c5 c6 c7 c8 c9 c10 c11 c13 c14 c15 c16 c17 c18 c19 c20 c22 c27 c28 c29 c31 c33 c35 c36 c38 c39 c41 c42 c43 c44 c45 c46 c47 c48 c49 c50 c51 c52 c53 c54 c55 c56 c57 c58 c59 c60 c61 c62 c63 c64 c65 c66 c67 c68 c69 c70 c71 c72 c73 c74 c75 c76 c77 c78 c79 c80 c81 c82 c83 c84 c85 c86 c87 c88 c89 c90 c91 c92 c93 c94 c95 c96 c97 c98 c99 c100 c101 c102 c103 c104 c105 c106 c107 c108 c109 c110 c111 c112 c113 c114 c115 c116 c117 c118 c119 c120 c121 c122 c123 c124 c125 c126 c127 c128 c129 c130 c131 c132 c133 c134 c135 c136 c137 c138 c139 c140 c141 c142 c143 c144 c145 c146 c147 c148 c149 c150 c151 c152 c153 c154 c155 c156 c157 c158 c159 c160 c161 c162 c163 c164 c165 c166 c167 c168 c169 c170 c171 c172 c173 c174 c175 c176 c177 c178 c179 c180 c181 c182 c183 c184 c185 c186 c187 c188 c189 c190 c191 c192 c193 c194 c195 c196 c197 c198 c199 c200 c201 c202 c203 c204 c205 c206 c207 c208 c209 c210 c211 c212 c213 c214 c215 c216 c217 c218 c219 c220 c221 c222 c223 c224 c225 c226 c227 c228 c229 c230 c231 c232 c233 c234 c235 c236 c237 c238 c239 c240 c241 c242 c243 c244 c245 c246 c247 c248 c249 c250 c251 c252 c253 c254 c255 c256 c257 c258 c259 c260 c261 c262 c263 c264 c265 c266 c267 c268 c269 c270 c271 c272 c273 c274 c275 c276 c277 c278 c279 c280 c281 c282 c283 c284 c285 c286 c287 c288 c289 c290 c291 c292 c293 c294 c295 c296 c297 c298 c299 c300 c301 c302 c303 c304 c305 c306 c307 c308 c309 c310 c311 c312 c313 c314 c315 c316 c317 c318 c319 c320 c321 c322 c323 c324 c325 c326 c327 c328 c329 c330 c331 c332 c333 c334 c335 c336 c337 c338 c339 c340 c341 c342 c343 c344 c345 c346 c347 c348 c349 c350 c351 c352 c353 c354 c355 c356 c357 c358 c359 c360 c361 c362 c363 c364 c365 c366 c367 c368 c369 c370 c371 c372 c373 c374 c375 c376 c377 c378 c379 c380 c381 c382 c383 c384 c385 c386 c387 c388 c389 c390 : Value} :
    Code.wp Yba.prog (tl 29 (Yba.f3.body.getD .skip)) (bodyPost Yba.prog Yba.f3 fun e w' => e = .returned (.bool true) ∧ Below N w0 w') ⟨#[c0, c1, c2, c3, c4, c5, c6, c7, c8, c9, c10, c11, .bool false, c13, c14, c15, c16, c17, c18, c19, c20, .slice sa ns sc, c22, .slice ca ns cc, .int .i64 wn, .slice (some ⟨Sb, 0, none⟩) wn wc, .slice (some ⟨Bb, 0, none⟩) wn bbc, c27, c28, c29, .pointer (some ⟨Lg, 0, none⟩), c31, .slice (some ⟨B, 0, none⟩) bl bc, c33, .slice qa L.length qc, c35, c36, .slice oa L.length oc, c38, c39, .slice ma Gn mc, c41, c42, c43, c44, c45, c46, c47, c48, c49, c50, c51, c52, c53, c54, c55, c56, c57, c58, c59, c60, c61, c62, c63, c64, c65, c66, c67, c68, c69, c70, c71, c72, c73, c74, c75, c76, c77, c78, c79, c80, c81, c82, c83, c84, c85, c86, c87, c88, c89, c90, c91, c92, c93, c94, c95, c96, c97, c98, c99, c100, c101, c102, c103, c104, c105, c106, c107, c108, c109, c110, c111, c112, c113, c114, c115, c116, c117, c118, c119, c120, c121, c122, c123, c124, c125, c126, c127, c128, c129, c130, c131, c132, c133, c134, c135, c136, c137, c138, c139, c140, c141, c142, c143, c144, c145, c146, c147, c148, c149, c150, c151, c152, c153, c154, c155, c156, c157, c158, c159, c160, c161, c162, c163, c164, c165, c166, c167, c168, c169, c170, c171, c172, c173, c174, c175, c176, c177, c178, c179, c180, c181, c182, c183, c184, c185, c186, c187, c188, c189, c190, c191, c192, c193, c194, c195, c196, c197, c198, c199, c200, c201, c202, c203, c204, c205, c206, c207, c208, c209, c210, c211, c212, c213, c214, c215, c216, c217, c218, c219, c220, c221, c222, c223, c224, c225, c226, c227, c228, c229, c230, c231, c232, c233, c234, c235, c236, c237, c238, c239, c240, c241, c242, c243, c244, c245, c246, c247, c248, c249, c250, c251, c252, c253, c254, c255, c256, c257, c258, c259, c260, c261, c262, c263, c264, c265, c266, c267, c268, c269, c270, c271, c272, c273, c274, c275, c276, c277, c278, c279, c280, c281, c282, c283, c284, c285, c286, c287, c288, c289, c290, c291, c292, c293, c294, c295, c296, c297, c298, c299, c300, c301, c302, c303, c304, c305, c306, c307, c308, c309, c310, c311, c312, c313, c314, c315, c316, c317, c318, c319, c320, c321, c322, c323, c324, c325, c326, c327, c328, c329, c330, c331, c332, c333, c334, c335, c336, c337, c338, c339, c340, c341, c342, c343, c344, c345, c346, c347, c348, c349, c350, c351, c352, c353, c354, c355, c356, c357, c358, c359, c360, c361, c362, c363, c364, c365, c366, c367, c368, c369, c370, c371, c372, c373, c374, c375, c376, c377, c378, c379, c380, c381, c382, c383, c384, c385, c386, c387, c388, c389, c390], []⟩ w := by
  obtain ⟨T, hT⟩ : ∃ T, T = tl 32 (Yba.f3.body.getD .skip) := ⟨_, rfl⟩
  conv => arg 2; whnf
  refine split3 T hT.symm ?_
  replace hT : Hid (T = tl 32 (Yba.f3.body.getD .skip)) := hT
  have HS1 : Hid (NR .u32 w sa ns ZS) := hs1
  have HS2 : Hid (NR .u32 w ca ns ZS) := hs2
  have HR : Hid (NR .u32 w qa L.length (fun j => ((L.getD j 0 : Nat) : Int))) := hr
  have HO : Hid (NR .u32 w oa L.length (fun j => ((L.getD j 0 : Nat) : Int))) := ho
  have HL : Hid (NR .i64 w la Gn Y) := hl
  have HM : Hid (NR .i64 w ma Gn Y) := hm
  have HG : Hid (w.cell? ⟨Lg, 0, none⟩ = some (.slice la Gn lc)) := hlg
  have HW : Hid (∀ j, j < wn → w.cell? ⟨Sb, j, none⟩ = some (.int .u64 (wL W L j))) := hw
  have HBf : Hid (RW w Bb 29 (fun j => .int .u64 (W j)) wn) := hbf
  have HLw : Hid (∀ x ∈ L, x / 64 < wn) := hLw
  have HWl : Hid (∀ j, W j < 18446744073709551616) := hW
  have HB : Hid (∀ j, j < bl → w.cell? ⟨B, j, none⟩ = some (.int .u32 (if j < L.length then ((L.getD j 0 : Nat) : Int) else OV j))) := hb
  have hbn1 := bn.1
  have hbn2 := bn.2.1
  have hbn3 := bn.2.2.1
  have hbn4 := bn.2.2.2.1
  have hbn5 := bn.2.2.2.2
  clear hs1 hs2 hr ho hl hm hw hb hbf hLw hlg hW bn
  obtain ⟨w1, hw1⟩ : ∃ w1, w1 = w.alloc (.cells (rowL (fun _ => .int .u64 0) wn).toArray 29) := ⟨_, rfl⟩
  have hmk := mk24 wn (by omega) w
  rw [← hw1] at hmk
  have HE1 : Hid (RW w1 w.heap.size 29 (fun _ => .int .u64 0) wn) := by rw [hw1]; exact rw_new _ _ _ _
  have hb1 : Below w.heap.size w w1 := by rw [hw1]; exact below_new _ _
  clear hw1
  go_wp2_with (first | (refine wpList_copy_splice rfl _ _ 24 24 rfl 29 Yba.underlying24 isz29 _ _ wn wn wn bbc rfl rfl w.heap.size 0 _ 29 HE1.out (rowL (fun j => .int .u64 (W j)) wn) (by simp [rowL_len]) (fun _ => ⟨rfl, ⟨Bb, 0, none⟩, rfl, fun j v hj => by rw [add0, cell_of_row _ _ _ _ _ _ (HBf.out.later hb1 HBf.out.lt)]; simpa using hj⟩) (by simp [rowL_len]) (by intro v hv; simp [rowL] at hv; obtain ⟨_, _, rfl⟩ := hv; rfl) w.heap.size w hb1 (Nat.le_refl _) ?_; intro w2 HE2 hb2; rw [splice_all _ _ (by simp [rowL_len])] at HE2))
  go_loopw [46] (fun i wr => ∃ (k : Nat), k ≤ L.length ∧ i = .int .i64 k ∧ Hid (RW wr w.heap.size 29 (fun j => .int .u64 (wL W (L.take k) j)) wn) ∧ Hid (Below w.heap.size w wr)) (fun i _ => L.length - (intOf i).toNat)
  case atStart => exact ⟨0, Nat.zero_le _, rfl, HE2, hb2⟩
  case round =>
    obtain ⟨k, hk, rfl, HE, HBl⟩ := hrel
    by_cases hlt : k < L.length
    · obtain ⟨ob, oo, rfl, hoc⟩ := HO.out (by omega)
      have g1 := cell_below HBl.out (hoc k hlt)
      clear hoc
      have hI : (k : Int) < (L.length : Int) := by omega
      have hx2 := HLw.out (L.getD k 0) (by simp [List.getD, List.getElem?_eq_getElem hlt])
      have HT := wL_take W L hlt
      obtain ⟨x, hx⟩ : ∃ x, x = L.getD k 0 := ⟨_, rfl⟩
      simp only [← hx] at g1 hx2 HT
      replace HT : Hid (wL W (L.take (k + 1)) = setW (wL W (L.take k)) x) := HT
      clear hx
      have g2 := HE.out.cell hx2
      have g3 := HE.out.frozen (x / 64)
      have hx3 : wL W (L.take k) (x / 64) < 18446744073709551616 := wL_lt _ HWl.out _
      obtain ⟨y, hy⟩ : ∃ y, y = wL W (L.take k) (x / 64) := ⟨_, rfl⟩
      simp only [← hy] at g2 hx3
      replace hy : Hid (y = wL W (L.take k) (x / 64)) := hy
      have hmI : (x : Int).tdiv 64 < (wn : Int) := by rw [Int.tdiv_eq_ediv_of_nonneg (by omega)]; omega
      have hor := or_bit y (x % 64) hx3 (by omega)
      go_wp2
      go_roundw
      case rel =>
        refine ⟨k + 1, by omega, by go_num, ?_, ?_⟩
        · show RW _ _ _ _ _
          rw [HT.out]
          refine HE.out.set hx2 _ _ ?_
          intro i _
          unfold setW
          split
          · rename_i e; subst e; rw [← hy.out]
          · rfl
        · exact HBl.out.setCell (Nat.le_refl _) _
      case measure => simp [intOf]; omega
    · obtain rfl : k = L.length := by omega
      rw [List.take_length] at HE
      go_wp2
      rw [hT.out]
      have hbl := HBl.out
      exact tail_d N w0 _ sa ca qa oa ma la ns sc cc wn Sb wc Lg B bl bc L.length qc oc Gn mc lc w.heap.size wn _ ZS Y (wL W L) (hB.trans (hbl.mono hN)) ⟨hbn1, by omega, hbn3, hbn4, hbn5⟩ (HS1.out.below hbl) (HS2.out.below hbl) (HR.out.below hbl) (HO.out.below hbl) (cell_below hbl HG.out) (HL.out.below hbl) (HM.out.below hbl) (fun j hj => cell_below hbl (HW.out j hj)) (fun j hj => HE.out.cell hj) (fun j hj => cell_below hbl (HB.out j hj))

end Go.Proofs.Ybulkdxai
