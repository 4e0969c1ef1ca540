/-
  THE LAW (3): the model's own run.
-/
import Derived.Test.YbulkdxaiMe
namespace Go.Proofs.Ybulkdxai
open Go.RowKit

set_option maxRecDepth 1000000 in
set_option maxHeartbeats 4000000 in
theorem tail_b (N : Nat) (w0 w w1 : World) (b : Bk) (R : Rn) (AB : Nat → Bool) (sa ca qa la : Option Addr) (sc cc wc Bb bbc bl bc qc lc fc tc mc K' : Nat) (ov : Value) (ZS : Nat → Int)
    (hB : Below N w0 w) (hN : N ≤ w.heap.size) (hbl : bl < 256) (hwn2 : b.wn < 2 ^ 34) (hd : Bd b R) (hA : R.A = AC b.al AB) (he : En b R AB w)
    (hK' : (R.st b.ns K').1.length ≤ K') (hmd : Md w b.n R (R.st0 b.ns) ov (.slice none 0 0) (R.st0 b.ns) [] w1)
    (hs1 : NR .u32 w sa b.ns ZS) (hs2 : NR .u32 w ca b.ns ZS) (hr : NR .u32 w qa (R.st b.ns K').1.length (fun j => (((R.st b.ns K').1.getD j 0 : Nat) : Int)))
    (hlg : w.cell? ⟨b.Lg, 0, none⟩ = some (.slice la (R.st b.ns K').2.length lc)) (hl : NR .i64 w la (R.st b.ns K').2.length (fun j => (((R.st b.ns K').2.getD j 0 : Nat) : Int)))
    (hw : ∀ j, j < b.wn → w.cell? ⟨b.Sb, j, none⟩ = some (.int .u64 (wL R.W (R.st b.ns K').1 j))) (hbf : RW w Bb 29 (fun j => .int .u64 (R.W j)) b.wn)
    (hb : ∀ j, j < bl → w.cell? ⟨b.B, j, none⟩ = some (.int .u32 (if j < (R.st b.ns K').1.length then (((R.st b.ns K').1.getD j 0 : Nat) : Int) else OV j)))
    {c0 c1 c2 c3 c4 c5 c6 c7 c8 c9 c10 c11 c13 c15 c16 c17 c19 c20 c22 c27 c28 c31 c33 c36 c38 c39 c40 c41 c42 c43 c44 c45 c46 c47 c48 c49 c50 c51 c52 c53 c54 c55 c56 c57 c58 c59 c60 c61 c62 c63 c64 c65 c66 c67 c68 c69 c70 c71 c72 c73 c74 c75 c76 c77 c78 c79 c80 c81 c82 c83 c84 c85 c86 c87 c88 c89 c90 c91 c92 c93 c94 c95 c96 c97 c98 c99 c100 c101 c102 c103 c104 c105 c106 c107 c108 c109 c110 c111 c112 c113 c114 c115 c116 c117 c118 c119 c120 c121 c122 c123 c124 c125 c126 c127 c128 c129 c130 c131 c132 c133 c134 c135 c136 c137 c138 c139 c140 c141 c142 c143 c144 c145 c146 c147 c148 c149 c150 c151 c152 c153 c154 c155 c156 c157 c158 c159 c160 c161 c162 c163 c164 c165 c166 c167 c168 c169 c170 c171 c172 c173 c174 c175 c176 c177 c178 c179 c180 c181 c182 c183 c184 c185 c186 c187 c188 c189 c190 c191 c192 c193 c194 c195 c196 c197 c198 c199 c200 c201 c202 c203 c204 c205 c206 c207 c208 c209 c210 c211 c212 c213 c214 c215 c216 c217 c218 c219 c220 c221 c222 c223 c224 c225 c226 c227 c228 c229 c230 c231 c232 c233 c234 c235 c236 c237 c238 c239 c240 c241 c242 c243 c244 c245 c246 c247 c248 c249 c250 c251 c252 c253 c254 c255 c256 c257 c258 c259 c260 c261 c262 c263 c264 c265 c266 c267 c268 c269 c270 c271 c272 c273 c274 c275 c276 c277 c278 c279 c280 c281 c282 c283 c284 c285 c286 c287 c288 c289 c290 c291 c292 c293 c294 c295 c296 c297 c298 c299 c300 c301 c302 c303 c304 c305 c306 c307 c308 c309 c310 c311 c312 c313 c314 c315 c316 c317 c318 c319 c320 c321 c322 c323 c324 c325 c326 c327 c328 c329 c330 c331 c332 c333 c334 c335 c336 c337 c338 c339 c340 c341 c342 c343 c344 c345 c346 c347 c348 c349 c350 c351 c352 c353 c354 c355 c356 c357 c358 c359 c360 c361 c362 c363 c364 c365 c366 c367 c368 c369 c370 c371 c372 c373 c374 c375 c376 c377 c378 c379 c380 c381 c382 c383 c384 c385 c386 c387 c388 c389 c390 : Value} :
    Code.wp Yba.prog (tl 27 (Yba.f3.body.getD .skip)) (bodyPost Yba.prog Yba.f3 fun e w' => e = .returned (.bool true) ∧ Below N w0 w') ⟨#[c0, c1, c2, c3, c4, c5, c6, c7, c8, c9, c10, c11, .bool false, c13, .slice (some ⟨b.Fb, 0, none⟩) (b.n + 1) fc, c15, c16, c17, .slice (some ⟨b.Tb, 0, none⟩) b.tot tc, c19, c20, .slice sa b.ns sc, c22, .slice ca b.ns cc, .int .i64 b.wn, .slice (some ⟨b.Sb, 0, none⟩) b.wn wc, .slice (some ⟨Bb, 0, none⟩) b.wn bbc, c27, c28, .pointer (some ⟨b.Pa, 0, none⟩), .pointer (some ⟨b.Lg, 0, none⟩), c31, .slice (some ⟨b.B, 0, none⟩) bl bc, c33, .slice qa (R.st b.ns K').1.length qc, .slice (some ⟨w.heap.size, 0, none⟩) b.n mc, c36, ov, c38, c39, c40, c41, c42, c43, c44, c45, c46, c47, c48, c49, c50, c51, c52, c53, c54, c55, c56, c57, c58, c59, c60, c61, c62, c63, c64, c65, c66, c67, c68, c69, c70, c71, c72, c73, c74, c75, c76, c77, c78, c79, c80, c81, c82, c83, c84, c85, c86, c87, c88, c89, c90, c91, c92, c93, c94, c95, c96, c97, c98, c99, c100, c101, c102, c103, c104, c105, c106, c107, c108, c109, c110, c111, c112, c113, c114, c115, c116, c117, c118, c119, c120, c121, c122, c123, c124, c125, c126, c127, c128, c129, c130, c131, c132, c133, c134, c135, c136, c137, c138, c139, c140, c141, c142, c143, c144, c145, c146, c147, c148, c149, c150, c151, c152, c153, c154, c155, c156, c157, c158, c159, c160, c161, c162, c163, c164, c165, c166, c167, c168, c169, c170, c171, c172, c173, c174, c175, c176, c177, c178, c179, c180, c181, c182, c183, c184, c185, c186, c187, c188, c189, c190, c191, c192, c193, c194, c195, c196, c197, c198, c199, c200, c201, c202, c203, c204, c205, c206, c207, c208, c209, c210, c211, c212, c213, c214, c215, c216, c217, c218, c219, c220, c221, c222, c223, c224, c225, c226, c227, c228, c229, c230, c231, c232, c233, c234, c235, c236, c237, c238, c239, c240, c241, c242, c243, c244, c245, c246, c247, c248, c249, c250, c251, c252, c253, c254, c255, c256, c257, c258, c259, c260, c261, c262, c263, c264, c265, c266, c267, c268, c269, c270, c271, c272, c273, c274, c275, c276, c277, c278, c279, c280, c281, c282, c283, c284, c285, c286, c287, c288, c289, c290, c291, c292, c293, c294, c295, c296, c297, c298, c299, c300, c301, c302, c303, c304, c305, c306, c307, c308, c309, c310, c311, c312, c313, c314, c315, c316, c317, c318, c319, c320, c321, c322, c323, c324, c325, c326, c327, c328, c329, c330, c331, c332, c333, c334, c335, c336, c337, c338, c339, c340, c341, c342, c343, c344, c345, c346, c347, c348, c349, c350, c351, c352, c353, c354, c355, c356, c357, c358, c359, c360, c361, c362, c363, c364, c365, c366, c367, c368, c369, c370, c371, c372, c373, c374, c375, c376, c377, c378, c379, c380, c381, c382, c383, c384, c385, c386, c387, c388, c389, c390], []⟩ w1 := by
  obtain ⟨T, hT⟩ : ∃ T, T = tl 29 (Yba.f3.body.getD .skip) := ⟨_, rfl⟩
  conv => arg 2; whnf
  refine split2 T hT.symm ?_
  replace hT : Hid (T = tl 29 (Yba.f3.body.getD .skip)) := hT
  have HD : Hid (Bd b R) := hd
  have HE : Hid (En b R AB w) := he
  have HA : Hid (R.A = AC b.al AB) := hA
  have HM : Hid (Md w b.n R (R.st0 b.ns) ov (.slice none 0 0) (R.st0 b.ns) [] w1) := hmd
  have HS1 : Hid (NR .u32 w sa b.ns ZS) := hs1
  have HS2 : Hid (NR .u32 w ca b.ns ZS) := hs2
  have HR : Hid (NR .u32 w qa (R.st b.ns K').1.length (fun j => (((R.st b.ns K').1.getD j 0 : Nat) : Int))) := hr
  have HG : Hid (w.cell? ⟨b.Lg, 0, none⟩ = some (.slice la (R.st b.ns K').2.length lc)) := hlg
  have HL : Hid (NR .i64 w la (R.st b.ns K').2.length (fun j => (((R.st b.ns K').2.getD j 0 : Nat) : Int))) := hl
  have HW : Hid (∀ j, j < b.wn → w.cell? ⟨b.Sb, j, none⟩ = some (.int .u64 (wL R.W (R.st b.ns K').1 j))) := hw
  have HBf : Hid (RW w Bb 29 (fun j => .int .u64 (R.W j)) b.wn) := hbf
  have HB : Hid (∀ j, j < bl → w.cell? ⟨b.B, j, none⟩ = some (.int .u32 (if j < (R.st b.ns K').1.length then (((R.st b.ns K').1.getD j 0 : Nat) : Int) else OV j))) := hb
  have hn := hd.n
  have hns := hd.ns
  have htot := hd.tot
  clear hs1 hs2 hr hl hw hb hbf hlg hd hA he hmd
  go_wp2
  go_loopw [37, 40, 41] (fun ov mv i wq => ∃ (k : Nat), k ≤ (R.st b.ns k).1.length ∧ i = .int .i64 k ∧ Hid (Md w b.n R (R.st b.ns k).1 ov mv (R.st b.ns k).1 (R.st b.ns k).2 wq)) (fun _ _ i _ => b.n - (intOf i).toNat)
  case atStart => exact ⟨0, Nat.zero_le _, rfl, HM.out⟩
  case round =>
    obtain ⟨k, hk, rfl, HM1⟩ := hrel
    have hok := R.st_ok HD.out.S HD.out.T HD.out.F b.ns k
    have hLn := hok.1.le
    obtain ⟨s0, hs0⟩ : ∃ s0, s0 = R.st b.ns k := ⟨_, rfl⟩
    rw [← hs0] at HM1 hk hok hLn
    have HS0 : Hid (s0 = R.st b.ns k) := hs0
    clear hs0
    by_cases hlt : k < s0.1.length
    · obtain ⟨g, c, rfl, cK⟩ := own_at HM1.out.o (u32_at s0.1 k hlt)
      have hltI : (k : Int) < (s0.1.length : Int) := by omega
      obtain ⟨x, hx⟩ : ∃ x, x = s0.1.getD k 0 := ⟨_, rfl⟩
      have hxn : x < b.n := hok.1.2 x (by rw [hx]; simp [List.getD, List.getElem?_eq_getElem hlt])
      rw [← hx] at cK
      have hF1 := HD.out.F1 x hxn
      have HX : Hid (x = s0.1.getD k 0) := hx
      clear hx
      have cF := (HE.out.below HM1.out.b).fF x (by omega)
      obtain ⟨fa, hfa⟩ : ∃ fa, fa = R.F x := ⟨_, rfl⟩
      obtain ⟨fb, hfb⟩ : ∃ fb, fb = R.F (x + 1) := ⟨_, rfl⟩
      rw [← hfa] at cF
      rw [← hfa, ← hfb] at hF1
      have HFa : Hid (fa = R.F x) := hfa
      have HFb : Hid (fb = R.F (x + 1)) := hfb
      clear hfa hfb
      have hxI : (x : Int) < ((b.n + 1 : Nat) : Int) := by omega
      have hxI1 : (x : Int) + 1 < ((b.n + 1 : Nat) : Int) := by omega
      go_wp2
      go_loopw [37, 40, 43] (fun ov mv i wq => ∃ (m : Nat), m ≤ fb - fa ∧ i = .int .i64 (fa + m : Nat) ∧ Hid (Md w b.n R (R.eN s0 x fa m).1 ov mv (R.eN s0 x fa m).1 (R.eN s0 x fa m).2 wq)) (fun _ _ i _ => fb - (intOf i).toNat)
      case atStart => exact ⟨0, Nat.zero_le _, rfl, HM1.out⟩
      case round =>
        obtain ⟨m, hm, rfl, HM3⟩ := hrel
        have hok3 := R.eN_ok HD.out.T hok.1 x fa m
        have hL3 := hok3.1.le
        obtain ⟨s3, hs3⟩ : ∃ s3, s3 = R.eN s0 x fa m := ⟨_, rfl⟩
        rw [← hs3] at HM3 hok3 hL3
        have HS3 : Hid (s3 = R.eN s0 x fa m) := hs3
        clear hs3
        have cF2 := (HE.out.below HM3.out.b).fF (x + 1) (by omega)
        rw [← HFb.out] at cF2
        by_cases hme : fa + m < fb
        · have hmeI : ((fa + m : Nat) : Int) < (fb : Int) := by omega
          have hetI : ((fa + m : Nat) : Int) < (b.tot : Int) := by omega
          have hT2 := HD.out.T (fa + m)
          have cT := (HE.out.below HM3.out.b).fT (fa + m) (by omega)
          obtain ⟨t, ht⟩ : ∃ t, t = R.T (fa + m) := ⟨_, rfl⟩
          rw [← ht] at hT2 cT
          have HT : Hid (t = R.T (fa + m)) := ht
          clear ht
          have htI : (t : Int) < (b.n : Int) := by omega
          have cS := HM3.out.s.cell hT2
          cases hbb : R.sn s3.1 t
          · rw [hbb] at cS
            have hal := HD.out.al
            have HAc : Hid (R.A (fa + m) = AC b.al AB (fa + m)) := by rw [HA.out]; exact rfl
            cases hacc : R.A (fa + m)
            · go_wp2_with (first | (at_builtin; refine wpList_ml rfl (.tmp 283) (.tmp 286) rfl HM3.out x (fa + m) rfl rfl (by omega) ?_; intro mv5 w5 hM5; have cPa5 := (HE.out.below hM5.b).cPa; have cS5 := hM5.s.cell hT2; have fS5 := hM5.s.frozen t; rw [hbb] at cS5; replace hM5 : Hid (Md w b.n R s3.1 _ mv5 s3.1 (s3.2 ++ [x, fa + m]) w5) := hM5) | (go_at_call 5; refine (acc_c b.P b.aa b.al b.ac AB (fa + m) w5 (by omega) hal (HE.out.below hM5.out.b).cP (HE.out.below hM5.out.b).br).mono ?_; rintro _ _ ⟨rfl, q5, rfl⟩; rw [← HAc.out, hacc]))
              go_roundw
              case rel => exact ⟨m + 1, by omega, by go_num, by simp only [Rn.eN, Rn.eS, ← HS3.out, ← HT.out, hbb, hacc]; exact hM5.out.drewN _⟩
              case measure => simp [intOf]; omega
            · go_wp2_with (first | (at_builtin; refine wpList_ml rfl (.tmp 283) (.tmp 286) rfl HM3.out x (fa + m) rfl rfl (by omega) ?_; intro mv5 w5 hM5; have cPa5 := (HE.out.below hM5.b).cPa; have cS5 := hM5.s.cell hT2; have fS5 := hM5.s.frozen t; rw [hbb] at cS5; replace hM5 : Hid (Md w b.n R s3.1 _ mv5 s3.1 (s3.2 ++ [x, fa + m]) w5) := hM5) | (go_at_call 5; refine (acc_c b.P b.aa b.al b.ac AB (fa + m) w5 (by omega) hal (HE.out.below hM5.out.b).cP (HE.out.below hM5.out.b).br).mono ?_; rintro _ _ ⟨rfl, q5, rfl⟩; rw [← HAc.out, hacc]) | (at_builtin; refine wpList_mo' rfl (.tmp 294) (.tmp 296) rfl ((hM5.out.drewN q5).set hT2) t w5.heap.size (by simp [World.setCell, World.drewN]) rfl rfl (by omega) ?_; intro ov6 w6 hM6))
              go_roundw
              case rel => exact ⟨m + 1, by omega, by go_num, by simp only [Rn.eN, Rn.eS, ← HS3.out, ← HT.out, hbb, hacc]; exact hM6⟩
              case measure => simp [intOf]; omega
          · rw [hbb] at cS
            go_wp2
            go_roundw
            case rel => exact ⟨m + 1, by omega, by go_num, by simp only [Rn.eN, Rn.eS, ← HS3.out, ← HT.out, hbb, if_true]; exact HM3.out⟩
            case measure => simp [intOf]; omega
        · obtain rfl : m = fb - fa := by omega
          go_wp2
          go_roundw
          case rel =>
            have es : R.st b.ns (k + 1) = s3 := by
              rw [HS3.out]
              show R.nS (R.st b.ns k) k = _
              rw [← HS0.out]
              unfold Rn.nS
              rw [if_pos hlt, ← HX.out, ← HFa.out, ← HFb.out]
            refine ⟨k + 1, ?_, by go_num, by rw [es]; exact HM3.out⟩
            rw [es, HS3.out]
            exact Nat.le_trans hlt (R.eN_len s0 x fa _)
          case measure => simp [intOf]; omega
    · obtain rfl : k = s0.1.length := by omega
      have es : s0 = R.st b.ns K' := by
        have h1 : (R.st b.ns s0.1.length).1.length ≤ s0.1.length := by rw [← HS0.out]; exact Nat.le_refl _
        rw [← R.st_one b.ns h1 hK', ← HS0.out]
      subst es
      obtain ⟨oa, oc, e1, ho⟩ := own_nr HM1.out.o (fun j hj => u32_at _ j hj)
      obtain ⟨ma, mc', e2, hm⟩ := own_nr HM1.out.g (fun j hj => i64_at _ j hj)
      subst e1
      subst e2
      have HO : Hid (NR .u32 wr oa (R.st b.ns K').1.length (fun j => (((R.st b.ns K').1.getD j 0 : Nat) : Int))) := ho
      have HM2 : Hid (NR .i64 wr ma (R.st b.ns K').2.length (fun j => (((R.st b.ns K').2.getD j 0 : Nat) : Int))) := hm
      clear ho hm
      go_wp2
      rw [hT.out]
      have hb2 := HM1.out.b
      have hwn := HD.out.wn
      have hz := HM1.out.z
      exact tail_c N w0 _ sa ca qa oa ma la b.ns sc cc b.wn b.Sb wc Bb bbc b.Lg b.B bl bc qc oc _ mc' lc _ ZS _ R.W (hB.trans (hb2.mono hN)) (by omega) ⟨by omega, hwn2, hbl, by omega, by omega⟩ (fun x hx => by have := hok.1.2 x hx; omega) HD.out.W (HS1.out.below hb2) (HS2.out.below hb2) (HR.out.below hb2) HO.out (cell_below hb2 HG.out) (HL.out.below hb2) HM2.out (fun j hj => cell_below hb2 (HW.out j hj)) (HBf.out.later hb2 HBf.out.lt) (fun j hj => cell_below hb2 (HB.out j hj))

end Go.Proofs.Ybulkdxai
