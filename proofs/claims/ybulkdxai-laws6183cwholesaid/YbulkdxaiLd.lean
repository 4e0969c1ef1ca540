/-
  THE LAW (3), ITS LAST PART: the four checks and the last line.
-/
import Derived.Test.YbulkdxaiWr
namespace Go.Proofs.Ybulkdxai
open Go.RowKit

/-- What lies behind k statements. -/
def tl : Nat → Code → Code
  | 0, c => c
  | k + 1, .seq _ b => tl k b
  | _, c => c

theorem split1 {P : Program} {a t : Code} {Q : Exit → Act → World → Prop} {x : Act} {w : World} (T : Code) (e : t = T) (h : Code.wp P (.seq a T) Q x w) : Code.wp P (.seq a t) Q x w := by subst e; exact h
theorem split2 {P : Program} {a b t : Code} {Q : Exit → Act → World → Prop} {x : Act} {w : World} (T : Code) (e : t = T) (h : Code.wp P (.seq a (.seq b T)) Q x w) : Code.wp P (.seq a (.seq b t)) Q x w := by subst e; exact h
theorem split3 {P : Program} {a b c t : Code} {Q : Exit → Act → World → Prop} {x : Act} {w : World} (T : Code) (e : t = T) (h : Code.wp P (.seq a (.seq b (.seq c T))) Q x w) : Code.wp P (.seq a (.seq b (.seq c t))) Q x w := by subst e; exact h
theorem split4 {P : Program} {a b c d t : Code} {Q : Exit → Act → World → Prop} {x : Act} {w : World} (T : Code) (e : t = T) (h : Code.wp P (.seq a (.seq b (.seq c (.seq d T)))) Q x w) : Code.wp P (.seq a (.seq b (.seq c (.seq d t)))) Q x w := by subst e; exact h
theorem split5 {P : Program} {a b c d f t : Code} {Q : Exit → Act → World → Prop} {x : Act} {w : World} (T : Code) (e : t = T) (h : Code.wp P (.seq a (.seq b (.seq c (.seq d (.seq f T))))) Q x w) : Code.wp P (.seq a (.seq b (.seq c (.seq d (.seq f t))))) Q x w := by subst e; exact h
theorem split6 {P : Program} {a b c d f g t : Code} {Q : Exit → Act → World → Prop} {x : Act} {w : World} (T : Code) (e : t = T) (h : Code.wp P (.seq a (.seq b (.seq c (.seq d (.seq f (.seq g T)))))) Q x w) : Code.wp P (.seq a (.seq b (.seq c (.seq d (.seq f (.seq g t)))))) Q x w := by subst e; exact h

/-- What the walk makes of 1<<31 | uint32(i). -/
def OV (i : Nat) : Int := bits .or .u32 2147483648 (i : Int)

set_option maxRecDepth 1000000 in
set_option maxHeartbeats 4000000 in
theorem tail_d (N : Nat) (w0 w : World) (sa ca qa oa ma la : Option Addr) (ns sc cc wn Sb wc Lg B bl bc Ln qc oc Gn mc lc Eb ec : Nat) (Z ZS Y : Nat → Int) (WF : Nat → Nat)
    (hB : Below N w0 w) (bn : ns < 2 ^ 40 ∧ wn < 2 ^ 40 ∧ bl < 256 ∧ Ln < 2 ^ 40 ∧ Gn < 2 ^ 40)
    (hs1 : NR .u32 w sa ns ZS) (hs2 : NR .u32 w ca ns ZS) (hr : NR .u32 w qa Ln Z) (ho : NR .u32 w oa Ln Z)
    (hlg : w.cell? ⟨Lg, 0, none⟩ = some (.slice la Gn lc)) (hl : NR .i64 w la Gn Y) (hm : NR .i64 w ma Gn Y)
    (hw : ∀ j, j < wn → w.cell? ⟨Sb, j, none⟩ = some (.int .u64 (WF j))) (hx : ∀ j, j < wn → w.cell? ⟨Eb, j, none⟩ = some (.int .u64 (WF j)))
    (hb : ∀ j, j < bl → w.cell? ⟨B, j, none⟩ = some (.int .u32 (if j < Ln then Z j else OV j)))
    {c0 c1 c2 c3 c4 c5 c6 c7 c8 c9 c10 c11 c13 c14 c15 c16 c17 c18 c19 c20 c22 c26 c27 c28 c29 c31 c33 c35 c36 c38 c39 c41 c42 c43 c44 c46 c47 c48 c49 c50 c51 c52 c53 c54 c55 c56 c57 c58 c59 c60 c61 c62 c63 c64 c65 c66 c67 c68 c69 c70 c71 c72 c73 c74 c75 c76 c77 c78 c79 c80 c81 c82 c83 c84 c85 c86 c87 c88 c89 c90 c91 c92 c93 c94 c95 c96 c97 c98 c99 c100 c101 c102 c103 c104 c105 c106 c107 c108 c109 c110 c111 c112 c113 c114 c115 c116 c117 c118 c119 c120 c121 c122 c123 c124 c125 c126 c127 c128 c129 c130 c131 c132 c133 c134 c135 c136 c137 c138 c139 c140 c141 c142 c143 c144 c145 c146 c147 c148 c149 c150 c151 c152 c153 c154 c155 c156 c157 c158 c159 c160 c161 c162 c163 c164 c165 c166 c167 c168 c169 c170 c171 c172 c173 c174 c175 c176 c177 c178 c179 c180 c181 c182 c183 c184 c185 c186 c187 c188 c189 c190 c191 c192 c193 c194 c195 c196 c197 c198 c199 c200 c201 c202 c203 c204 c205 c206 c207 c208 c209 c210 c211 c212 c213 c214 c215 c216 c217 c218 c219 c220 c221 c222 c223 c224 c225 c226 c227 c228 c229 c230 c231 c232 c233 c234 c235 c236 c237 c238 c239 c240 c241 c242 c243 c244 c245 c246 c247 c248 c249 c250 c251 c252 c253 c254 c255 c256 c257 c258 c259 c260 c261 c262 c263 c264 c265 c266 c267 c268 c269 c270 c271 c272 c273 c274 c275 c276 c277 c278 c279 c280 c281 c282 c283 c284 c285 c286 c287 c288 c289 c290 c291 c292 c293 c294 c295 c296 c297 c298 c299 c300 c301 c302 c303 c304 c305 c306 c307 c308 c309 c310 c311 c312 c313 c314 c315 c316 c317 c318 c319 c320 c321 c322 c323 c324 c325 c326 c327 c328 c329 c330 c331 c332 c333 c334 c335 c336 c337 c338 c339 c340 c341 c342 c343 c344 c345 c346 c347 c348 c349 c350 c351 c352 c353 c354 c355 c356 c357 c358 c359 c360 c361 c362 c363 c364 c365 c366 c367 c368 c369 c370 c371 c372 c373 c374 c375 c376 c377 c378 c379 c380 c381 c382 c383 c384 c385 c386 c387 c388 c389 c390 : Value} :
    Code.wp Yba.prog (tl 32 (Yba.f3.body.getD .skip)) (bodyPost Yba.prog Yba.f3 fun e w' => e = .returned (.bool true) ∧ Below N w0 w') ⟨#[c0, c1, c2, c3, c4, c5, c6, c7, c8, c9, c10, c11, .bool false, c13, c14, c15, c16, c17, c18, c19, c20, .slice sa ns sc, c22, .slice ca ns cc, .int .i64 wn, .slice (some ⟨Sb, 0, none⟩) wn wc, c26, c27, c28, c29, .pointer (some ⟨Lg, 0, none⟩), c31, .slice (some ⟨B, 0, none⟩) bl bc, c33, .slice qa Ln qc, c35, c36, .slice oa Ln oc, c38, c39, .slice ma Gn mc, c41, c42, c43, c44, .slice (some ⟨Eb, 0, none⟩) wn ec, c46, c47, c48, c49, c50, c51, c52, c53, c54, c55, c56, c57, c58, c59, c60, c61, c62, c63, c64, c65, c66, c67, c68, c69, c70, c71, c72, c73, c74, c75, c76, c77, c78, c79, c80, c81, c82, c83, c84, c85, c86, c87, c88, c89, c90, c91, c92, c93, c94, c95, c96, c97, c98, c99, c100, c101, c102, c103, c104, c105, c106, c107, c108, c109, c110, c111, c112, c113, c114, c115, c116, c117, c118, c119, c120, c121, c122, c123, c124, c125, c126, c127, c128, c129, c130, c131, c132, c133, c134, c135, c136, c137, c138, c139, c140, c141, c142, c143, c144, c145, c146, c147, c148, c149, c150, c151, c152, c153, c154, c155, c156, c157, c158, c159, c160, c161, c162, c163, c164, c165, c166, c167, c168, c169, c170, c171, c172, c173, c174, c175, c176, c177, c178, c179, c180, c181, c182, c183, c184, c185, c186, c187, c188, c189, c190, c191, c192, c193, c194, c195, c196, c197, c198, c199, c200, c201, c202, c203, c204, c205, c206, c207, c208, c209, c210, c211, c212, c213, c214, c215, c216, c217, c218, c219, c220, c221, c222, c223, c224, c225, c226, c227, c228, c229, c230, c231, c232, c233, c234, c235, c236, c237, c238, c239, c240, c241, c242, c243, c244, c245, c246, c247, c248, c249, c250, c251, c252, c253, c254, c255, c256, c257, c258, c259, c260, c261, c262, c263, c264, c265, c266, c267, c268, c269, c270, c271, c272, c273, c274, c275, c276, c277, c278, c279, c280, c281, c282, c283, c284, c285, c286, c287, c288, c289, c290, c291, c292, c293, c294, c295, c296, c297, c298, c299, c300, c301, c302, c303, c304, c305, c306, c307, c308, c309, c310, c311, c312, c313, c314, c315, c316, c317, c318, c319, c320, c321, c322, c323, c324, c325, c326, c327, c328, c329, c330, c331, c332, c333, c334, c335, c336, c337, c338, c339, c340, c341, c342, c343, c344, c345, c346, c347, c348, c349, c350, c351, c352, c353, c354, c355, c356, c357, c358, c359, c360, c361, c362, c363, c364, c365, c366, c367, c368, c369, c370, c371, c372, c373, c374, c375, c376, c377, c378, c379, c380, c381, c382, c383, c384, c385, c386, c387, c388, c389, c390], []⟩ w := by
  conv => arg 2; whnf
  have HS1 : Hid (NR .u32 w sa ns ZS) := hs1
  have HS2 : Hid (NR .u32 w ca ns ZS) := hs2
  have HR : Hid (NR .u32 w qa Ln Z) := hr
  have HO : Hid (NR .u32 w oa Ln Z) := ho
  have HL : Hid (NR .i64 w la Gn Y) := hl
  have HM : Hid (NR .i64 w ma Gn Y) := hm
  have HW : Hid (∀ j, j < wn → w.cell? ⟨Sb, j, none⟩ = some (.int .u64 (WF j))) := hw
  have HX : Hid (∀ j, j < wn → w.cell? ⟨Eb, j, none⟩ = some (.int .u64 (WF j))) := hx
  have HB : Hid (∀ j, j < bl → w.cell? ⟨B, j, none⟩ = some (.int .u32 (if j < Ln then Z j else OV j))) := hb
  clear hs1 hs2 hr ho hl hm hw hx hb
  have hbn1 := bn.1
  have hbn2 := bn.2.1
  have hbn3 := bn.2.2.1
  have hbn4 := bn.2.2.2.1
  have hbn5 := bn.2.2.2.2
  clear bn
  go_wp2_with (first | (go_at_call 8; refine (eq8 qa oa Ln qc oc Z w hbn4 HR.out HO.out).mono ?_; rintro _ _ ⟨rfl, q1, rfl⟩) | (go_at_call 9; refine (eq9 la ma Gn lc mc Y (w.drewN q1) hbn5 HL.out HM.out).mono ?_; rintro _ _ ⟨rfl, q2, rfl⟩))
  go_loopw [48] (fun i wr => ∃ (k q : Nat), k ≤ wn ∧ i = .int .i64 k ∧ wr = w.drewN q) (fun i _ => wn - (intOf i).toNat)
  case atStart => exact ⟨0, q1 + q2, Nat.zero_le _, rfl, rfl⟩
  case round =>
    obtain ⟨k, q, hk, rfl, rfl⟩ := hrel
    by_cases hlt : k < wn
    · have g1 := HW.out k hlt
      have g2 := HX.out k hlt
      have hI : (k : Int) < (wn : Int) := by omega
      go_wp2
      go_quiet (fail)
      go_wp2
      go_roundw
      case rel => exact ⟨k + 1, _, by omega, by go_num, rfl⟩
      case measure => simp [intOf]; omega
    · obtain rfl : k = wn := by omega
      go_wp2
      go_loopw [49] (fun i wr => ∃ (j q : Nat), j ≤ bl ∧ i = .int .i64 j ∧ wr = w.drewN q) (fun i _ => bl - (intOf i).toNat)
      case atStart => exact ⟨0, _, Nat.zero_le _, rfl, rfl⟩
      case round =>
        obtain ⟨j, q, hj, rfl, rfl⟩ := hrel
        by_cases hlt : j < bl
        · have g1 := HB.out j hlt
          have hI : (j : Int) < (bl : Int) := by omega
          by_cases hL : j < Ln
          · rw [if_pos hL] at g1
            obtain ⟨ob, oo, rfl, hoc⟩ := HO.out (by omega)
            have g2 := hoc j hL
            have hLI : (j : Int) < (Ln : Int) := by omega
            clear hoc
            go_wp2
            go_quiet (fail)
            go_wp2
            go_roundw
            case rel => exact ⟨j + 1, _, by omega, by go_num, rfl⟩
            case measure => simp [intOf]; omega
          · rw [if_neg hL] at g1
            have hLI : (Ln : Int) ≤ (j : Int) := by omega
            unfold OV at g1
            go_wp2
            go_roundw
            case rel => exact ⟨j + 1, _, by omega, by go_num, rfl⟩
            case measure => simp [intOf]; omega
        · go_wp2_with (first | (go_at_call 8; refine (eq8 sa ca ns sc cc ZS (w.drewN q) hbn1 HS1.out HS2.out).mono ?_; rintro _ _ ⟨rfl, q3, rfl⟩))
          go_ret
          exact ⟨rfl, ⟨hB.os, hB.tape, hB.output, hB.size, hB.block⟩⟩

end Go.Proofs.Ybulkdxai
