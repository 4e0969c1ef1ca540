/-
  THE LAW (3): one lock is made: its bit, its chain, its heads, t.recs.
-/
import Derived.Test.YbulkdxawDoorLb
import Derived.Maps.AppendAt
namespace Go.Proofs.YbulkdxawDoor
open Go.RowKit

/-- The loop's inner code. -/
def inn : Code → Code
  | .seq (.seq _ (.block _ (.loop (.seq _ (.seq (.block _ i) _))))) _ => i
  | c => c
theorem inner1 {P : Program} {R A B i rest : Code} {n m : Nat} {Q : Exit → Act → World → Prop} {x : Act} {w : World} (T : Code) (e : i = T) (h : Code.wp P (.seq (.seq R (.block n (.loop (.seq A (.seq (.block m T) B))))) rest) Q x w) : Code.wp P (.seq (.seq R (.block n (.loop (.seq A (.seq (.block m i) B))))) rest) Q x w := by subst e; exact h

/-- A lock ahead of its bit. -/
def lk0 (T Q : Nat) (i h m : Nat) : List Value :=
  [.pointer (some ⟨T, 0, none⟩), .pointer (some ⟨Q, 0, none⟩), .pointer none, .int .u64 (i : Int), .int .u32 ((h / 1024 : Nat) : Int), .int .u32 0, .int .u8 (m : Int)] ++ (List.range 16).map fun _ => .int .u64 0
theorem lk0_bit (T Q i h m j : Nat) (hj : j < 16) : (lk0 T Q i h m)[7 + j]? = some (.int .u64 0) := by
  unfold lk0
  rw [List.getElem?_append_right (by simp)]
  simp [hj]
theorem lk0_set (T Q : Nat) (nx : Option Addr) (i h m : Nat) : ((lk0 T Q i h m).set (7 + h % 1024 / 64) (.int .u64 ((2 ^ (h % 64) : Nat) : Int))).set 2 (.pointer nx) = lkC T Q nx i h m := by
  apply List.ext_getElem?
  intro j
  unfold lk0 lkC
  by_cases hj : j < 7
  · by_cases e2 : 2 = j
    · subst e2
      rw [List.getElem?_set_self (by simp)]
      rfl
    · rw [List.getElem?_set_ne e2, List.getElem?_set_ne (by omega), List.getElem?_append_left (by simpa using hj), List.getElem?_append_left (by simpa using hj)]
      match j, hj, e2 with
      | 0, _, _ | 1, _, _ | 3, _, _ | 4, _, _ | 5, _, _ | 6, _, _ => rfl
  · obtain ⟨d, rfl⟩ := Nat.exists_eq_add_of_le (Nat.le_of_not_lt hj)
    rw [List.getElem?_set_ne (by omega), List.getElem?_set, List.getElem?_append_right (by simp), List.getElem?_append_right (by simp)]
    simp only [List.length_cons, List.length_nil, Nat.add_sub_cancel_left, Nat.zero_add, Nat.reduceAdd, List.length_append, List.length_map, List.length_range, List.getElem?_map]
    by_cases hd : d < 16
    · rw [List.getElem?_range hd]
      by_cases e : h % 1024 / 64 = d
      · subst e; simp; omega
      · rw [if_neg (by omega)]
        simp [Ne.symm e]
    · rw [List.getElem?_eq_none (by simpa using hd), if_neg (by omega)]
      rfl

theorem setRow_list {w : World} {b t : Nat} {l : List Value} (h : w.heap[b]? = some (.cells l.toArray t (0, 0))) (j : Nat) (v : Value) : (w.setCell ⟨b, j, none⟩ v).heap[b]? = some (.cells (l.set j v).toArray t (0, 0)) := by
  rw [heap_setCell_same w b j _ _ _ h]; simp

set_option maxRecDepth 1000000 in
set_option maxHeartbeats 8000000 in
theorem bit_c {Q : Exit → Act → World → Prop} (w : World) (l k h m T Qx : Nat) (hl : w.heap[l]? = some (.cells (lk0 T Qx k h m).toArray 49 (0, 0)))
    {c0 c1 c2 c3 c4 c5 c6 c7 c8 c9 c10 c11 c12 c13 c14 c15 c16 c17 c18 c19 c22 c23 c24 c25 c26 c27 c28 c29 c30 c31 c32 c33 c34 c35 c36 c37 c38 c39 c40 c41 c42 c43 c44 c45 c46 c47 c48 c49 c50 c51 c52 c53 c54 c55 c56 c57 c58 c59 c60 c61 c62 c63 c64 c65 c66 c67 c68 c69 c70 c71 c72 c73 c74 c75 c76 c77 c78 c79 c80 c81 c82 c83 c84 c85 c86 c87 c88 c89 c90 c91 c92 c93 c94 c95 c96 c97 c98 c99 c100 c101 c102 c103 c104 c105 c106 c107 c108 c109 c110 c111 c112 c113 c114 c115 c116 c117 c118 c119 c120 c121 c122 c123 c124 c125 c126 c127 c128 c129 c130 c131 c132 c133 c134 c135 c136 c137 c138 c139 c140 c141 c142 c143 c144 c145 c146 c147 c148 c149 c150 c151 c152 c153 c154 c155 c156 c157 c158 c159 c160 c161 c162 c163 c164 c165 c166 c167 c168 c169 c170 c171 c172 c173 c174 c175 c176 c177 c178 c179 c180 c181 c182 c183 c184 c185 c186 c187 c188 c189 c190 c191 c192 c193 c194 c195 c196 c197 c198 c199 c200 c201 c202 c203 c204 c205 c206 c207 c208 c209 c210 c211 c212 c213 c214 c215 c216 c217 c218 c219 c220 c221 c222 c223 c224 c225 c226 c227 c228 c229 c230 c231 c232 c233 c234 c235 c236 c237 c238 c239 c240 c241 c242 c243 c244 c245 c246 c247 c248 c249 c250 c251 c252 c253 c254 c255 c256 c257 c258 c259 c260 c261 c262 c263 c264 c265 c266 c267 c268 c269 c270 c271 c272 c273 c274 c275 c276 c277 c278 c279 c280 c281 c282 c283 c284 c285 c286 c287 c288 c289 c290 c291 c292 c293 c294 c295 c296 c297 c298 c299 c300 c301 c302 c303 c304 : Value}
    (hK : ∀ (e79 e80 e81 e82 e83 e84 e85 e86 e87 e88 e89 e90 e91 e92 : Value), Code.wp Ybad.prog (tl 9 (inn (tl 7 (Ybad.f3.body.getD .skip)))) Q ⟨#[c0, c1, c2, c3, c4, c5, c6, c7, c8, c9, c10, c11, c12, c13, c14, c15, c16, c17, c18, c19, .pointer (some ⟨l, 0, none⟩), .int .u32 ((h % 1024 : Nat) : Int), c22, c23, c24, c25, c26, c27, c28, c29, c30, c31, c32, c33, c34, c35, c36, c37, c38, c39, c40, c41, c42, c43, c44, c45, c46, c47, c48, c49, c50, c51, c52, c53, c54, c55, c56, c57, c58, c59, c60, c61, c62, c63, c64, c65, c66, c67, c68, c69, c70, c71, c72, c73, c74, c75, c76, c77, c78, e79, e80, e81, e82, e83, e84, e85, e86, e87, e88, e89, e90, e91, e92, c93, c94, c95, c96, c97, c98, c99, c100, c101, c102, c103, c104, c105, c106, c107, c108, c109, c110, c111, c112, c113, c114, c115, c116, c117, c118, c119, c120, c121, c122, c123, c124, c125, c126, c127, c128, c129, c130, c131, c132, c133, c134, c135, c136, c137, c138, c139, c140, c141, c142, c143, c144, c145, c146, c147, c148, c149, c150, c151, c152, c153, c154, c155, c156, c157, c158, c159, c160, c161, c162, c163, c164, c165, c166, c167, c168, c169, c170, c171, c172, c173, c174, c175, c176, c177, c178, c179, c180, c181, c182, c183, c184, c185, c186, c187, c188, c189, c190, c191, c192, c193, c194, c195, c196, c197, c198, c199, c200, c201, c202, c203, c204, c205, c206, c207, c208, c209, c210, c211, c212, c213, c214, c215, c216, c217, c218, c219, c220, c221, c222, c223, c224, c225, c226, c227, c228, c229, c230, c231, c232, c233, c234, c235, c236, c237, c238, c239, c240, c241, c242, c243, c244, c245, c246, c247, c248, c249, c250, c251, c252, c253, c254, c255, c256, c257, c258, c259, c260, c261, c262, c263, c264, c265, c266, c267, c268, c269, c270, c271, c272, c273, c274, c275, c276, c277, c278, c279, c280, c281, c282, c283, c284, c285, c286, c287, c288, c289, c290, c291, c292, c293, c294, c295, c296, c297, c298, c299, c300, c301, c302, c303, c304], []⟩ ((w.setCell ⟨l, 7 + h % 1024 / 64, none⟩ (.int .u64 ((2 ^ (h % 64) : Nat) : Int))).drew)) :
    Code.wp Ybad.prog (tl 8 (inn (tl 7 (Ybad.f3.body.getD .skip)))) Q ⟨#[c0, c1, c2, c3, c4, c5, c6, c7, c8, c9, c10, c11, c12, c13, c14, c15, c16, c17, c18, c19, .pointer (some ⟨l, 0, none⟩), .int .u32 ((h % 1024 : Nat) : Int), c22, c23, c24, c25, c26, c27, c28, c29, c30, c31, c32, c33, c34, c35, c36, c37, c38, c39, c40, c41, c42, c43, c44, c45, c46, c47, c48, c49, c50, c51, c52, c53, c54, c55, c56, c57, c58, c59, c60, c61, c62, c63, c64, c65, c66, c67, c68, c69, c70, c71, c72, c73, c74, c75, c76, c77, c78, c79, c80, c81, c82, c83, c84, c85, c86, c87, c88, c89, c90, c91, c92, c93, c94, c95, c96, c97, c98, c99, c100, c101, c102, c103, c104, c105, c106, c107, c108, c109, c110, c111, c112, c113, c114, c115, c116, c117, c118, c119, c120, c121, c122, c123, c124, c125, c126, c127, c128, c129, c130, c131, c132, c133, c134, c135, c136, c137, c138, c139, c140, c141, c142, c143, c144, c145, c146, c147, c148, c149, c150, c151, c152, c153, c154, c155, c156, c157, c158, c159, c160, c161, c162, c163, c164, c165, c166, c167, c168, c169, c170, c171, c172, c173, c174, c175, c176, c177, c178, c179, c180, c181, c182, c183, c184, c185, c186, c187, c188, c189, c190, c191, c192, c193, c194, c195, c196, c197, c198, c199, c200, c201, c202, c203, c204, c205, c206, c207, c208, c209, c210, c211, c212, c213, c214, c215, c216, c217, c218, c219, c220, c221, c222, c223, c224, c225, c226, c227, c228, c229, c230, c231, c232, c233, c234, c235, c236, c237, c238, c239, c240, c241, c242, c243, c244, c245, c246, c247, c248, c249, c250, c251, c252, c253, c254, c255, c256, c257, c258, c259, c260, c261, c262, c263, c264, c265, c266, c267, c268, c269, c270, c271, c272, c273, c274, c275, c276, c277, c278, c279, c280, c281, c282, c283, c284, c285, c286, c287, c288, c289, c290, c291, c292, c293, c294, c295, c296, c297, c298, c299, c300, c301, c302, c303, c304], []⟩ w := by
  obtain ⟨T1, hT1⟩ : ∃ T1, T1 = tl 9 (inn (tl 7 (Ybad.f3.body.getD .skip))) := ⟨_, rfl⟩
  conv => arg 2; whnf
  refine split1 T1 hT1.symm ?_
  replace hT1 : Hid (T1 = tl 9 (inn (tl 7 (Ybad.f3.body.getD .skip)))) := hT1
  replace hK : Hid _ := hK
  obtain ⟨ix, hix⟩ : ∃ ix, ix = h % 1024 := ⟨_, rfl⟩
  obtain ⟨d, hd⟩ : ∃ d, d = h % 1024 / 64 := ⟨_, rfl⟩
  obtain ⟨e, hee⟩ : ∃ e, e = h % 64 := ⟨_, rfl⟩
  have hd16 : d < 16 := by omega
  have he64 : e < 64 := by omega
  have c7 := cell_row hl (lk0_bit T Qx k h m d hd16)
  have f7 : w.frozen? ⟨l, 7 + d, none⟩ = false := frozen_of_row _ _ _ _ _ hl
  have hor : bits .or .u64 0 (IntKind.u64.wrap (2 ^ e)) = ((2 ^ e : Nat) : Int) := by
    have := bits_or_u64_nat 0 (2 ^ e) (by omega) (pow_lt64 he64)
    rw [wrap_pow he64]
    simpa using this
  have hq1 : (ix : Int) / 64 = (d : Int) := by omega
  have hq2 : (ix : Int) % 64 = (e : Int) := by omega
  have hq3 : (ix : Int).tdiv 64 = (d : Int) := by rw [Int.tdiv_eq_ediv_of_nonneg (by omega)]; exact hq1
  have hq4 : (ix : Int).tmod 64 = (e : Int) := by rw [Int.tmod_eq_emod_of_nonneg (by omega)]; exact hq2
  have hdI : (d : Int) < 16 := by omega
  have hw1 : (d : Int) % 4294967296 = (d : Int) := by omega
  have hw2 : IntKind.u32.wrap (d : Int) = (d : Int) := by rw [IntKind.wrap_u32]; exact hw1
  have hd0 : (0 : Int) ≤ (d : Int) := by omega
  have he0 : (0 : Int) ≤ (e : Int) := by omega
  have hixl : ix < 1024 := by omega
  rw [← hix]
  replace hd : Hid (d = h % 1024 / 64) := hd
  replace hee : Hid (e = h % 64) := hee
  clear hl
  replace hix : Hid (ix = h % 1024) := hix
  go_wp2
  go_region
  go_wp2
  rw [hT1.out]
  rw [show ((2 : Int) ^ e) = ((2 ^ e : Nat) : Int) by simp]
  have hd' := hd.out
  have he' := hee.out
  have hi' := hix.out
  subst hd' he' hi'
  exact hK.out _ _ _ _ _ _ _ _ _ _ _ _ _ _

end Go.Proofs.YbulkdxawDoor
