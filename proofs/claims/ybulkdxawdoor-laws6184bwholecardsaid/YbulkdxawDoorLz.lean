/-
  THE LAW (3): one lock is made: its chain, its heads, t.recs.
-/
import Derived.Test.YbulkdxawDoorLa
import Derived.Test.YbulkdxawDoorLv
import Derived.Maps.AppendAt
namespace Go.Proofs.YbulkdxawDoor
open Go.RowKit

theorem own_slice {w : World} {b e s n : Nat} {v : Value} {xs : List Value} (h : w.ownsRow b e s v n xs) : ∃ a c, v = .slice a n c := by
  rcases h.2 with ⟨rfl, rfl⟩ | ⟨g, cap, cur, rfl, _⟩
  · exact ⟨none, 0, rfl⟩
  · exact ⟨_, _, rfl⟩
theorem own_kept {w w' : World} {base e s n : Nat} {v : Value} {xs : List Value} {P : Nat → Prop} (h : w.ownsRow base e s v n xs) (ho : Out P w w') (hv : ∀ k, v.ownBlock = some k → ¬ P k) : w'.ownsRow base e s v n xs := by
  refine ⟨h.1, ?_⟩
  rcases h.2 with h4 | ⟨g, c, cur, rfl, hb, hg, r⟩
  · exact .inl h4
  · exact .inr ⟨g, c, cur, rfl, hb, (ho.block g (row_lt hg) (hv g rfl)).trans hg, r⟩
theorem out_append {w w1 : World} {o : Obj} {r : Option Nat} (hg : (w.alloc o).grownBy w1 r) : Out (fun k => r = some k) w w1 :=
  ⟨hg.os, hg.tape, hg.output, Nat.le_trans (by simp) hg.size, fun k hk hn => (hg.block k (Nat.lt_of_lt_of_le hk (by simp)) (fun h => hn h.symm)).trans (heap_alloc_old w o hk)⟩

set_option maxRecDepth 1000000 in
set_option maxHeartbeats 4000000 in
theorem chain_c {Q : Exit → Act → World → Prop} (w : World) (T HD LS l base n lsc k kk h : Nat) (rv : Value) (lc : List Value) (f g : Nat → Value) (nx : Option Addr) (xs : List Value) (hk : k < n) (hn : n < 2 ^ 30) (hkk : kk < 2) (hh : h < 4096)
    (hl : w.heap[l]? = some (.cells lc.toArray 49 (0, 0))) (hl2 : lc[2]? = some (.pointer none)) (hH : RW w HD 43 f 8) (hf : f (kk * 4 + h / 1024) = .pointer nx) (hL : RW w LS 37 g n) (hgk : g k = .pointer none) (ht : w.heap[T]? = some (.cells (TC rv (.slice none 0 0) none).toArray 41 (0, 0)))
    (ho : w.ownsRow base 37 1 rv k xs) (hd1 : T ≠ HD) (hd2 : T ≠ LS) (hd3 : HD ≠ LS) (hb : T < base ∧ HD < base ∧ LS < base ∧ base ≤ l) (hlr : rv.ownBlock ≠ some l)
    {c0 c1 c2 c3 c4 c5 c6 c7 c8 c9 c10 c15 c17 c18 c21 c22 c23 c24 c25 c26 c27 c28 c29 c30 c31 c32 c33 c34 c35 c36 c37 c38 c39 c40 c41 c42 c43 c44 c45 c46 c47 c48 c49 c50 c51 c52 c53 c54 c55 c56 c57 c58 c59 c60 c61 c62 c63 c64 c65 c66 c67 c68 c69 c70 c71 c72 c73 c74 c75 c76 c77 c78 c79 c80 c81 c82 c83 c84 c85 c86 c87 c88 c89 c90 c91 c92 c93 c94 c95 c96 c97 c98 c99 c100 c101 c102 c103 c104 c105 c106 c107 c108 c109 c110 c111 c112 c113 c114 c115 c116 c117 c118 c119 c120 c121 c122 c123 c124 c125 c126 c127 c128 c129 c130 c131 c132 c133 c134 c135 c136 c137 c138 c139 c140 c141 c142 c143 c144 c145 c146 c147 c148 c149 c150 c151 c152 c153 c154 c155 c156 c157 c158 c159 c160 c161 c162 c163 c164 c165 c166 c167 c168 c169 c170 c171 c172 c173 c174 c175 c176 c177 c178 c179 c180 c181 c182 c183 c184 c185 c186 c187 c188 c189 c190 c191 c192 c193 c194 c195 c196 c197 c198 c199 c200 c201 c202 c203 c204 c205 c206 c207 c208 c209 c210 c211 c212 c213 c214 c215 c216 c217 c218 c219 c220 c221 c222 c223 c224 c225 c226 c227 c228 c229 c230 c231 c232 c233 c234 c235 c236 c237 c238 c239 c240 c241 c242 c243 c244 c245 c246 c247 c248 c249 c250 c251 c252 c253 c254 c255 c256 c257 c258 c259 c260 c261 c262 c263 c264 c265 c266 c267 c268 c269 c270 c271 c272 c273 c274 c275 c276 c277 c278 c279 c280 c281 c282 c283 c284 c285 c286 c287 c288 c289 c290 c291 c292 c293 c294 c295 c296 c297 c298 c299 c300 c301 c302 c303 c304 : Value}
    (hK : ∀ rv' w2, w2.heap[l]? = some (.cells (lc.set 2 (.pointer nx)).toArray 49 (0, 0)) → RW w2 HD 43 (fun j => if j = kk * 4 + h / 1024 then .pointer (some ⟨l, 0, none⟩) else f j) 8 → RW w2 LS 37 (fun j => if j = k then .pointer (some ⟨l, 0, none⟩) else g j) n → w2.heap[T]? = some (.cells (TC rv' (.slice none 0 0) none).toArray 41 (0, 0)) →
      w2.ownsRow base 37 1 rv' (k + 1) (xs ++ [.pointer (some ⟨l, 0, none⟩)]) → (rv'.ownBlock = rv.ownBlock ∨ ∃ b, rv'.ownBlock = some b ∧ w.heap.size ≤ b) → Out (fun b => b = l ∨ b = HD ∨ b = LS ∨ b = T ∨ rv.ownBlock = some b) w w2 → ∀ (e93 e94 e95 e96 e97 e98 e99 e100 e101 e102 e103 e104 e105 e106 e107 e108 e109 e110 e111 e112 e113 e114 e115 e116 e117 e118 e119 : Value), Q .normal ⟨#[c0, c1, c2, c3, c4, c5, c6, c7, c8, c9, c10, .pointer (some ⟨T, 0, none⟩), .pointer (some ⟨HD, 0, none⟩), .slice (some ⟨LS, 0, none⟩) n lsc, .int .i64 k, c15, .int .i64 kk, c17, c18, .int .u32 ((h / 1024 : Nat) : Int), .pointer (some ⟨l, 0, none⟩), c21, c22, c23, c24, c25, c26, c27, c28, c29, c30, c31, c32, c33, c34, c35, c36, c37, c38, c39, c40, c41, c42, c43, c44, c45, c46, c47, c48, c49, c50, c51, c52, c53, c54, c55, c56, c57, c58, c59, c60, c61, c62, c63, c64, c65, c66, c67, c68, c69, c70, c71, c72, c73, c74, c75, c76, c77, c78, c79, c80, c81, c82, c83, c84, c85, c86, c87, c88, c89, c90, c91, c92, e93, e94, e95, e96, e97, e98, e99, e100, e101, e102, e103, e104, e105, e106, e107, e108, e109, e110, e111, e112, e113, e114, e115, e116, e117, e118, e119, c120, c121, c122, c123, c124, c125, c126, c127, c128, c129, c130, c131, c132, c133, c134, c135, c136, c137, c138, c139, c140, c141, c142, c143, c144, c145, c146, c147, c148, c149, c150, c151, c152, c153, c154, c155, c156, c157, c158, c159, c160, c161, c162, c163, c164, c165, c166, c167, c168, c169, c170, c171, c172, c173, c174, c175, c176, c177, c178, c179, c180, c181, c182, c183, c184, c185, c186, c187, c188, c189, c190, c191, c192, c193, c194, c195, c196, c197, c198, c199, c200, c201, c202, c203, c204, c205, c206, c207, c208, c209, c210, c211, c212, c213, c214, c215, c216, c217, c218, c219, c220, c221, c222, c223, c224, c225, c226, c227, c228, c229, c230, c231, c232, c233, c234, c235, c236, c237, c238, c239, c240, c241, c242, c243, c244, c245, c246, c247, c248, c249, c250, c251, c252, c253, c254, c255, c256, c257, c258, c259, c260, c261, c262, c263, c264, c265, c266, c267, c268, c269, c270, c271, c272, c273, c274, c275, c276, c277, c278, c279, c280, c281, c282, c283, c284, c285, c286, c287, c288, c289, c290, c291, c292, c293, c294, c295, c296, c297, c298, c299, c300, c301, c302, c303, c304], []⟩ w2) :
    Code.wp Ybad.prog (tl 9 (inn (tl 7 (Ybad.f3.body.getD .skip)))) Q ⟨#[c0, c1, c2, c3, c4, c5, c6, c7, c8, c9, c10, .pointer (some ⟨T, 0, none⟩), .pointer (some ⟨HD, 0, none⟩), .slice (some ⟨LS, 0, none⟩) n lsc, .int .i64 k, c15, .int .i64 kk, c17, c18, .int .u32 ((h / 1024 : Nat) : Int), .pointer (some ⟨l, 0, none⟩), c21, c22, c23, c24, c25, c26, c27, c28, c29, c30, c31, c32, c33, c34, c35, c36, c37, c38, c39, c40, c41, c42, c43, c44, c45, c46, c47, c48, c49, c50, c51, c52, c53, c54, c55, c56, c57, c58, c59, c60, c61, c62, c63, c64, c65, c66, c67, c68, c69, c70, c71, c72, c73, c74, c75, c76, c77, c78, c79, c80, c81, c82, c83, c84, c85, c86, c87, c88, c89, c90, c91, c92, c93, c94, c95, c96, c97, c98, c99, c100, c101, c102, c103, c104, c105, c106, c107, c108, c109, c110, c111, c112, c113, c114, c115, c116, c117, c118, c119, c120, c121, c122, c123, c124, c125, c126, c127, c128, c129, c130, c131, c132, c133, c134, c135, c136, c137, c138, c139, c140, c141, c142, c143, c144, c145, c146, c147, c148, c149, c150, c151, c152, c153, c154, c155, c156, c157, c158, c159, c160, c161, c162, c163, c164, c165, c166, c167, c168, c169, c170, c171, c172, c173, c174, c175, c176, c177, c178, c179, c180, c181, c182, c183, c184, c185, c186, c187, c188, c189, c190, c191, c192, c193, c194, c195, c196, c197, c198, c199, c200, c201, c202, c203, c204, c205, c206, c207, c208, c209, c210, c211, c212, c213, c214, c215, c216, c217, c218, c219, c220, c221, c222, c223, c224, c225, c226, c227, c228, c229, c230, c231, c232, c233, c234, c235, c236, c237, c238, c239, c240, c241, c242, c243, c244, c245, c246, c247, c248, c249, c250, c251, c252, c253, c254, c255, c256, c257, c258, c259, c260, c261, c262, c263, c264, c265, c266, c267, c268, c269, c270, c271, c272, c273, c274, c275, c276, c277, c278, c279, c280, c281, c282, c283, c284, c285, c286, c287, c288, c289, c290, c291, c292, c293, c294, c295, c296, c297, c298, c299, c300, c301, c302, c303, c304], []⟩ w := by
  conv => arg 2; whnf
  replace hK : Hid _ := hK
  have hll := row_lt hl
  have hTl := row_lt ht
  have hs4 : h / 1024 < 4 := by omega
  obtain ⟨s, hs⟩ : ∃ s, s = h / 1024 := ⟨_, rfl⟩
  rw [← hs] at hs4 hf hK ⊢
  clear hs
  have hsI : (s : Int) < 4 := by omega
  have hkkI : (kk : Int) < 2 := by omega
  have hkI : (k : Int) < (n : Int) := by omega
  have h8 : kk * 4 + s < 8 := by omega
  -- the worlds
  obtain ⟨w1, hw1⟩ : ∃ w1, w1 = w.setCell ⟨l, 2, none⟩ (.pointer nx) := ⟨_, rfl⟩
  obtain ⟨w2, hw2⟩ : ∃ w2, w2 = w1.setCell ⟨HD, kk * 4 + s, none⟩ (.pointer (some ⟨l, 0, none⟩)) := ⟨_, rfl⟩
  obtain ⟨w3, hw3⟩ : ∃ w3, w3 = w2.setCell ⟨LS, k, none⟩ (.pointer (some ⟨l, 0, none⟩)) := ⟨_, rfl⟩
  have o1 : Out (fun b => b = l) w w1 := by rw [hw1]; exact out_set w ⟨l, 2, none⟩ _
  have o2 : Out (fun b => b = HD) w1 w2 := by rw [hw2]; exact out_set w1 ⟨HD, kk * 4 + s, none⟩ _
  have o3 : Out (fun b => b = LS) w2 w3 := by rw [hw3]; exact out_set w2 ⟨LS, k, none⟩ _
  have o13 : Out (fun b => b = l ∨ b = HD ∨ b = LS) w w3 := ((o1.mono (fun _ e => .inl e)).trans o2 (fun _ _ e => .inr (.inl e))).trans o3 (fun _ _ e => .inr (.inr e))
  have z3 : w3.heap.size = w.heap.size := by rw [hw3, hw2, hw1]; simp [World.setCell]
  have l1 : w1.heap[l]? = some (.cells (lc.set 2 (.pointer nx)).toArray 49 (0, 0)) := by rw [hw1]; exact setRow_list hl _ _
  have H1 := hH.later o1 (by omega)
  have H2 : RW w2 HD 43 (fun j => if j = kk * 4 + s then .pointer (some ⟨l, 0, none⟩) else f j) 8 := by rw [hw2]; exact H1.set h8 _ _ (fun i _ => rfl)
  have H3 := H2.later o3 (by omega)
  have L2 := (hL.later o1 (by omega)).later o2 (by omega)
  have L3 : RW w3 LS 37 (fun j => if j = k then .pointer (some ⟨l, 0, none⟩) else g j) n := by rw [hw3]; exact L2.set hk _ _ (fun i _ => rfl)
  have l3 : w3.heap[l]? = some (.cells (lc.set 2 (.pointer nx)).toArray 49 (0, 0)) := (o3.block _ (row_lt ((o2.block _ (row_lt l1) (by omega)).trans l1)) (by omega)).trans ((o2.block _ (row_lt l1) (by omega)).trans l1)
  have t3 : w3.heap[T]? = some (.cells (TC rv (.slice none 0 0) none).toArray 41 (0, 0)) := (o13.block _ hTl (by omega)).trans ht
  have ro3 : w3.ownsRow base 37 1 rv k xs := own_kept ho o13 (fun b hb2 e => by
    have := (ho.lt b hb2).1
    rcases e with e | e | e
    · exact hlr (e ▸ hb2)
    · omega
    · omega)
  have cH := hH.cell h8
  rw [hf] at cH
  have cc2 := cell_row hl hl2
  have f2 : w.frozen? ⟨l, 2, none⟩ = false := frozen_of_row _ _ _ _ _ hl
  have cH1 := H1.cell h8
  rw [hf] at cH1
  have fH1 := H1.frozen (kk * 4 + s)
  have cL2 := L2.cell hk
  rw [hgk] at cL2
  have fL2 := L2.frozen k
  have ct3 : w3.cell? ⟨T, 2, none⟩ = some rv := cell_row t3 rfl
  have HFIN : Hid (∀ rv' w5 g', (w3.alloc (.cells #[.pointer (some ⟨l, 0, none⟩)] 37)).grownBy w5 rv.ownBlock → w5.ownsRow base 37 1 rv' (k + 1) (xs ++ [.pointer (some ⟨l, 0, none⟩)]) → (rv'.ownBlock = rv.ownBlock ∨ rv'.ownBlock = some g') → w3.heap.size ≤ g' →
      w5.cell? ⟨T, 2, none⟩ = some rv ∧ w5.frozen? ⟨T, 2, none⟩ = false ∧ ∀ (e93 e94 e95 e96 e97 e98 e99 e100 e101 e102 e103 e104 e105 e106 e107 e108 e109 e110 e111 e112 e113 e114 e115 e116 e117 e118 e119 : Value), Q .normal ⟨#[c0, c1, c2, c3, c4, c5, c6, c7, c8, c9, c10, .pointer (some ⟨T, 0, none⟩), .pointer (some ⟨HD, 0, none⟩), .slice (some ⟨LS, 0, none⟩) n lsc, .int .i64 k, c15, .int .i64 kk, c17, c18, .int .u32 (s : Int), .pointer (some ⟨l, 0, none⟩), c21, c22, c23, c24, c25, c26, c27, c28, c29, c30, c31, c32, c33, c34, c35, c36, c37, c38, c39, c40, c41, c42, c43, c44, c45, c46, c47, c48, c49, c50, c51, c52, c53, c54, c55, c56, c57, c58, c59, c60, c61, c62, c63, c64, c65, c66, c67, c68, c69, c70, c71, c72, c73, c74, c75, c76, c77, c78, c79, c80, c81, c82, c83, c84, c85, c86, c87, c88, c89, c90, c91, c92, e93, e94, e95, e96, e97, e98, e99, e100, e101, e102, e103, e104, e105, e106, e107, e108, e109, e110, e111, e112, e113, e114, e115, e116, e117, e118, e119, c120, c121, c122, c123, c124, c125, c126, c127, c128, c129, c130, c131, c132, c133, c134, c135, c136, c137, c138, c139, c140, c141, c142, c143, c144, c145, c146, c147, c148, c149, c150, c151, c152, c153, c154, c155, c156, c157, c158, c159, c160, c161, c162, c163, c164, c165, c166, c167, c168, c169, c170, c171, c172, c173, c174, c175, c176, c177, c178, c179, c180, c181, c182, c183, c184, c185, c186, c187, c188, c189, c190, c191, c192, c193, c194, c195, c196, c197, c198, c199, c200, c201, c202, c203, c204, c205, c206, c207, c208, c209, c210, c211, c212, c213, c214, c215, c216, c217, c218, c219, c220, c221, c222, c223, c224, c225, c226, c227, c228, c229, c230, c231, c232, c233, c234, c235, c236, c237, c238, c239, c240, c241, c242, c243, c244, c245, c246, c247, c248, c249, c250, c251, c252, c253, c254, c255, c256, c257, c258, c259, c260, c261, c262, c263, c264, c265, c266, c267, c268, c269, c270, c271, c272, c273, c274, c275, c276, c277, c278, c279, c280, c281, c282, c283, c284, c285, c286, c287, c288, c289, c290, c291, c292, c293, c294, c295, c296, c297, c298, c299, c300, c301, c302, c303, c304], []⟩ (w5.setCell ⟨T, 2, none⟩ rv')) := by
    intro rv' w5 g' hg hown hat hg'
    have o5 := out_append hg
    have hnT : ∀ b, b < base → ¬ (rv.ownBlock = some b) := fun b hb2 e => by have := (ho.lt b e).1; omega
    have t5 : w5.heap[T]? = some (.cells (TC rv (.slice none 0 0) none).toArray 41 (0, 0)) := (o5.block _ (by omega) (hnT _ hb.1)).trans t3
    refine ⟨cell_row t5 rfl, frozen_of_row _ _ _ _ _ t5, fun e93 e94 e95 e96 e97 e98 e99 e100 e101 e102 e103 e104 e105 e106 e107 e108 e109 e110 e111 e112 e113 e114 e115 e116 e117 e118 e119 => ?_⟩
    have o6 : Out (fun b => b = T) w5 (w5.setCell ⟨T, 2, none⟩ rv') := out_set w5 ⟨T, 2, none⟩ _
    have h5 := o5.size
    refine hK.out rv' _ ((o6.block _ (by omega) (by omega)).trans ((o5.block _ (by omega) hlr).trans l3)) ((H3.later o5 (hnT _ hb.2.1)).later o6 (fun e => hd1 e.symm)) ((L3.later o5 (hnT _ hb.2.2.1)).later o6 (fun e => hd2 e.symm)) ?_ (own_kept hown o6 (fun b hb2 e => ?_)) ?_ ?_ _ _ _ _ _ _ _ _ _ _ _ _ _ _ _ _ _ _ _ _ _ _ _ _ _ _ _
    · rw [setRow_list t5 2 rv']; rfl
    · have := (hown.lt b hb2).1
      omega
    · rcases hat with e | e
      · exact .inl e
      · exact .inr ⟨g', e, by omega⟩
    · refine ((o13.mono (fun b e => ?_)).trans o5 (fun _ _ e => .inr (.inr (.inr (.inr e))))).trans o6 (fun _ _ e => .inr (.inr (.inr (.inl e))))
      rcases e with e | e | e
      · exact .inl e
      · exact .inr (.inl e)
      · exact .inr (.inr (.inl e))
  have hbz : base ≤ w3.heap.size := by omega
  replace hw1 := hw1.symm
  replace hw2 := hw2.symm
  replace hw3 := hw3.symm
  obtain ⟨i0, hi, hz0, hz1, hz2⟩ := info_parts info37
  have HRo : Hid (w3.ownsRow base 37 1 rv k xs) := ro3
  have hz : base ≤ w3.heap.size := hbz
  clear hK hl hl2 hH hf hL hgk ht ho o1 o2 o3 o13 z3 l1 H1 H2 H3 L2 L3 l3 t3 ro3 hbz
  go_wp2_with (first | (at_builtin; refine wpList_append_own_at _ rfl (.tmp 114) (.tmp 116) 33 rfl base 37 i0 (.pointer none) 1 8 Ybad.underlying33 hi hz0 hz1 hz2 rfl (by decide) _ _ _ rfl (HRo.out.alloc _) ⟨w3.heap.size, 0, none⟩ 1 1 [.pointer (some ⟨l, 0, none⟩)] rfl rfl (cell_one_new _ _ _) (by intro u hu; simp at hu; subst hu; rfl) (by unfold maxLen; omega) (by omega) (Nat.le_trans hz (by simp)) ?_; intro rv' w5 hown hgrow _ hat; obtain ⟨va, vc, rfl⟩ := own_slice hown; obtain ⟨ct5, ft5, HQ⟩ := HFIN.out _ w5 _ hgrow hown hat (by simp); replace HQ : Hid _ := HQ))
  exact HQ.out _ _ _ _ _ _ _ _ _ _ _ _ _ _ _ _ _ _ _ _ _ _ _ _ _ _ _

end Go.Proofs.YbulkdxawDoor
