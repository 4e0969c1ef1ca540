/-
  THE LAW (3): the locks are made.
-/
import Derived.Test.YbulkdxawDoorLz
namespace Go.Proofs.YbulkdxawDoor
open Go.RowKit

theorem inner2 {P : Program} {A B i : Code} {m : Nat} {Q : Exit → Act → World → Prop} {x : Act} {w : World} (T : Code) (e : i = T) (h : Code.wp P (.seq A (.seq (.block m T) B)) Q x w) : Code.wp P (.seq A (.seq (.block m i) B)) Q x w := by subst e; exact h
theorem wp_letter {P : Program} {c : Code} {Q : Exit → Act → World → Prop} {x : Act} {w : World} (h : ∀ w2, w2 = w → Code.wp P c Q x w2) : Code.wp P c Q x w := h w rfl

set_option maxRecDepth 1000000 in
set_option maxHeartbeats 4000000 in
theorem tail_a (w0 w : World) (N : Nat) (D : Lk) (HH : Nat → Nat) (hHH : ∀ i, D.H i = HH i % 4096) (of : Bool) (a : Option Addr) (n cap hp m : Nat) (L0 : Nat → Nat) (hN : N = w0.heap.size) (hn : n < 2 ^ 30) (hhp : hp < 4294967296) (hm : m < 256) (h32 : ∀ i, i < n → HH i < 4294967296)
    (hI : Iv w0 N n D 0 (.slice none 0 0) L0 w) (ha : AR w0 a n D.M HH D.K) (haN : ∀ ad, a = some ad → ad.block < N)
    {c4 c5 c6 c7 c14 c15 c16 c17 c18 c19 c20 c21 c22 c23 c24 c25 c26 c27 c28 c29 c30 c31 c32 c33 c34 c35 c36 c37 c38 c39 c40 c41 c42 c43 c44 c45 c46 c47 c48 c49 c50 c51 c52 c53 c54 c55 c56 c57 c58 c59 c60 c61 c62 c63 c64 c65 c66 c67 c68 c69 c70 c71 c72 c73 c74 c75 c76 c77 c78 c79 c80 c81 c82 c83 c84 c85 c86 c87 c88 c89 c90 c91 c92 c93 c94 c95 c96 c97 c98 c99 c100 c101 c102 c103 c104 c105 c106 c107 c108 c109 c110 c111 c112 c113 c114 c115 c116 c117 c118 c119 c120 c121 c122 c123 c124 c125 c126 c127 c128 c129 c130 c131 c132 c133 c134 c135 c136 c137 c138 c139 c140 c141 c142 c143 c144 c145 c146 c147 c148 c149 c150 c151 c152 c153 c154 c155 c156 c157 c158 c159 c160 c161 c162 c163 c164 c165 c166 c167 c168 c169 c170 c171 c172 c173 c174 c175 c176 c177 c178 c179 c180 c181 c182 c183 c184 c185 c186 c187 c188 c189 c190 c191 c192 c193 c194 c195 c196 c197 c198 c199 c200 c201 c202 c203 c204 c205 c206 c207 c208 c209 c210 c211 c212 c213 c214 c215 c216 c217 c218 c219 c220 c221 c222 c223 c224 c225 c226 c227 c228 c229 c230 c231 c232 c233 c234 c235 c236 c237 c238 c239 c240 c241 c242 c243 c244 c245 c246 c247 c248 c249 c250 c251 c252 c253 c254 c255 c256 c257 c258 c259 c260 c261 c262 c263 c264 c265 c266 c267 c268 c269 c270 c271 c272 c273 c274 c275 c276 c277 c278 c279 c280 c281 c282 c283 c284 c285 c286 c287 c288 c289 c290 c291 c292 c293 c294 c295 c296 c297 c298 c299 c300 c301 c302 c303 c304 : Value} :
    Code.wp Ybad.prog (tl 7 (Ybad.f3.body.getD .skip)) (bodyPost Ybad.prog Ybad.f3 fun e w' => e = .returned (.bool true) ∧ Below N w0 w') ⟨#[.int .u32 hp, .int .u8 m, .slice a n cap, .bool of, c4, c5, c6, c7, .bool false, .pointer (some ⟨N, 0, none⟩), .pointer (some ⟨N + 1, 0, none⟩), .pointer (some ⟨N + 2, 0, none⟩), .pointer (some ⟨N + 3, 0, none⟩), .slice (some ⟨N + 4, 0, none⟩) n n, c14, c15, c16, c17, c18, c19, c20, c21, c22, c23, c24, c25, c26, c27, c28, c29, c30, c31, c32, c33, c34, c35, c36, c37, c38, c39, c40, c41, c42, c43, c44, c45, c46, c47, c48, c49, c50, c51, c52, c53, c54, c55, c56, c57, c58, c59, c60, c61, c62, c63, c64, c65, c66, c67, c68, c69, c70, c71, c72, c73, c74, c75, c76, c77, c78, c79, c80, c81, c82, c83, c84, c85, c86, c87, c88, c89, c90, c91, c92, c93, c94, c95, c96, c97, c98, c99, c100, c101, c102, c103, c104, c105, c106, c107, c108, c109, c110, c111, c112, c113, c114, c115, c116, c117, c118, c119, c120, c121, c122, c123, c124, c125, c126, c127, c128, c129, c130, c131, c132, c133, c134, c135, c136, c137, c138, c139, c140, c141, c142, c143, c144, c145, c146, c147, c148, c149, c150, c151, c152, c153, c154, c155, c156, c157, c158, c159, c160, c161, c162, c163, c164, c165, c166, c167, c168, c169, c170, c171, c172, c173, c174, c175, c176, c177, c178, c179, c180, c181, c182, c183, c184, c185, c186, c187, c188, c189, c190, c191, c192, c193, c194, c195, c196, c197, c198, c199, c200, c201, c202, c203, c204, c205, c206, c207, c208, c209, c210, c211, c212, c213, c214, c215, c216, c217, c218, c219, c220, c221, c222, c223, c224, c225, c226, c227, c228, c229, c230, c231, c232, c233, c234, c235, c236, c237, c238, c239, c240, c241, c242, c243, c244, c245, c246, c247, c248, c249, c250, c251, c252, c253, c254, c255, c256, c257, c258, c259, c260, c261, c262, c263, c264, c265, c266, c267, c268, c269, c270, c271, c272, c273, c274, c275, c276, c277, c278, c279, c280, c281, c282, c283, c284, c285, c286, c287, c288, c289, c290, c291, c292, c293, c294, c295, c296, c297, c298, c299, c300, c301, c302, c303, c304], []⟩ w := by
  obtain ⟨TT, hT⟩ : ∃ TT, TT = tl 8 (Ybad.f3.body.getD .skip) := ⟨_, rfl⟩
  obtain ⟨T0, hT0⟩ : ∃ T0, T0 = inn (tl 7 (Ybad.f3.body.getD .skip)) := ⟨_, rfl⟩
  obtain ⟨T8, hT8⟩ : ∃ T8, T8 = tl 8 (inn (tl 7 (Ybad.f3.body.getD .skip))) := ⟨_, rfl⟩
  conv => arg 2; whnf
  refine split1 TT hT.symm ?_
  replace hT : Hid (TT = tl 8 (Ybad.f3.body.getD .skip)) := hT
  replace hT0 : Hid (T0 = inn (tl 7 (Ybad.f3.body.getD .skip))) := hT0
  replace hT8 : Hid (T8 = tl 8 (inn (tl 7 (Ybad.f3.body.getD .skip)))) := hT8
  have HI0 : Hid (Iv w0 N n D 0 (.slice none 0 0) L0 w) := hI
  have HAR : Hid (AR w0 a n D.M HH D.K) := ha
  have HN : Hid (N = w0.heap.size) := hN
  have H1 : Hid (∀ i, D.H i = HH i % 4096) := hHH
  have H2 : Hid (∀ i, i < n → HH i < 4294967296) := h32
  have H3 : Hid (∀ ad, a = some ad → ad.block < N) := haN
  clear hI ha hN hHH h32 haN
  go_wp2
  go_loopw [14] (fun i wq => ∃ (k : Nat) (rv : Value) (L : Nat → Nat), k ≤ n ∧ i = .int .i64 k ∧ Hid (Iv w0 N n D k rv L wq)) (fun i _ => n - (intOf i).toNat)
  case atStart => exact ⟨0, _, L0, Nat.zero_le _, rfl, HI0⟩
  case round =>
    refine inner2 T0 hT0.out.symm ?_
    obtain ⟨k, rv, L, hk, rfl, HI⟩ := hrel
    by_cases hlt : k < n
    · have hltI : (k : Int) < (n : Int) := by omega
      have hbb : Below w0.heap.size w0 wr := by rw [← HN.out]; exact HI.out.b
      obtain ⟨ab, off, rfl, hc⟩ := (HAR.out.later (out_below hbb) (fun _ _ f => f)) (by omega)
      obtain ⟨c0', c1', c2'⟩ := hc k hlt
      have hH := H1.out k
      have hx32 := H2.out k hlt
      have hM := D.hM k
      obtain ⟨x, hx⟩ : ∃ x, x = HH k := ⟨_, rfl⟩
      obtain ⟨mk, hmk⟩ : ∃ mk, mk = D.M k := ⟨_, rfl⟩
      obtain ⟨h, hh⟩ : ∃ h, h = D.H k := ⟨_, rfl⟩
      rw [← hx] at c1' hx32 hH
      rw [← hmk] at c0' hM
      rw [← hh] at hH
      have hh4 : h < 4096 := by omega
      obtain ⟨s, hs⟩ : ∃ s, s = h / 1024 := ⟨_, rfl⟩
      obtain ⟨ix, hix⟩ : ∃ ix, ix = h % 1024 := ⟨_, rfl⟩
      have q1 : (x : Int).tmod 4096 = (h : Int) := by rw [Int.tmod_eq_emod_of_nonneg (by omega)]; omega
      have q2 : (h : Int) / 1024 = (s : Int) := by omega
      have q3 : (h : Int).tmod 1024 = (ix : Int) := by rw [Int.tmod_eq_emod_of_nonneg (by omega)]; omega
      have q4 : (x : Int) % 4096 = (h : Int) := by omega
      have q5 : (h : Int) % 1024 = (ix : Int) := by omega
      have HQs : Hid (s = h / 1024) := hs
      have HQi : Hid (ix = h % 1024) := hix
      have HQx : Hid (h = D.H k) := hh
      have HQm : Hid (mk = D.M k) := hmk
      clear hs hix hh hmk hH hx hc hbb
      cases hKk : D.K k
      · rw [hKk] at c2'
        go_wp2
        rw [hT0.out]
        conv => arg 2; whnf
        refine split8 T8 hT8.out.symm ?_
        go_wp2
        rw [hT8.out]
        have e1 := HQs.out
        have e2 := HQi.out
        subst e1 e2
        refine wp_letter ?_
        intro W1 hW1
        have hl1 : W1.heap[wr.heap.size + 1]? = some (.cells (lk0 (N + 2) (N) k h mk).toArray 49 (0, 0)) := by
          rw [hW1]
          have := heap_alloc_new (wr.alloc (.cells #[.int .u8 (mk : Int), .int .u32 (x : Int), .bool false] 45)) (.cells (lk0 (N + 2) (N) k h mk).toArray 49)
          simp only [World.size_alloc] at this
          exact this
        have o1 : Out (fun _ => False) wr W1 := by rw [hW1]; exact (out_alloc _ _).trans (out_alloc _ _) (fun _ _ f => f)
        have z1 : W1.heap.size = wr.heap.size + 1 + 1 := by rw [hW1]; simp
        clear hW1
        refine bit_c (l := wr.heap.size + 1) (k := k) (h := h) (m := mk) (T := N + 2) (Qx := N) _ hl1 ?_
        intro _ _ _ _ _ _ _ _ _ _ _ _ _ _
        have hI := HI.out
        have hz := hI.z
        obtain ⟨W2, hW2⟩ : ∃ W2, W2 = (W1.setCell ⟨wr.heap.size + 1, 7 + h % 1024 / 64, none⟩ (.int .u64 ((2 ^ (h % 64) : Nat) : Int))).drew := ⟨_, rfl⟩
        rw [← hW2]
        have hl2 : W2.heap[wr.heap.size + 1]? = some (.cells ((lk0 (N + 2) (N) k h mk).set (7 + h % 1024 / 64) (.int .u64 ((2 ^ (h % 64) : Nat) : Int))).toArray 49 (0, 0)) := by rw [hW2]; exact setRow_list hl1 _ _
        have o2 : Out (fun b => b = wr.heap.size + 1) W1 W2 := by
          rw [hW2]
          have := out_set W1 ⟨wr.heap.size + 1, 7 + h % 1024 / 64, none⟩ (.int .u64 ((2 ^ (h % 64) : Nat) : Int))
          exact ⟨this.os, this.tape, this.output, this.size, this.block⟩
        have z2 : W2.heap.size = wr.heap.size + 1 + 1 := by rw [hW2]; simpa [World.setCell, World.drew] using z1
        clear hW2
        have o12 : Out (fun b => b = wr.heap.size + 1) wr W2 := (o1.mono (fun _ f => f.elim)).trans o2 (fun _ _ e => e)
        have hlr : rv.ownBlock ≠ some (wr.heap.size + 1) := fun e => by have := (hI.ro.lt _ e).2; omega
        refine chain_c W2 (N + 2) (N + 3) (N + 4) (wr.heap.size + 1) (N + 5) n n k 0 h rv _ (fun j => .pointer (if j < 4 then hd D L false j k else hd D L true (j - 4) k)) (fun i => .pointer (if i < k then some ⟨L i, 0, none⟩ else none)) (hd D L false (h / 1024) k) _ hlt hn (by omega) hh4 hl2 ?_ (hI.hd.later o12 (by omega)) ?_ (hI.ls.later o12 (by omega)) (by simp) ((o12.block _ (by omega) (by omega)).trans hI.t) (own_kept hI.ro o12 (fun b e1 e2 => hlr (e2 ▸ e1))) (by omega) (by omega) (by omega) ⟨by omega, by omega, by omega, by omega⟩ hlr ?_
        · rw [List.getElem?_set_ne (by omega)]; rfl
        · skip
          rw [if_pos (by omega), show 0 * 4 + h / 1024 = h / 1024 by omega]
        intro rv' w2 y1 y2 y3 y4 y5 y6 y7 _ _ _ _ _ _ _ _ _ _ _ _ _ _ _ _ _ _ _ _ _ _ _ _ _ _ _
        rw [lk0_set] at y1
        have hst : Hid (Iv w0 N n D (k + 1) rv' (up L k (wr.heap.size + 1)) w2) := by
          refine iv_step hI hlt (wr.heap.size + 1) (by omega) (row_lt y1) ?_ ?_ y3 y4 y5 ?_ hlr ?_
          · rw [hKk, ← HQx.out, ← HQm.out]; exact y1
          · rw [hKk, ← HQx.out]; exact y2
          · rcases y6 with e | ⟨b, e, hb⟩
            · exact .inl e
            · exact .inr ⟨b, e, by omega⟩
          · exact (o12.mono (fun _ e => .inl e)).trans y7 (fun _ _ e => e)
        clear y1 y2 y3 y4 y5 y6 y7 hl1 hl2 o1 o2 o12 hI
        go_wp2
        go_roundw
        case rel => exact ⟨k + 1, rv', _, by omega, by go_num, hst⟩
        case measure => simp [intOf]; omega
      · rw [hKk] at c2'
        go_wp2
        rw [hT0.out]
        conv => arg 2; whnf
        refine split8 T8 hT8.out.symm ?_
        go_wp2
        rw [hT8.out]
        have e1 := HQs.out
        have e2 := HQi.out
        subst e1 e2
        refine wp_letter ?_
        intro W1 hW1
        have hl1 : W1.heap[wr.heap.size + 1]? = some (.cells (lk0 (N + 2) (N + 1) k h mk).toArray 49 (0, 0)) := by
          rw [hW1]
          have := heap_alloc_new (wr.alloc (.cells #[.int .u8 (mk : Int), .int .u32 (x : Int), .bool true] 45)) (.cells (lk0 (N + 2) (N + 1) k h mk).toArray 49)
          simp only [World.size_alloc] at this
          exact this
        have o1 : Out (fun _ => False) wr W1 := by rw [hW1]; exact (out_alloc _ _).trans (out_alloc _ _) (fun _ _ f => f)
        have z1 : W1.heap.size = wr.heap.size + 1 + 1 := by rw [hW1]; simp
        clear hW1
        refine bit_c (l := wr.heap.size + 1) (k := k) (h := h) (m := mk) (T := N + 2) (Qx := N + 1) _ hl1 ?_
        intro _ _ _ _ _ _ _ _ _ _ _ _ _ _
        have hI := HI.out
        have hz := hI.z
        obtain ⟨W2, hW2⟩ : ∃ W2, W2 = (W1.setCell ⟨wr.heap.size + 1, 7 + h % 1024 / 64, none⟩ (.int .u64 ((2 ^ (h % 64) : Nat) : Int))).drew := ⟨_, rfl⟩
        rw [← hW2]
        have hl2 : W2.heap[wr.heap.size + 1]? = some (.cells ((lk0 (N + 2) (N + 1) k h mk).set (7 + h % 1024 / 64) (.int .u64 ((2 ^ (h % 64) : Nat) : Int))).toArray 49 (0, 0)) := by rw [hW2]; exact setRow_list hl1 _ _
        have o2 : Out (fun b => b = wr.heap.size + 1) W1 W2 := by
          rw [hW2]
          have := out_set W1 ⟨wr.heap.size + 1, 7 + h % 1024 / 64, none⟩ (.int .u64 ((2 ^ (h % 64) : Nat) : Int))
          exact ⟨this.os, this.tape, this.output, this.size, this.block⟩
        have z2 : W2.heap.size = wr.heap.size + 1 + 1 := by rw [hW2]; simpa [World.setCell, World.drew] using z1
        clear hW2
        have o12 : Out (fun b => b = wr.heap.size + 1) wr W2 := (o1.mono (fun _ f => f.elim)).trans o2 (fun _ _ e => e)
        have hlr : rv.ownBlock ≠ some (wr.heap.size + 1) := fun e => by have := (hI.ro.lt _ e).2; omega
        refine chain_c W2 (N + 2) (N + 3) (N + 4) (wr.heap.size + 1) (N + 5) n n k 1 h rv _ (fun j => .pointer (if j < 4 then hd D L false j k else hd D L true (j - 4) k)) (fun i => .pointer (if i < k then some ⟨L i, 0, none⟩ else none)) (hd D L true (h / 1024) k) _ hlt hn (by omega) hh4 hl2 ?_ (hI.hd.later o12 (by omega)) ?_ (hI.ls.later o12 (by omega)) (by simp) ((o12.block _ (by omega) (by omega)).trans hI.t) (own_kept hI.ro o12 (fun b e1 e2 => hlr (e2 ▸ e1))) (by omega) (by omega) (by omega) ⟨by omega, by omega, by omega, by omega⟩ hlr ?_
        · rw [List.getElem?_set_ne (by omega)]; rfl
        · skip
          rw [if_neg (by omega), show 1 * 4 + h / 1024 - 4 = h / 1024 by omega]
        intro rv' w2 y1 y2 y3 y4 y5 y6 y7 _ _ _ _ _ _ _ _ _ _ _ _ _ _ _ _ _ _ _ _ _ _ _ _ _ _ _
        rw [lk0_set] at y1
        have hst : Hid (Iv w0 N n D (k + 1) rv' (up L k (wr.heap.size + 1)) w2) := by
          refine iv_step hI hlt (wr.heap.size + 1) (by omega) (row_lt y1) ?_ ?_ y3 y4 y5 ?_ hlr ?_
          · rw [hKk, ← HQx.out, ← HQm.out]; exact y1
          · rw [hKk, ← HQx.out]; exact y2
          · rcases y6 with e | ⟨b, e, hb⟩
            · exact .inl e
            · exact .inr ⟨b, e, by omega⟩
          · exact (o12.mono (fun _ e => .inl e)).trans y7 (fun _ _ e => e)
        clear y1 y2 y3 y4 y5 y6 y7 hl1 hl2 o1 o2 o12 hI
        go_wp2
        go_roundw
        case rel => exact ⟨k + 1, rv', _, by omega, by go_num, hst⟩
        case measure => simp [intOf]; omega
    · obtain rfl : k = n := by omega
      have hI := HI.out
      have HMk : Hid (Mk (N + 2) N (N + 1) (N + 3) (N + 4) L D k rv wr) := by
        refine ⟨hI.cb, hI.lk, fun i hi => ?_, hI.hd, hI.t, hI.q1, hI.q2, hI.lm, by omega, by omega, by omega, by omega, by omega, by omega, fun i hi => ?_, hI.ls.lt⟩
        · have := hI.ls.cell hi
          rw [if_pos hi] at this
          exact this
        · have := (hI.lb i hi).1
          omega
      have hbb : Below w0.heap.size w0 wr := by rw [← HN.out]; exact hI.b
      have HAr : Hid (AR wr a k D.M HH D.K) := HAR.out.later (out_below hbb) (fun _ _ f => f)
      have HB : Hid (Below N w0 wr) := hI.b
      clear hI hbb
      go_wp2
      rw [hT.out]
      exact tail_b N w0 wr (N + 2) N (N + 1) (N + 3) (N + 4) L D HH H1.out of a k cap hp m k rv hn hhp hm H2.out HB.out (by omega) HMk.out HAr.out (fun ad e => by have := H3.out ad e; omega)

end Go.Proofs.YbulkdxawDoor
