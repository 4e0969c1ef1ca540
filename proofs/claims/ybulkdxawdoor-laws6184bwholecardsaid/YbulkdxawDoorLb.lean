/-
  THE LAW (3): the spans and t.own.
-/
import Derived.Test.YbulkdxawDoorLc
import Derived.Deep.OwnRows
namespace Go.Proofs.YbulkdxawDoor
open Go.RowKit

def rowL (f : Nat → Value) (m : Nat) : List Value := (List.range m).map f
/-- The block b holds f 0 .. f (m - 1). -/
def RW (w : World) (b t : Nat) (f : Nat → Value) (m : Nat) : Prop := w.heap[b]? = some (.cells (rowL f m).toArray t (0, 0))
theorem rowL_congr {f g : Nat → Value} {m : Nat} (h : ∀ j, j < m → f j = g j) : rowL f m = rowL g m :=
  List.map_congr_left fun j hj => h j (List.mem_range.1 hj)
theorem rowL_at (f : Nat → Value) {m j : Nat} (h : j < m) : (rowL f m)[j]? = some (f j) := by simp [rowL, h]
theorem rowL_len (f : Nat → Value) (m : Nat) : (rowL f m).length = m := by simp [rowL]
theorem RW.cell {w : World} {b t : Nat} {f : Nat → Value} {m : Nat} (h : RW w b t f m) {j : Nat} (hj : j < m) : w.cell? ⟨b, j, none⟩ = some (f j) := cell_row h (rowL_at f hj)
theorem RW.frozen {w : World} {b t : Nat} {f : Nat → Value} {m : Nat} (h : RW w b t f m) (j : Nat) : w.frozen? ⟨b, j, none⟩ = false := frozen_of_row w _ _ _ _ h
theorem RW.lt {w : World} {b t : Nat} {f : Nat → Value} {m : Nat} (h : RW w b t f m) : b < w.heap.size := row_lt h
theorem RW.congr {w : World} {b t : Nat} {f g : Nat → Value} {m : Nat} (h : RW w b t f m) (e : ∀ j, j < m → f j = g j) : RW w b t g m := by
  unfold RW; rw [← rowL_congr e]; exact h
theorem RW.set {w : World} {b t : Nat} {f : Nat → Value} {m : Nat} (h : RW w b t f m) {j : Nat} (hj : j < m) (v : Value) (g : Nat → Value) (e : ∀ i, i < m → (if i = j then v else f i) = g i) : RW (w.setCell ⟨b, j, none⟩ v) b t g m := by
  unfold RW
  rw [heap_setCell_same w b j _ _ _ h]
  suffices e : (rowL f m).set j v = rowL g m by rw [← e]; simp
  apply List.ext_getElem?
  intro i
  rw [List.getElem?_set]
  by_cases hi : i < m
  · rw [rowL_at g hi, ← e i hi, rowL_at f hi]
    by_cases e : j = i
    · subst e; simp [rowL_len, hi]
    · rw [if_neg e, if_neg (fun h => e h.symm)]
  · rw [List.getElem?_eq_none (by rw [rowL_len]; omega), List.getElem?_eq_none (by rw [rowL_len]; omega), if_neg (by omega)]
theorem RW.other {w : World} {b t : Nat} {f : Nat → Value} {m : Nat} (h : RW w b t f m) {a : Addr} (ha : b ≠ a.block) (v : Value) : RW (w.setCell a v) b t f m := (heap_setCell_other w a _ v ha).trans h
theorem RW.later {w w' : World} {b t : Nat} {f : Nat → Value} {m : Nat} {P : Nat → Prop} (h : RW w b t f m) (ho : Out P w w') (hb : ¬ P b) : RW w' b t f m := (ho.block _ h.lt hb).trans h
theorem rw_new (w : World) (f : Nat → Value) (m t : Nat) : RW (w.alloc (.cells (rowL f m).toArray t)) w.heap.size t f m := heap_alloc_new w _
theorem made_row (z : Value) (n : Nat) : madeCells #[z] n = (rowL (fun _ => z) n).toArray := by
  apply Array.ext'
  simp only [madeCells, rowL, Array.toList_map, Array.toList_range]
  apply List.map_congr_left
  intro j _
  simp [Nat.mod_one]
theorem info37 : (Ybad.prog.info? 37).map (fun i => (i.zero, i.size, i.bytes)) = some (some (.pointer none), 1, 8) := by kernel_rfl
theorem mk33 (n : Nat) (hn : n < 2 ^ 40) (w : World) : (Instr.makeSlice 33 (.int .i64 (n : Int)) (.int .i64 (n : Int))).run Ybad.prog w = .ok (.slice (some ⟨w.heap.size, 0, none⟩) n n) (w.alloc (.cells (rowL (fun _ => .pointer none) n).toArray 37)) := by
  rw [← made_row]; exact run_make_row' 33 37 _ 8 Ybad.underlying33 info37 rfl .i64 .i64 n (by omega) (by omega) w

/-- The cells of a lock, by the blocks' numbers. -/
def lkO (T Q1 Q2 : Nat) (L : Nat → Nat) (D : Lk) (i : Nat) : List Value := lkC T (if D.K i then Q2 else Q1) (hd D L (D.K i) (D.H i / 1024) i) i (D.H i) (D.M i)
def QC : List Value := [.nilFunc, .slice none 0 0, .map none, .map none, .int .u64 0]

/-- Behind the first loop: n locks are made. -/
structure Mk (T Q1 Q2 HD LS : Nat) (L : Nat → Nat) (D : Lk) (n : Nat) (rv : Value) (w : World) : Prop where
  cb : CB w
  lk : ∀ i, i < n → w.heap[L i]? = some (.cells (lkO T Q1 Q2 L D i).toArray 49 (0, 0))
  ls : ∀ i, i < n → w.cell? ⟨LS, i, none⟩ = some (.pointer (some ⟨L i, 0, none⟩))
  hd : RW w HD 43 (fun j => .pointer (if j < 4 then hd D L false j n else hd D L true (j - 4) n)) 8
  t : w.heap[T]? = some (.cells (TC rv (.slice none 0 0) none).toArray 41 (0, 0))
  q1 : w.heap[Q1]? = some (.cells QC.toArray 31 (0, 0))
  q2 : w.heap[Q2]? = some (.cells QC.toArray 31 (0, 0))
  lm : ∀ i j, i < j → j < n → L i < L j
  dq : Q1 ≠ Q2
  d0 : 0 ≠ T
  dh : HD ≠ T
  d1 : Q1 ≠ T
  d2 : Q2 ≠ T
  dls : LS ≠ T
  dl : ∀ i, i < n → L i ≠ T
  ll : LS < w.heap.size

set_option maxRecDepth 1000000 in
set_option maxHeartbeats 4000000 in
theorem tail_b (N : Nat) (w0 w : World) (T Q1 Q2 HD LS : Nat) (L : Nat → Nat) (D : Lk) (HH : Nat → Nat) (hHH : ∀ i, D.H i = HH i % 4096) (of : Bool) (a : Option Addr) (n cap hp m lsc : Nat) (rv : Value) (hn : n < 2 ^ 30) (hhp : hp < 4294967296) (hm : m < 256) (h32 : ∀ i, i < n → HH i < 4294967296)
    (hB : Below N w0 w) (hNT : N ≤ T) (hk : Mk T Q1 Q2 HD LS L D n rv w) (ha : AR w a n D.M HH D.K) (haT : ∀ ad, a = some ad → ad.block ≠ T)
    {c4 c5 c6 c7 c14 c15 c16 c17 c18 c19 c20 c21 c22 c23 c24 c25 c26 c27 c28 c29 c30 c31 c32 c33 c34 c35 c36 c37 c38 c39 c40 c41 c42 c43 c44 c45 c46 c47 c48 c49 c50 c51 c52 c53 c54 c55 c56 c57 c58 c59 c60 c61 c62 c63 c64 c65 c66 c67 c68 c69 c70 c71 c72 c73 c74 c75 c76 c77 c78 c79 c80 c81 c82 c83 c84 c85 c86 c87 c88 c89 c90 c91 c92 c93 c94 c95 c96 c97 c98 c99 c100 c101 c102 c103 c104 c105 c106 c107 c108 c109 c110 c111 c112 c113 c114 c115 c116 c117 c118 c119 c120 c121 c122 c123 c124 c125 c126 c127 c128 c129 c130 c131 c132 c133 c134 c135 c136 c137 c138 c139 c140 c141 c142 c143 c144 c145 c146 c147 c148 c149 c150 c151 c152 c153 c154 c155 c156 c157 c158 c159 c160 c161 c162 c163 c164 c165 c166 c167 c168 c169 c170 c171 c172 c173 c174 c175 c176 c177 c178 c179 c180 c181 c182 c183 c184 c185 c186 c187 c188 c189 c190 c191 c192 c193 c194 c195 c196 c197 c198 c199 c200 c201 c202 c203 c204 c205 c206 c207 c208 c209 c210 c211 c212 c213 c214 c215 c216 c217 c218 c219 c220 c221 c222 c223 c224 c225 c226 c227 c228 c229 c230 c231 c232 c233 c234 c235 c236 c237 c238 c239 c240 c241 c242 c243 c244 c245 c246 c247 c248 c249 c250 c251 c252 c253 c254 c255 c256 c257 c258 c259 c260 c261 c262 c263 c264 c265 c266 c267 c268 c269 c270 c271 c272 c273 c274 c275 c276 c277 c278 c279 c280 c281 c282 c283 c284 c285 c286 c287 c288 c289 c290 c291 c292 c293 c294 c295 c296 c297 c298 c299 c300 c301 c302 c303 c304 : Value} :
    Code.wp Ybad.prog (tl 8 (Ybad.f3.body.getD .skip)) (bodyPost Ybad.prog Ybad.f3 fun e w' => e = .returned (.bool true) ∧ Below N w0 w') ⟨#[.int .u32 hp, .int .u8 m, .slice a n cap, .bool of, c4, c5, c6, c7, .bool false, .pointer (some ⟨Q1, 0, none⟩), .pointer (some ⟨Q2, 0, none⟩), .pointer (some ⟨T, 0, none⟩), .pointer (some ⟨HD, 0, none⟩), .slice (some ⟨LS, 0, none⟩) n lsc, c14, c15, c16, c17, c18, c19, c20, c21, c22, c23, c24, c25, c26, c27, c28, c29, c30, c31, c32, c33, c34, c35, c36, c37, c38, c39, c40, c41, c42, c43, c44, c45, c46, c47, c48, c49, c50, c51, c52, c53, c54, c55, c56, c57, c58, c59, c60, c61, c62, c63, c64, c65, c66, c67, c68, c69, c70, c71, c72, c73, c74, c75, c76, c77, c78, c79, c80, c81, c82, c83, c84, c85, c86, c87, c88, c89, c90, c91, c92, c93, c94, c95, c96, c97, c98, c99, c100, c101, c102, c103, c104, c105, c106, c107, c108, c109, c110, c111, c112, c113, c114, c115, c116, c117, c118, c119, c120, c121, c122, c123, c124, c125, c126, c127, c128, c129, c130, c131, c132, c133, c134, c135, c136, c137, c138, c139, c140, c141, c142, c143, c144, c145, c146, c147, c148, c149, c150, c151, c152, c153, c154, c155, c156, c157, c158, c159, c160, c161, c162, c163, c164, c165, c166, c167, c168, c169, c170, c171, c172, c173, c174, c175, c176, c177, c178, c179, c180, c181, c182, c183, c184, c185, c186, c187, c188, c189, c190, c191, c192, c193, c194, c195, c196, c197, c198, c199, c200, c201, c202, c203, c204, c205, c206, c207, c208, c209, c210, c211, c212, c213, c214, c215, c216, c217, c218, c219, c220, c221, c222, c223, c224, c225, c226, c227, c228, c229, c230, c231, c232, c233, c234, c235, c236, c237, c238, c239, c240, c241, c242, c243, c244, c245, c246, c247, c248, c249, c250, c251, c252, c253, c254, c255, c256, c257, c258, c259, c260, c261, c262, c263, c264, c265, c266, c267, c268, c269, c270, c271, c272, c273, c274, c275, c276, c277, c278, c279, c280, c281, c282, c283, c284, c285, c286, c287, c288, c289, c290, c291, c292, c293, c294, c295, c296, c297, c298, c299, c300, c301, c302, c303, c304], []⟩ w := by
  obtain ⟨TT, hT⟩ : ∃ TT, TT = tl 14 (Ybad.f3.body.getD .skip) := ⟨_, rfl⟩
  conv => arg 2; whnf
  refine split6 TT hT.symm ?_
  replace hT : Hid (TT = tl 14 (Ybad.f3.body.getD .skip)) := hT
  have hTl := row_lt hk.t
  have HEND : Hid (∀ (wr w5 : World), Below w.heap.size w wr → w.heap.size + 1 < wr.heap.size → RW wr w.heap.size 37 (fun j => .pointer (hd D L false j n)) 4 → RW wr (w.heap.size + 1) 37 (fun j => .pointer (hd D L true j n)) 4 →
      Out (fun k => k = T) wr w5 → wr.heap.size + 1 + 1 < w5.heap.size → w5.heap[T]? = some (.cells (TC rv (.slice (some ⟨wr.heap.size + 1 + 1, 0, none⟩) 2 2) none).toArray 41 (0, 0)) → w5.heap[wr.heap.size + 1 + 1]? = some (.cells (if of then [Value.pointer (some ⟨Q2, 0, none⟩), .slice (some ⟨w.heap.size + 1, 0, none⟩) 4 4, .slice none 0 0, Value.pointer (some ⟨Q1, 0, none⟩), .slice (some ⟨w.heap.size, 0, none⟩) 4 4, .slice none 0 0] else [Value.pointer (some ⟨Q1, 0, none⟩), .slice (some ⟨w.heap.size, 0, none⟩) 4 4, .slice none 0 0, Value.pointer (some ⟨Q2, 0, none⟩), .slice (some ⟨w.heap.size + 1, 0, none⟩) 4 4, .slice none 0 0]).toArray 52 (0, 0)) →
      ∀ {d3 d4 d5 d6 d7 d10 d14 d15 d16 d17 d18 d19 d20 d21 d24 d25 d26 d27 d28 d29 d30 d31 d32 d33 d34 d35 d36 d37 d38 d39 d40 d41 d42 d43 d44 d45 d46 d47 d48 d49 d50 d51 d52 d53 d54 d55 d56 d57 d58 d59 d60 d61 d62 d63 d64 d65 d66 d67 d68 d69 d70 d71 d72 d73 d74 d75 d76 d77 d78 d79 d80 d81 d82 d83 d84 d85 d86 d87 d88 d89 d90 d91 d92 d93 d94 d95 d96 d97 d98 d99 d100 d101 d102 d103 d104 d105 d106 d107 d108 d109 d110 d111 d112 d113 d114 d115 d116 d117 d118 d119 d120 d121 d122 d123 d124 d125 d126 d127 d128 d129 d130 d131 d132 d133 d134 d135 d136 d137 d138 d139 d140 d141 d142 d143 d144 d145 d146 d147 d148 d149 d150 d151 d152 d153 d154 d155 d156 d157 d158 d159 d160 d161 d162 d163 d164 d165 d166 d167 d168 d169 d170 d171 d172 d173 d174 d175 d176 d177 d178 d179 d180 d181 d182 d183 d184 d185 d186 d187 d188 d189 d190 d191 d192 d193 d194 d195 d196 d197 d198 d199 d200 d201 d202 d203 d204 d205 d206 d207 d208 d209 d210 d211 d212 d213 d214 d215 d216 d217 d218 d219 d220 d221 d222 d223 d224 d225 d226 d227 d228 d229 d230 d231 d232 d233 d234 d235 d236 d237 d238 d239 d240 d241 d242 d243 d244 d245 d246 d247 d248 d249 d250 d251 d252 d253 d254 d255 d256 d257 d258 d259 d260 d261 d262 d263 d264 d265 d266 d267 d268 d269 d270 d271 d272 d273 d274 d275 d276 d277 d278 d279 d280 d281 d282 d283 d284 d285 d286 d287 d288 d289 d290 d291 d292 d293 d294 d295 d296 d297 d298 d299 d300 d301 d302 d303 d304 : Value}, Code.wp Ybad.prog (tl 14 (Ybad.f3.body.getD .skip)) (bodyPost Ybad.prog Ybad.f3 fun e w' => e = .returned (.bool true) ∧ Below N w0 w') ⟨#[.int .u32 hp, .int .u8 m, .slice a n cap, d3, d4, d5, d6, d7, .bool false, .pointer (some ⟨Q1, 0, none⟩), d10, .pointer (some ⟨T, 0, none⟩), .pointer (some ⟨HD, 0, none⟩), .slice (some ⟨LS, 0, none⟩) n lsc, d14, d15, d16, d17, d18, d19, d20, d21, .slice (some ⟨w.heap.size, 0, none⟩) 4 4, .slice (some ⟨w.heap.size + 1, 0, none⟩) 4 4, d24, d25, d26, d27, d28, d29, d30, d31, d32, d33, d34, d35, d36, d37, d38, d39, d40, d41, d42, d43, d44, d45, d46, d47, d48, d49, d50, d51, d52, d53, d54, d55, d56, d57, d58, d59, d60, d61, d62, d63, d64, d65, d66, d67, d68, d69, d70, d71, d72, d73, d74, d75, d76, d77, d78, d79, d80, d81, d82, d83, d84, d85, d86, d87, d88, d89, d90, d91, d92, d93, d94, d95, d96, d97, d98, d99, d100, d101, d102, d103, d104, d105, d106, d107, d108, d109, d110, d111, d112, d113, d114, d115, d116, d117, d118, d119, d120, d121, d122, d123, d124, d125, d126, d127, d128, d129, d130, d131, d132, d133, d134, d135, d136, d137, d138, d139, d140, d141, d142, d143, d144, d145, d146, d147, d148, d149, d150, d151, d152, d153, d154, d155, d156, d157, d158, d159, d160, d161, d162, d163, d164, d165, d166, d167, d168, d169, d170, d171, d172, d173, d174, d175, d176, d177, d178, d179, d180, d181, d182, d183, d184, d185, d186, d187, d188, d189, d190, d191, d192, d193, d194, d195, d196, d197, d198, d199, d200, d201, d202, d203, d204, d205, d206, d207, d208, d209, d210, d211, d212, d213, d214, d215, d216, d217, d218, d219, d220, d221, d222, d223, d224, d225, d226, d227, d228, d229, d230, d231, d232, d233, d234, d235, d236, d237, d238, d239, d240, d241, d242, d243, d244, d245, d246, d247, d248, d249, d250, d251, d252, d253, d254, d255, d256, d257, d258, d259, d260, d261, d262, d263, d264, d265, d266, d267, d268, d269, d270, d271, d272, d273, d274, d275, d276, d277, d278, d279, d280, d281, d282, d283, d284, d285, d286, d287, d288, d289, d290, d291, d292, d293, d294, d295, d296, d297, d298, d299, d300, d301, d302, d303, d304], []⟩ w5) := by
    intro wr w5 hb hz hs1 hs2 ho5 hz5 ht5 hob
    intros
    have ho : Out (fun k => k = T) w w5 := ((out_below hb).mono (fun _ f => f.elim)).trans ho5 (fun _ _ e => e)
    have hs1' := hs1.later ho5 (by omega)
    have hs2' := hs2.later ho5 (by omega)
    have hsz := hb.size
    have h5 := ho5.size
    have hlk : ∀ i, i < n → w5.heap[L i]? = some (.cells (lkO T Q1 Q2 L D i).toArray 49 (0, 0)) := fun i hi => (ho.block _ (row_lt (hk.lk i hi)) (hk.dl i hi)).trans (hk.lk i hi)
    have hhd := hk.hd.later ho hk.dh
    have hq1 : w5.heap[Q1]? = some (.cells QC.toArray 31 (0, 0)) := (ho.block _ (row_lt hk.q1) hk.d1).trans hk.q1
    have hq2 : w5.heap[Q2]? = some (.cells QC.toArray 31 (0, 0)) := (ho.block _ (row_lt hk.q2) hk.d2).trans hk.q2
    have hr : ∀ i, i < n → w5.rangeAt (L i) 0 (lkO T Q1 Q2 L D i) := fun i hi j v hv => by rw [Nat.zero_add]; exact cell_row (hlk i hi) hv
    refine tail_c N w0 w5 (⟨T, Q1, Q2, wr.heap.size + 1 + 1, w.heap.size, w.heap.size + 1, L⟩ : Bs) D HH hHH of a n cap hp m HD LS lsc rv hn hhp hm h32 (hB.trans ⟨ho.os, ho.tape, ho.output, ho.size, fun k hk => ho.block k (by omega) (by omega)⟩) (by omega) hNT ?_ ?_ ?_ ht5 (ha.later ho (fun ad e h => haT ad e h)) haT
    · refine ⟨fun j hj => ho.cell (hk.cb j hj) hk.d0, fun i hi f v hv => ?_, ?_, ?_, ?_, ?_, ?_, ?_, fun j hj => hs1'.cell hj, ⟨_, _, hq1⟩, ⟨_, _, hq2⟩, hk.dq, hk.d1, hk.d2, hk.d0, ?_, ?_, hk.dl, hk.lm⟩
      · have := hr i hi f v hv
        rwa [Nat.zero_add] at this
      · cases of <;> exact cell_row hob rfl
      · cases of <;> exact cell_row hob rfl
      · cases of <;> exact cell_row hob rfl
      · cases of <;> exact cell_row hob rfl
      · cases of <;> exact cell_row hob rfl
      · cases of <;> exact cell_row hob rfl
      · show wr.heap.size + 1 + 1 ≠ T
        omega
      · show w.heap.size ≠ T
        omega
    · refine ⟨fun i hi => ho.cell (hk.ls i hi) hk.dls, hr, fun j hj => hs2'.cell hj, fun j hj => ?_, fun j hj => ?_, cell_row hq1 rfl, cell_row hq1 rfl, cell_row hq1 rfl⟩
      · have := hhd.cell (show j < 8 by omega)
        rw [if_pos hj] at this
        exact this
      · have := hhd.cell (show 4 + j < 8 by omega)
        rw [if_neg (by omega), show 4 + j - 4 = j by omega] at this
        exact this
    · refine ⟨hk.dh, hk.dls, ?_, ?_, ?_, hk.d1, hk.dl⟩
      · show w5.heap.size ≠ T
        omega
      · show w.heap.size ≠ T
        omega
      · show w.heap.size + 1 ≠ T
        omega
  have HHD : Hid (RW w HD 43 (fun j => .pointer (if j < 4 then hd D L false j n else hd D L true (j - 4) n)) 8) := hk.hd
  have HTt : Hid (w.heap[T]? = some (.cells (TC rv (.slice none 0 0) none).toArray 41 (0, 0))) := hk.t
  have hmk := mk33 4 (by omega)
  simp only [Int.cast_ofNat_Int] at hmk
  clear hk ha haT hB hHH h32 hhp hm
  go_wp2
  go_loopw [24] (fun i wq => ∃ (k : Nat), k ≤ 4 ∧ i = .int .i64 k ∧ Hid (RW wq w.heap.size 37 (fun j => .pointer (if j < k then hd D L false j n else none)) 4) ∧ Hid (RW wq (w.heap.size + 1) 37 (fun j => .pointer (if j < k then hd D L true j n else none)) 4) ∧ Hid (Below w.heap.size w wq) ∧ w.heap.size + 1 < wq.heap.size) (fun i _ => 4 - (intOf i).toNat)
  case atStart =>
    refine ⟨0, Nat.zero_le _, rfl, ((rw_new w _ _ _).later (out_alloc _ _) (fun f => f)).congr (fun j _ => by simp), ?_, (below_new w _).alloc (by simp) _, by simp⟩
    have h := rw_new (w.alloc (.cells (rowL (fun _ => .pointer none) 4).toArray 37)) (fun _ => .pointer none) 4 37
    rw [show (w.alloc (.cells (rowL (fun _ => .pointer none) 4).toArray 37)).heap.size = w.heap.size + 1 by simp] at h
    exact h.congr (fun j _ => by simp)
  case round =>
    obtain ⟨k, hk, rfl, HS1, HS2, HBl, hz⟩ := hrel
    by_cases hlt : k < 4
    · have hI : (k : Int) < 4 := by omega
      have hHD := HHD.out.later (out_below HBl.out) (fun f => f)
      have g1 := hHD.cell (show k < 8 by omega)
      have g2 := hHD.cell (show 4 + k < 8 by omega)
      have hdl := HHD.out.lt
      rw [if_pos hlt] at g1
      rw [if_neg (by omega), show 4 + k - 4 = k by omega] at g2
      have g2' : ∀ v, (wr.setCell ⟨w.heap.size, k, none⟩ v).cell? ⟨HD, 4 + k, none⟩ = some (.pointer (hd D L true k n)) := fun v => by
        rw [World.cell?_of_block (heap_setCell_other wr _ _ v (show HD ≠ w.heap.size by omega))]; exact g2
      have g3 := HS1.out.cell hlt
      have g4 := HS1.out.frozen k
      have g5 : ∀ v, (wr.setCell ⟨w.heap.size, k, none⟩ v).cell? ⟨w.heap.size + 1, k, none⟩ = some (.pointer (if k < k then hd D L true k n else none)) := fun v => (HS2.out.other (by simp) v).cell hlt
      have g6 : ∀ v, (wr.setCell ⟨w.heap.size, k, none⟩ v).frozen? ⟨w.heap.size + 1, k, none⟩ = false := fun v => (HS2.out.other (by simp) v).frozen k
      clear hHD g2
      go_wp2
      go_roundw
      case rel =>
        have hup : ∀ (X : Nat → Option Addr) i, i < 4 → (if i = k then Value.pointer (X k) else .pointer (if i < k then X i else none)) = .pointer (if i < k + 1 then X i else none) := by
          intro X i _
          by_cases e : i = k
          · subst e; simp
          · rw [if_neg e]
            by_cases e2 : i < k
            · rw [if_pos e2, if_pos (by omega)]
            · rw [if_neg e2, if_neg (by omega)]
        exact ⟨k + 1, by omega, by go_num, (HS1.out.set hlt _ _ (hup _)).other (by simp) _, (HS2.out.other (by simp) _).set hlt _ _ (hup _), (HBl.out.setCell (Nat.le_refl _) _).setCell (by simp) _, by simpa [World.setCell] using hz⟩
      case measure => simp [intOf]; omega
    · obtain rfl : k = 4 := by omega
      have hs1 : Hid (RW wr w.heap.size 37 (fun j => .pointer (hd D L false j n)) 4) := HS1.out.congr (fun j hj => by rw [if_pos hj])
      have hs2 : Hid (RW wr (w.heap.size + 1) 37 (fun j => .pointer (hd D L true j n)) 4) := HS2.out.congr (fun j hj => by rw [if_pos hj])
      have ht1 : Hid (wr.heap[T]? = some (.cells (TC rv (.slice none 0 0) none).toArray 41 (0, 0))) := (HBl.out.block _ hTl).trans HTt.out
      clear HS1 HS2
      have c5 : ∀ X Y Z, (((wr.alloc X).alloc Y).alloc Z).cell? ⟨T, 5, none⟩ = some (.slice none 0 0) := fun X Y Z => (out_alloc _ Z).cell ((out_alloc _ Y).cell ((out_alloc wr X).cell (cell_row ht1.out rfl) (fun f => f)) (fun f => f)) (fun f => f)
      have f5 : ∀ X Y Z, (((wr.alloc X).alloc Y).alloc Z).frozen? ⟨T, 5, none⟩ = false := fun X Y Z => frozen_of_row _ _ _ _ _ (((out_alloc _ Z).block _ (row_lt (((out_alloc _ Y).block _ (row_lt (((out_alloc wr X).block _ (row_lt ht1.out) (fun f => f)).trans ht1.out)) (fun f => f)).trans (((out_alloc wr X).block _ (row_lt ht1.out) (fun f => f)).trans ht1.out))) (fun f => f)).trans ((((out_alloc _ Y).block _ (row_lt (((out_alloc wr X).block _ (row_lt ht1.out) (fun f => f)).trans ht1.out)) (fun f => f)).trans (((out_alloc wr X).block _ (row_lt ht1.out) (fun f => f)).trans ht1.out))))
      have HW : Hid (∀ X Y (Zc : List Value), Out (fun k => k = T) wr ((((wr.alloc X).alloc Y).alloc (.cells Zc.toArray 52)).setCell ⟨T, 5, none⟩ (.slice (some ⟨wr.heap.size + 1 + 1, 0, none⟩) 2 2)) ∧ wr.heap.size + 1 + 1 < ((((wr.alloc X).alloc Y).alloc (.cells Zc.toArray 52)).setCell ⟨T, 5, none⟩ (.slice (some ⟨wr.heap.size + 1 + 1, 0, none⟩) 2 2)).heap.size ∧ ((((wr.alloc X).alloc Y).alloc (.cells Zc.toArray 52)).setCell ⟨T, 5, none⟩ (.slice (some ⟨wr.heap.size + 1 + 1, 0, none⟩) 2 2)).heap[T]? = some (.cells (TC rv (.slice (some ⟨wr.heap.size + 1 + 1, 0, none⟩) 2 2) none).toArray 41 (0, 0)) ∧ ((((wr.alloc X).alloc Y).alloc (.cells Zc.toArray 52)).setCell ⟨T, 5, none⟩ (.slice (some ⟨wr.heap.size + 1 + 1, 0, none⟩) 2 2)).heap[wr.heap.size + 1 + 1]? = some (.cells Zc.toArray 52 (0, 0))) := by
        intro X Y Zc
        have o3 : Out (fun _ => False) wr (((wr.alloc X).alloc Y).alloc (.cells Zc.toArray 52)) := ((out_alloc wr X).trans (out_alloc _ Y) (fun _ _ f => f)).trans (out_alloc _ _) (fun _ _ f => f)
        have t3 := (o3.block _ (row_lt ht1.out) (fun f => f)).trans ht1.out
        have hlw := row_lt ht1.out
        refine ⟨(o3.mono (fun _ f => f.elim)).trans (out_set _ _ _) (fun _ _ e => e), by simp [World.setCell], ?_, ?_⟩
        · rw [heap_setCell_same _ _ _ _ _ _ t3]; rfl
        · rw [heap_setCell_other _ _ _ _ (show wr.heap.size + 1 + 1 ≠ T by omega)]
          have := heap_alloc_new ((wr.alloc X).alloc Y) (.cells Zc.toArray 52)
          simpa using this
      cases of
      · go_wp2
        rw [hT.out]
        obtain ⟨x1, x2, x3, x4⟩ := HW.out (.cells #[.pointer (some ⟨Q1, 0, none⟩), .slice (some ⟨w.heap.size, 0, none⟩) 4 4, .slice none 0 0] 52) (.cells #[.pointer (some ⟨Q2, 0, none⟩), .slice (some ⟨w.heap.size + 1, 0, none⟩) 4 4, .slice none 0 0] 52) [Value.pointer (some ⟨Q1, 0, none⟩), .slice (some ⟨w.heap.size, 0, none⟩) 4 4, .slice none 0 0, Value.pointer (some ⟨Q2, 0, none⟩), .slice (some ⟨w.heap.size + 1, 0, none⟩) 4 4, .slice none 0 0]
        exact HEND.out wr _ HBl.out hz hs1.out hs2.out x1 x2 x3 x4
      · go_wp2
        rw [hT.out]
        obtain ⟨x1, x2, x3, x4⟩ := HW.out (.cells #[.pointer (some ⟨Q1, 0, none⟩), .slice (some ⟨w.heap.size, 0, none⟩) 4 4, .slice none 0 0] 52) (.cells #[.pointer (some ⟨Q2, 0, none⟩), .slice (some ⟨w.heap.size + 1, 0, none⟩) 4 4, .slice none 0 0] 52) [Value.pointer (some ⟨Q2, 0, none⟩), .slice (some ⟨w.heap.size + 1, 0, none⟩) 4 4, .slice none 0 0, Value.pointer (some ⟨Q1, 0, none⟩), .slice (some ⟨w.heap.size, 0, none⟩) 4 4, .slice none 0 0]
        exact HEND.out wr _ HBl.out hz hs1.out hs2.out x1 x2 x3 x4

end Go.Proofs.YbulkdxawDoor
