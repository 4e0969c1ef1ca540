/-
  THE LAW (3): what is saved.
-/
import Derived.Test.YbulkdxawDoorLd
import Derived.Laws.MakeOwn
namespace Go.Proofs.YbulkdxawDoor
open Go.RowKit

theorem Out.mono {P Q : Nat → Prop} {w w' : World} (h : Out P w w') (hpq : ∀ k, P k → Q k) : Out Q w w' := ⟨h.os, h.tape, h.output, h.size, fun k hk hn => h.block k hk (fun f => hn (hpq k f))⟩
theorem out_below {w w' : World} (h : Below w.heap.size w w') : Out (fun _ => False) w w' := ⟨h.os, h.tape, h.output, h.size, fun k hk _ => h.block k hk⟩
theorem below_new (w : World) (o : Obj) : Below w.heap.size w (w.alloc o) := (Below.refl _ w).alloc (Nat.le_refl _) _
theorem below_setCells {B : Nat} {w0 : World} (b : Nat) (hb : B ≤ b) : ∀ (vs : List Value) (o : Nat) (w : World), Below B w0 w → Below B w0 (w.setCells b o vs)
  | [], _, _, h => h
  | v :: r, o, w, h => by
    rw [World.setCells]
    exact below_setCells b hb r (o + 1) _ (h.setCell (p := ⟨b, o, none⟩) hb v)

/-- The end's facts but for what is saved. -/
structure Fin0 (b : Bs) (D : Lk) (n HD LS : Nat) (w : World) : Prop where
  ls : ∀ i, i < n → w.cell? ⟨LS, i, none⟩ = some (.pointer (some ⟨b.L i, 0, none⟩))
  lk : ∀ i, i < n → w.rangeAt (b.L i) 0 (b.lk D i)
  s2 : ∀ j, j < 4 → w.cell? ⟨b.S2, j, none⟩ = some (.pointer (hd D b.L true j n))
  h1 : ∀ j, j < 4 → w.cell? ⟨HD, j, none⟩ = some (.pointer (hd D b.L false j n))
  h2 : ∀ j, j < 4 → w.cell? ⟨HD, 4 + j, none⟩ = some (.pointer (hd D b.L true j n))
  q1 : w.cell? ⟨b.Q1, 1, none⟩ = some (.slice none 0 0)
  q2 : w.cell? ⟨b.Q1, 2, none⟩ = some (.map none)
  q4 : w.cell? ⟨b.Q1, 4, none⟩ = some (.int .u64 0)

def zl (n : Nat) : Array Value := madeCells #[.pointer none, .pointer none, .pointer none, .int .u64 0, .int .u32 0, .int .u32 0, .int .u8 0, .int .u64 0, .int .u64 0, .int .u64 0, .int .u64 0, .int .u64 0, .int .u64 0, .int .u64 0, .int .u64 0, .int .u64 0, .int .u64 0, .int .u64 0, .int .u64 0, .int .u64 0, .int .u64 0, .int .u64 0, .int .u64 0] (n * 23)
theorem info49z : (Ybad.prog.info? 49).map (fun i => (i.zero, i.size, i.bytes)) = some (some (.agg #[.pointer none, .pointer none, .pointer none, .int .u64 0, .int .u32 0, .int .u32 0, .int .u8 0, .int .u64 0, .int .u64 0, .int .u64 0, .int .u64 0, .int .u64 0, .int .u64 0, .int .u64 0, .int .u64 0, .int .u64 0, .int .u64 0, .int .u64 0, .int .u64 0, .int .u64 0, .int .u64 0, .int .u64 0, .int .u64 0]), 23, 176) := by kernel_rfl
theorem mk53 (n : Nat) (hn : n < 2 ^ 30) (w : World) : (Instr.makeSlice 53 (.int .i64 (n : Int)) (.int .i64 (n : Int))).run Ybad.prog w = .ok (.slice (some ⟨w.heap.size, 0, none⟩) n n) (w.alloc (.cells (zl n) 49)) := by
  obtain ⟨i0, hi, hz0, hz1, hz2⟩ := info_parts info49z
  have hr := run_make (P := Ybad.prog) w 53 49 i0 _ Ybad.underlying53 hi hz0 .i64 .i64 n n (by omega) (Int.le_refl _) (by rw [hz2]; omega) (by omega)
  rw [hr]
  simp [zl, hz1, Value.cells]
theorem there_new (w : World) (C : Array Value) (t o n : Nat) (h : o + n ≤ C.size) : (w.alloc (.cells C t)).there w.heap.size o n := fun j hj => by
  have hb : (w.alloc (.cells C t)).heap[w.heap.size]? = some (.cells C t (0, 0)) := heap_alloc_new w _
  refine ⟨?_, frozen_of_row _ _ _ _ _ hb⟩
  rw [cell_of_row _ _ _ _ _ _ hb]
  have : o + j < C.size := by omega
  simp [this]
theorem lk_one (b : Bs) (D : Lk) (i : Nat) : ∀ v ∈ b.lk D i, v.oneCell' = true := by
  intro v hv
  simp only [Bs.lk, lkC, List.mem_append, List.mem_cons, List.not_mem_nil, or_false, List.mem_map] at hv
  rcases hv with (rfl | rfl | rfl | rfl | rfl | rfl | rfl) | ⟨_, _, rfl⟩ <;> rfl

set_option maxRecDepth 1000000 in
set_option maxHeartbeats 4000000 in
theorem tail_c (N : Nat) (w0 w : World) (b : Bs) (D : Lk) (HH : Nat → Nat) (hHH : ∀ i, D.H i = HH i % 4096) (of : Bool) (a : Option Addr) (n cap hp m HD LS lsc : Nat) (rv : Value) (hn : n < 2 ^ 30) (hhp : hp < 4294967296) (hm : m < 256) (h32 : ∀ i, i < n → HH i < 4294967296)
    (hB : Below N w0 w) (hN : N ≤ w.heap.size) (hNT : N ≤ b.T) (he : Ev b D n of w) (hf : Fin0 b D n HD LS w) (hfar : Far b n HD LS w.heap.size) (ht : TR w b rv none) (ha : AR w a n D.M HH D.K) (haT : ∀ ad, a = some ad → ad.block ≠ b.T)
    {c3 c4 c5 c6 c7 c10 c14 c15 c16 c17 c18 c19 c20 c21 c24 c25 c26 c27 c28 c29 c30 c31 c32 c33 c34 c35 c36 c37 c38 c39 c40 c41 c42 c43 c44 c45 c46 c47 c48 c49 c50 c51 c52 c53 c54 c55 c56 c57 c58 c59 c60 c61 c62 c63 c64 c65 c66 c67 c68 c69 c70 c71 c72 c73 c74 c75 c76 c77 c78 c79 c80 c81 c82 c83 c84 c85 c86 c87 c88 c89 c90 c91 c92 c93 c94 c95 c96 c97 c98 c99 c100 c101 c102 c103 c104 c105 c106 c107 c108 c109 c110 c111 c112 c113 c114 c115 c116 c117 c118 c119 c120 c121 c122 c123 c124 c125 c126 c127 c128 c129 c130 c131 c132 c133 c134 c135 c136 c137 c138 c139 c140 c141 c142 c143 c144 c145 c146 c147 c148 c149 c150 c151 c152 c153 c154 c155 c156 c157 c158 c159 c160 c161 c162 c163 c164 c165 c166 c167 c168 c169 c170 c171 c172 c173 c174 c175 c176 c177 c178 c179 c180 c181 c182 c183 c184 c185 c186 c187 c188 c189 c190 c191 c192 c193 c194 c195 c196 c197 c198 c199 c200 c201 c202 c203 c204 c205 c206 c207 c208 c209 c210 c211 c212 c213 c214 c215 c216 c217 c218 c219 c220 c221 c222 c223 c224 c225 c226 c227 c228 c229 c230 c231 c232 c233 c234 c235 c236 c237 c238 c239 c240 c241 c242 c243 c244 c245 c246 c247 c248 c249 c250 c251 c252 c253 c254 c255 c256 c257 c258 c259 c260 c261 c262 c263 c264 c265 c266 c267 c268 c269 c270 c271 c272 c273 c274 c275 c276 c277 c278 c279 c280 c281 c282 c283 c284 c285 c286 c287 c288 c289 c290 c291 c292 c293 c294 c295 c296 c297 c298 c299 c300 c301 c302 c303 c304 : Value} :
    Code.wp Ybad.prog (tl 14 (Ybad.f3.body.getD .skip)) (bodyPost Ybad.prog Ybad.f3 fun e w' => e = .returned (.bool true) ∧ Below N w0 w') ⟨#[.int .u32 hp, .int .u8 m, .slice a n cap, c3, c4, c5, c6, c7, .bool false, .pointer (some ⟨b.Q1, 0, none⟩), c10, .pointer (some ⟨b.T, 0, none⟩), .pointer (some ⟨HD, 0, none⟩), .slice (some ⟨LS, 0, none⟩) n lsc, c14, c15, c16, c17, c18, c19, c20, c21, .slice (some ⟨b.S1, 0, none⟩) 4 4, .slice (some ⟨b.S2, 0, none⟩) 4 4, c24, c25, c26, c27, c28, c29, c30, c31, c32, c33, c34, c35, c36, c37, c38, c39, c40, c41, c42, c43, c44, c45, c46, c47, c48, c49, c50, c51, c52, c53, c54, c55, c56, c57, c58, c59, c60, c61, c62, c63, c64, c65, c66, c67, c68, c69, c70, c71, c72, c73, c74, c75, c76, c77, c78, c79, c80, c81, c82, c83, c84, c85, c86, c87, c88, c89, c90, c91, c92, c93, c94, c95, c96, c97, c98, c99, c100, c101, c102, c103, c104, c105, c106, c107, c108, c109, c110, c111, c112, c113, c114, c115, c116, c117, c118, c119, c120, c121, c122, c123, c124, c125, c126, c127, c128, c129, c130, c131, c132, c133, c134, c135, c136, c137, c138, c139, c140, c141, c142, c143, c144, c145, c146, c147, c148, c149, c150, c151, c152, c153, c154, c155, c156, c157, c158, c159, c160, c161, c162, c163, c164, c165, c166, c167, c168, c169, c170, c171, c172, c173, c174, c175, c176, c177, c178, c179, c180, c181, c182, c183, c184, c185, c186, c187, c188, c189, c190, c191, c192, c193, c194, c195, c196, c197, c198, c199, c200, c201, c202, c203, c204, c205, c206, c207, c208, c209, c210, c211, c212, c213, c214, c215, c216, c217, c218, c219, c220, c221, c222, c223, c224, c225, c226, c227, c228, c229, c230, c231, c232, c233, c234, c235, c236, c237, c238, c239, c240, c241, c242, c243, c244, c245, c246, c247, c248, c249, c250, c251, c252, c253, c254, c255, c256, c257, c258, c259, c260, c261, c262, c263, c264, c265, c266, c267, c268, c269, c270, c271, c272, c273, c274, c275, c276, c277, c278, c279, c280, c281, c282, c283, c284, c285, c286, c287, c288, c289, c290, c291, c292, c293, c294, c295, c296, c297, c298, c299, c300, c301, c302, c303, c304], []⟩ w := by
  obtain ⟨T, hT⟩ : ∃ T, T = tl 16 (Ybad.f3.body.getD .skip) := ⟨_, rfl⟩
  conv => arg 2; whnf
  refine split2 T hT.symm ?_
  replace hT : Hid (T = tl 16 (Ybad.f3.body.getD .skip)) := hT
  have HEND : Hid (∀ wr, Below w.heap.size w wr → (∀ i, i < n → wr.rangeAt w.heap.size (i * 23) (b.lk D i)) → Below N w0 wr ∧ Ev b D n of wr ∧ Fin b D n HD LS w.heap.size wr ∧ TR wr b rv none ∧ AR wr a n D.M HH D.K) := by
    intro wr hb hs
    have ho := out_below hb
    refine ⟨hB.trans (hb.mono hN), he.later (ho.mono (fun _ f => f.elim)), ⟨fun i hi => ho.cell (hf.ls i hi) (fun f => f), fun i hi j v hv => ho.cell (hf.lk i hi j v hv) (fun f => f), hs, fun j hj => ho.cell (he.sp j hj) (fun f => f), fun j hj => ho.cell (hf.s2 j hj) (fun f => f), fun j hj => ho.cell (hf.h1 j hj) (fun f => f), fun j hj => ho.cell (hf.h2 j hj) (fun f => f), ho.cell hf.q1 (fun f => f), ho.cell hf.q2 (fun f => f), ho.cell hf.q4 (fun f => f)⟩, ht.later ho, ha.later ho (fun _ _ f => f)⟩
  have HLS : Hid (∀ i, i < n → w.cell? ⟨LS, i, none⟩ = some (.pointer (some ⟨b.L i, 0, none⟩))) := hf.ls
  have HLK : Hid (∀ i, i < n → w.rangeAt (b.L i) 0 (b.lk D i)) := hf.lk
  have HFar : Hid (Far b n HD LS w.heap.size) := hfar
  have H1 : Hid (∀ i, D.H i = HH i % 4096) := hHH
  have H2 : Hid (∀ i, i < n → HH i < 4294967296) := h32
  have H3 : Hid (∀ ad, a = some ad → ad.block ≠ b.T) := haT
  have hmk := mk53 n hn
  clear hB hf he hfar ht ha haT hHH h32
  go_wp2
  go_loopw [28] (fun i wq => ∃ (k : Nat), k ≤ n ∧ i = .int .i64 k ∧ Hid (∀ i, i < k → wq.rangeAt w.heap.size (i * 23) (b.lk D i)) ∧ Hid (∀ i, i < n → wq.there w.heap.size (i * 23) 23) ∧ Hid (Below w.heap.size w wq)) (fun i _ => n - (intOf i).toNat)
  case atStart => exact ⟨0, Nat.zero_le _, rfl, fun i hi => absurd hi (by omega), fun i hi => there_new _ _ _ _ _ (by simp [zl, size_madeCells]; omega), below_new _ _⟩
  case round =>
    obtain ⟨k, hk, rfl, HR, HT, HBl⟩ := hrel
    by_cases hlt : k < n
    · have hI : (k : Int) < (n : Int) := by omega
      have ho := out_below HBl.out
      have g1 := ho.cell (HLS.out k hlt) (fun f => f)
      have r1 : Hid (wr.rangeAt (b.L k) 0 (b.lk D k)) := fun j v hv => ho.cell (HLK.out k hlt j v hv) (fun f => f)
      have hth := HT.out k hlt
      have hl := lk_len b D k
      have h1 := lk_one b D k
      have HSAME : Hid ((wr.setCells w.heap.size (k * 23) (b.lk D k)).rangeAt w.heap.size (k * 23) (b.lk D k)) := World.rangeAt_setCells_same _ _ _ _ (by rw [hl]; exact hth)
      have HAP : Hid (∀ i, i < k → (wr.setCells w.heap.size (k * 23) (b.lk D k)).rangeAt w.heap.size (i * 23) (b.lk D i)) := fun i hi => World.rangeAt_setCells_apart (HR.out i hi) _ _ _ (.inr (.inl (by rw [lk_len]; omega)))
      have HTH : Hid (∀ i, i < n → (wr.setCells w.heap.size (k * 23) (b.lk D k)).there w.heap.size (i * 23) 23) := fun i hi => World.there_setCells (HT.out i hi) _ _ _
      have HBW : Hid (Below w.heap.size w (wr.setCells w.heap.size (k * 23) (b.lk D k))) := below_setCells _ (Nat.le_refl _) _ _ _ HBl.out
      obtain ⟨X, hX⟩ : ∃ X, X = b.lk D k := ⟨_, rfl⟩
      rw [← hX] at r1 hl h1 HSAME HAP HTH HBW
      replace hX : Hid (X = b.lk D k) := hX
      replace hth : Hid (wr.there w.heap.size (k * 23) 23) := hth
      replace hl : Hid (X.length = 23) := hl
      replace h1 : Hid (∀ v ∈ X, v.oneCell' = true) := h1
      clear ho
      go_wp2_with (first | (refine wpList_load_mid rfl 49 (.tmp 174) rfl (b.L k) 0 rfl X _ r1.out Ybad.underlying49 rfl (by rw [hl.out]; exact info49) ?_) | (refine wpList_store_mid rfl 49 (.tmp 176) (.tmp 175) rfl w.heap.size (k * 23) X.toArray rfl rfl (by simpa [hl.out] using hth.out) (by simpa [hl.out] using info49) (all_oneCell_toArray h1.out) ?_))
      go_roundw
      case rel =>
        refine ⟨k + 1, by omega, by go_num, fun i hi => ?_, HTH.out, HBW.out⟩
        by_cases e : i = k
        · subst e; rw [← hX.out]; exact HSAME.out
        · exact HAP.out i (by omega)
      case measure => simp [intOf]; omega
    · obtain rfl : k = n := by omega
      go_wp2
      rw [hT.out]
      obtain ⟨e1, e2, e3, e4, e5⟩ := HEND.out _ HBl.out HR.out
      exact tail_d N w0 _ b D HH H1.out of a k cap hp m HD LS w.heap.size lsc k rv hn hhp hm H2.out e1 hNT e2 e3 HFar.out e4 e5 H3.out

end Go.Proofs.YbulkdxawDoor
