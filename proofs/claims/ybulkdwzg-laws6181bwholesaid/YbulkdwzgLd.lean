/-
  LawS6181BWhole (4): THE CHECKS BEHIND THE CALL; the copy that is sorted.
-/
import Derived.Test.YbulkdwzgLc
import Derived.Lib.SlBuf
namespace Go.Proofs.Ybulkdwzg.lawB
open Go.RowKit

set_option maxRecDepth 1000000 in
set_option maxHeartbeats 8000000 in
theorem law_k (N : Nat) (w0 w : World) (hB : Below N w0 w) (hN : N ≤ w.heap.size) (PB KB CB WSP n pc kc nw wwc base : Nat) (P T : Nat → Pr) (wa : Option Addr) (Z : Nat → Nat) (va : Option Addr) (vc : Nat) (hn : n ≤ 4096) (hnw : nw ≤ 1048576) (hZ : ∀ j, j < nw → Z j < 256) (hT5 : ∀ k, k < n → 0 ≤ (T k).1 ∧ (T k).1 < 512) (hT : Srt P T n)
    (hp : R2 w PB 57 (fun k => .int .i64 (P k).1) (fun k => .int .i64 (P k).2) n) (hk : R2 w KB 57 (fun k => .int .i64 (P k).1) (fun k => .int .i64 (P k).2) n) (hc : Wc CB WSP wa nw wwc Z n w)
    (hg : w.ownsRow base 57 2 (.slice va (CH nw Z T n).length vc) (CH nw Z T n).length (prs ((CH nw Z T n).reverse.map T))) (hva : (CH nw Z T n).length = 0 → va = none ∧ vc = 0)
    {c0 c1 c2 c7 c11 c12 c13 c14 c15 c16 c17 c18 c19 c20 c21 c22 c23 c24 c25 c26 c27 c28 c29 c30 c31 c32 c33 c34 c35 c36 c37 c38 c39 c40 c41 c42 c43 c44 c45 c46 c47 c48 c49 c50 c51 c52 c53 c54 c55 c56 c57 c58 c59 c60 c61 c62 c63 c64 c65 c66 c67 c68 c69 c70 c71 c72 c73 c74 c75 c76 c77 c78 c79 c80 c81 c82 c83 c84 c85 c86 c87 c88 c89 c90 c91 c92 c93 c94 c95 c96 c97 c98 c99 c100 c101 c102 c103 c104 c105 c106 c107 c108 c109 c110 c111 c112 c113 c114 c115 c116 c117 c118 c119 c120 c121 c122 c123 c124 c125 c126 c127 c128 c129 c130 c131 c132 c133 c134 c135 c136 c137 c138 c139 c140 c141 c142 c143 c144 c145 c146 c147 c148 c149 c150 c151 c152 c153 c154 c155 c156 c157 c158 c159 c160 c161 c162 c163 c164 c165 c166 c167 c168 c169 c170 c171 c172 c173 c174 c175 c176 c177 c178 c179 c180 c181 c182 c183 c184 c185 c186 c187 c188 c189 c190 c191 c192 c193 c194 c195 c196 c197 c198 c199 c200 c201 c202 c203 c204 c205 c206 c207 c208 c209 c210 c211 c212 c213 c214 c215 c216 c217 c218 c219 c220 c221 c222 c223 c224 c225 c226 : Value} :
    Code.wp Yba.prog (tl 9 (Yba.f4.body.getD .skip)) (bodyPost Yba.prog Yba.f4 fun x w' => x = .returned (.bool true) ∧ Below N w0 w') ⟨#[c0, c1, c2, .pointer (some ⟨WSP, 0, none⟩), .bool false, .int .i64 (n : Int), .slice (some ⟨PB, 0, none⟩) n pc, c7, .slice (some ⟨KB, 0, none⟩) n kc, .pointer (some ⟨CB, 0, none⟩), .slice va (CH nw Z T n).length vc, c11, c12, c13, c14, c15, c16, c17, c18, c19, c20, c21, c22, c23, c24, c25, c26, c27, c28, c29, c30, c31, c32, c33, c34, c35, c36, c37, c38, c39, c40, c41, c42, c43, c44, c45, c46, c47, c48, c49, c50, c51, c52, c53, c54, c55, c56, c57, c58, c59, c60, c61, c62, c63, c64, c65, c66, c67, c68, c69, c70, c71, c72, c73, c74, c75, c76, c77, c78, c79, c80, c81, c82, c83, c84, c85, c86, c87, c88, c89, c90, c91, c92, c93, c94, c95, c96, c97, c98, c99, c100, c101, c102, c103, c104, c105, c106, c107, c108, c109, c110, c111, c112, c113, c114, c115, c116, c117, c118, c119, c120, c121, c122, c123, c124, c125, c126, c127, c128, c129, c130, c131, c132, c133, c134, c135, c136, c137, c138, c139, c140, c141, c142, c143, c144, c145, c146, c147, c148, c149, c150, c151, c152, c153, c154, c155, c156, c157, c158, c159, c160, c161, c162, c163, c164, c165, c166, c167, c168, c169, c170, c171, c172, c173, c174, c175, c176, c177, c178, c179, c180, c181, c182, c183, c184, c185, c186, c187, c188, c189, c190, c191, c192, c193, c194, c195, c196, c197, c198, c199, c200, c201, c202, c203, c204, c205, c206, c207, c208, c209, c210, c211, c212, c213, c214, c215, c216, c217, c218, c219, c220, c221, c222, c223, c224, c225, c226], []⟩ w := by
  obtain ⟨T', hT'⟩ : ∃ T', T' = tl 13 (Yba.f4.body.getD .skip) := ⟨_, rfl⟩
  conv => arg 2; whnf
  refine split4 T' hT'.symm ?_
  replace hT' : Hid (T' = tl 13 (Yba.f4.body.getD .skip)) := hT'
  have HP : Hid (R2 w PB 57 (fun k => .int .i64 (P k).1) (fun k => .int .i64 (P k).2) n) := hp
  have HK : Hid (R2 w KB 57 (fun k => .int .i64 (P k).1) (fun k => .int .i64 (P k).2) n) := hk
  have HC : Hid (Wc CB WSP wa nw wwc Z n w) := hc
  have HG : Hid (w.ownsRow base 57 2 (.slice va (CH nw Z T n).length vc) (CH nw Z T n).length (prs ((CH nw Z T n).reverse.map T))) := hg
  have HB : Hid (Below N w0 w) := hB
  have HZ : Hid (∀ j, j < nw → Z j < 256) := hZ
  have HT5 : Hid (∀ k, k < n → 0 ≤ (T k).1 ∧ (T k).1 < 512) := hT5
  have HT : Hid (Srt P T n) := hT
  have HVA : Hid ((CH nw Z T n).length = 0 → va = none ∧ vc = 0) := hva
  have hmk := mk53 n (by omega)
  have cc := hc.c.cell (j := 0) (by omega)
  have hkb := hk.lt
  clear hp hk hc hg hB hZ hT5 hT hva
  go_wp2
  go_loopw [4, 11] (fun r4 kv wr => ∃ (k q : Nat), r4 = .bool false ∧ k ≤ n ∧ kv = .int .i64 k ∧ wr = w.drewN q) (fun _ kv _ => n - (intOf kv).toNat)
  case atStart => exact ⟨0, 0, rfl, Nat.zero_le _, rfl, rfl⟩
  case round =>
    obtain ⟨k, q, rfl, hk, rfl, rfl⟩ := hrel
    by_cases hlt : k < n
    · have hltI : (k : Int) < (n : Int) := by omega
      have p0 := HP.out.c0 hlt
      have p1 := HP.out.c1 hlt
      have k0 := HK.out.c0 hlt
      have k1 := HK.out.c1 hlt
      go_wp2
      go_quiet (fail)
      go_wp2
      go_roundw
      case rel => exact ⟨k + 1, _, rfl, by omega, by go_num, rfl⟩
      case measure => simp [intOf]; omega
    · obtain rfl : k = n := by omega
      go_wp2_with (first | (refine Lib.wpList_copy_run _ rfl _ _ 53 53 rfl _ _ rfl rfl (copy2 _ w.heap.size KB k k kc _ (p2 (fun _ => .int .i64 0) (fun _ => .int .i64 0)) (fun k => (P k).1) (fun k => (P k).2) (by exact rw_new w (p2 (fun _ => .int .i64 0) (fun _ => .int .i64 0)) (k * 2) 57) (by exact RW.alloc HK.out _)) ?_))
      have hO1 : Out (fun b => b = w.heap.size) w (((w.drewN q).alloc (.cells (rowL (p2 (fun _ => .int .i64 0) (fun _ => .int .i64 0)) (k * 2)).toArray 57)).setRow w.heap.size (rowL (p2 (fun k => .int .i64 (P k).1) (fun k => .int .i64 (P k).2)) (k * 2)).toArray) :=
        (((out_draw w q).mono (Q := fun b => b = w.heap.size) (fun _ h => h.elim)).trans (out_alloc (fun b => b = w.heap.size) _ _) (fun _ _ h => h)).trans (out_setRow _ w.heap.size _) (fun _ _ h => h)
      have hR1 : R2 (((w.drewN q).alloc (.cells (rowL (p2 (fun _ => .int .i64 0) (fun _ => .int .i64 0)) (k * 2)).toArray 57)).setRow w.heap.size (rowL (p2 (fun k => .int .i64 (P k).1) (fun k => .int .i64 (P k).2)) (k * 2)).toArray) w.heap.size 57 (fun k => .int .i64 (P k).1) (fun k => .int .i64 (P k).2) k :=
        setRow_heap ((w.drewN q).alloc (.cells (rowL (p2 (fun _ => .int .i64 0) (fun _ => .int .i64 0)) (k * 2)).toArray 57)) w.heap.size (rowL (p2 (fun _ => .int .i64 0) (fun _ => .int .i64 0)) (k * 2)).toArray _ 57 (0, 0) (rw_new w _ (k * 2) 57)
      generalize ((w.drewN q).alloc (.cells (rowL (p2 (fun _ => .int .i64 0) (fun _ => .int .i64 0)) (k * 2)).toArray 57)).setRow w.heap.size (rowL (p2 (fun k => .int .i64 (P k).1) (fun k => .int .i64 (P k).2)) (k * 2)).toArray = wB at hO1 hR1 ⊢
      have hwsp := World.block_lt_of_cell? w _ HC.out.s
      have hwa0 : 0 < nw → ∀ ad, wa = some ad → ad.block < w.heap.size := fun h0 ad had => by
        obtain ⟨b, off, e, hcc⟩ := HC.out.y h0
        rw [had] at e
        cases e
        exact World.block_lt_of_cell? w _ (hcc 0 h0)
      have hgb0 : ∀ k_1, (Value.slice va (CH nw Z T k).length vc).ownBlock = some k_1 → k_1 < w.heap.size := fun k_1 hk1 => (HG.out.lt k_1 hk1).2
      have hrs : Rs WSP nw wwc base (CH nw Z T k).length wa Z (.slice va (CH nw Z T k).length vc) (prs ((CH nw Z T k).reverse.map T)) wB :=
        Rs.out ⟨HC.out.s, HC.out.y, HG.out⟩ hO1 (by show ¬ WSP = w.heap.size; have : WSP < w.heap.size := hwsp; omega) (fun h0 ad had => by have := hwa0 h0 ad had; omega) (fun k_1 hk1 => by have := hgb0 k_1 hk1; omega)
      rw [hT'.out]
      exact law_s N w0 wB (below_out HB.out hO1 (fun b hb => by omega) hN) w.heap.size WSP k nw wwc base hN P T wa Z va vc hn hnw HZ.out HT5.out HT.out hR1 hrs hwsp hwa0 hgb0 HVA.out

end Go.Proofs.Ybulkdwzg.lawB
