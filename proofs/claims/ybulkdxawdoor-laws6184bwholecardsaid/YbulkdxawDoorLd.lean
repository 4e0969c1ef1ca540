/-
  THE LAW (3): the call of need, the model's answer, and t.last.
-/
import Derived.Test.YbulkdxawDoorLe
import Derived.Deep.DeepCutAuto
namespace Go.Proofs.YbulkdxawDoor
open Go.RowKit

theorem AR.later {w w' : World} {a : Option Addr} {n : Nat} {M HH : Nat → Nat} {K : Nat → Bool} {P : Nat → Prop} (h : AR w a n M HH K) (ho : Out P w w') (ha : ∀ ad, a = some ad → ¬ P ad.block) : AR w' a n M HH K := fun h0 => by
  obtain ⟨b, off, e, hc⟩ := h h0
  have hb : ¬ P b := ha ⟨b, off, none⟩ e
  exact ⟨b, off, e, fun j hj => ⟨ho.cell (hc j hj).1 hb, ho.cell (hc j hj).2.1 hb, ho.cell (hc j hj).2.2 hb⟩⟩

/-- The blocks that the end looks at are not the transaction's. -/
structure Far (b : Bs) (n HD LS SV : Nat) : Prop where
  hd : HD ≠ b.T
  ls : LS ≠ b.T
  sv : SV ≠ b.T
  s1 : b.S1 ≠ b.T
  s2 : b.S2 ≠ b.T
  q1 : b.Q1 ≠ b.T
  l : ∀ i, i < n → b.L i ≠ b.T

theorem Fin.later {b : Bs} {D : Lk} {n HD LS SV : Nat} {w w' : World} (h : Fin b D n HD LS SV w) (ho : Out (fun k => k = b.T) w w') (hf : Far b n HD LS SV) : Fin b D n HD LS SV w' :=
  ⟨fun i hi => ho.cell (h.ls i hi) hf.ls, fun i hi j v hv => ho.cell (h.lk i hi j v hv) (hf.l i hi), fun i hi j v hv => ho.cell (h.sv i hi j v hv) hf.sv, fun j hj => ho.cell (h.s1 j hj) hf.s1, fun j hj => ho.cell (h.s2 j hj) hf.s2, fun j hj => ho.cell (h.h1 j hj) hf.hd, fun j hj => ho.cell (h.h2 j hj) hf.hd, ho.cell h.q1 hf.q1, ho.cell h.q2 hf.q1, ho.cell h.q4 hf.q1⟩

set_option maxRecDepth 1000000 in
set_option maxHeartbeats 4000000 in
theorem tail_d (N : Nat) (w0 w : World) (b : Bs) (D : Lk) (HH : Nat → Nat) (hHH : ∀ i, D.H i = HH i % 4096) (of : Bool) (a : Option Addr) (n cap hp m HD LS SV lsc svc : Nat) (rv : Value) (hn : n < 2 ^ 30) (hhp : hp < 4294967296) (hm : m < 256) (h32 : ∀ i, i < n → HH i < 4294967296)
    (hB : Below N w0 w) (hNT : N ≤ b.T) (he : Ev b D n of w) (hf : Fin b D n HD LS SV w) (hfar : Far b n HD LS SV) (ht : TR w b rv none) (ha : AR w a n D.M HH D.K) (haT : ∀ ad, a = some ad → ad.block ≠ b.T)
    {c3 c4 c5 c6 c7 c10 c14 c15 c16 c17 c18 c19 c20 c21 c24 c25 c26 c28 c29 c30 c31 c32 c33 c34 c35 c36 c37 c38 c39 c40 c41 c42 c43 c44 c45 c46 c47 c48 c49 c50 c51 c52 c53 c54 c55 c56 c57 c58 c59 c60 c61 c62 c63 c64 c65 c66 c67 c68 c69 c70 c71 c72 c73 c74 c75 c76 c77 c78 c79 c80 c81 c82 c83 c84 c85 c86 c87 c88 c89 c90 c91 c92 c93 c94 c95 c96 c97 c98 c99 c100 c101 c102 c103 c104 c105 c106 c107 c108 c109 c110 c111 c112 c113 c114 c115 c116 c117 c118 c119 c120 c121 c122 c123 c124 c125 c126 c127 c128 c129 c130 c131 c132 c133 c134 c135 c136 c137 c138 c139 c140 c141 c142 c143 c144 c145 c146 c147 c148 c149 c150 c151 c152 c153 c154 c155 c156 c157 c158 c159 c160 c161 c162 c163 c164 c165 c166 c167 c168 c169 c170 c171 c172 c173 c174 c175 c176 c177 c178 c179 c180 c181 c182 c183 c184 c185 c186 c187 c188 c189 c190 c191 c192 c193 c194 c195 c196 c197 c198 c199 c200 c201 c202 c203 c204 c205 c206 c207 c208 c209 c210 c211 c212 c213 c214 c215 c216 c217 c218 c219 c220 c221 c222 c223 c224 c225 c226 c227 c228 c229 c230 c231 c232 c233 c234 c235 c236 c237 c238 c239 c240 c241 c242 c243 c244 c245 c246 c247 c248 c249 c250 c251 c252 c253 c254 c255 c256 c257 c258 c259 c260 c261 c262 c263 c264 c265 c266 c267 c268 c269 c270 c271 c272 c273 c274 c275 c276 c277 c278 c279 c280 c281 c282 c283 c284 c285 c286 c287 c288 c289 c290 c291 c292 c293 c294 c295 c296 c297 c298 c299 c300 c301 c302 c303 c304 : Value} :
    Code.wp Ybad.prog (tl 16 (Ybad.f3.body.getD .skip)) (bodyPost Ybad.prog Ybad.f3 fun e w' => e = .returned (.bool true) ∧ Below N w0 w') ⟨#[.int .u32 hp, .int .u8 m, .slice a n cap, c3, c4, c5, c6, c7, .bool false, .pointer (some ⟨b.Q1, 0, none⟩), c10, .pointer (some ⟨b.T, 0, none⟩), .pointer (some ⟨HD, 0, none⟩), .slice (some ⟨LS, 0, none⟩) n lsc, c14, c15, c16, c17, c18, c19, c20, c21, .slice (some ⟨b.S1, 0, none⟩) 4 4, .slice (some ⟨b.S2, 0, none⟩) 4 4, c24, c25, c26, .slice (some ⟨SV, 0, none⟩) n svc, c28, c29, c30, c31, c32, c33, c34, c35, c36, c37, c38, c39, c40, c41, c42, c43, c44, c45, c46, c47, c48, c49, c50, c51, c52, c53, c54, c55, c56, c57, c58, c59, c60, c61, c62, c63, c64, c65, c66, c67, c68, c69, c70, c71, c72, c73, c74, c75, c76, c77, c78, c79, c80, c81, c82, c83, c84, c85, c86, c87, c88, c89, c90, c91, c92, c93, c94, c95, c96, c97, c98, c99, c100, c101, c102, c103, c104, c105, c106, c107, c108, c109, c110, c111, c112, c113, c114, c115, c116, c117, c118, c119, c120, c121, c122, c123, c124, c125, c126, c127, c128, c129, c130, c131, c132, c133, c134, c135, c136, c137, c138, c139, c140, c141, c142, c143, c144, c145, c146, c147, c148, c149, c150, c151, c152, c153, c154, c155, c156, c157, c158, c159, c160, c161, c162, c163, c164, c165, c166, c167, c168, c169, c170, c171, c172, c173, c174, c175, c176, c177, c178, c179, c180, c181, c182, c183, c184, c185, c186, c187, c188, c189, c190, c191, c192, c193, c194, c195, c196, c197, c198, c199, c200, c201, c202, c203, c204, c205, c206, c207, c208, c209, c210, c211, c212, c213, c214, c215, c216, c217, c218, c219, c220, c221, c222, c223, c224, c225, c226, c227, c228, c229, c230, c231, c232, c233, c234, c235, c236, c237, c238, c239, c240, c241, c242, c243, c244, c245, c246, c247, c248, c249, c250, c251, c252, c253, c254, c255, c256, c257, c258, c259, c260, c261, c262, c263, c264, c265, c266, c267, c268, c269, c270, c271, c272, c273, c274, c275, c276, c277, c278, c279, c280, c281, c282, c283, c284, c285, c286, c287, c288, c289, c290, c291, c292, c293, c294, c295, c296, c297, c298, c299, c300, c301, c302, c303, c304], []⟩ w := by
  obtain ⟨T, hT⟩ : ∃ T, T = tl 24 (Ybad.f3.body.getD .skip) := ⟨_, rfl⟩
  conv => arg 2; whnf
  refine split8 T hT.symm ?_
  replace hT : Hid (T = tl 24 (Ybad.f3.body.getD .skip)) := hT
  have HN := need_c b D n of rv hp m hhp hm w he ht
  have HZ : Hid (∀ m w1, Out (fun k => k = b.T) w w1 → Calls Ybad.prog 5 #[.slice a n cap, .int .u32 hp, .int .u8 (m : Nat)] w1 fun e w' => e = .returned (.bool (fnd D hp m n)) ∧ Out (fun _ => False) w1 w') := fun m w1 ho => zzholds_c D HH hHH a n cap hp m (by omega) h32 w1 (ha.later ho (fun ad e h => haT ad e h))
  have HB : Hid (∀ w', Out (fun k => k = b.T) w w' → Below N w0 w') := fun w' ho => hB.trans ⟨ho.os, ho.tape, ho.output, ho.size, fun k hk => by
    rcases Nat.lt_or_ge k w.heap.size with h1 | h1
    · exact ho.block k h1 (by omega)
    · have := row_lt ht; omega⟩
  have HF : Hid (Fin b D n HD LS SV w) := hf
  have HA : Hid (Far b n HD LS SV) := hfar
  have h37 := neq37
  have h8 := or8 ⟨m, hm⟩
  simp only at h8
  obtain ⟨r, hr⟩ : ∃ r : Nat, bits .or .u8 (an m 3) 8 = (r : Int) := ⟨(bits .or .u8 (an m 3) 8).toNat, by omega⟩
  clear h8 hB hNT he hf hfar ht ha haT hHH h32
  unfold nd at HN
  rw [hr, Int.toNat_natCast] at HN
  unfold an at hr HN
  have HZ2 : Hid (∀ w1, Out (fun k => k = b.T) w w1 → Calls Ybad.prog 5 #[.slice a n cap, .int .u32 hp, .int .u8 r] w1 fun e w' => e = .returned (.bool (fnd D hp r n)) ∧ Out (fun _ => False) w1 w') := HZ.out r
  cases h1 : fnd D hp m n
  · rw [h1] at HN
    simp only [Bool.false_eq_true, if_false] at HN
    obtain ⟨x, hx⟩ : ∃ x, ext m hp = x := ⟨_, rfl⟩
    rw [hx] at HN
    replace hx : Hid (ext m hp = x) := hx
    by_cases h2 : x = 1
    · subst h2
      cases h3 : fnd D hp r n
      · rw [h3] at HN
        simp only [Bool.false_eq_true, and_false, if_false] at HN
        go_upto_region 53 with (first | (go_at_call 4; refine HN.mono ?_; rintro _ w1 ⟨rfl, ho1, ht1⟩; clear HN; replace ho1 : Hid (Out (fun k => k = b.T) w w1) := ho1; replace ht1 : Hid (TR w1 b rv (fst b D n (hp / 1024))) := ht1; try dsimp only) | (go_at_call 5; refine (HZ.out m w1 ho1.out).mono ?_; clear HZ; rintro _ w2 ⟨rfl, ho2⟩; rw [h1]; replace ho2 : Hid (Out (fun _ => False) w1 w2) := ho2) | (go_at_call 6; refine (zzext_c _ _ _).mono ?_; rintro _ _ ⟨rfl, rfl⟩; rw [hx.out]) | (go_at_call 5; refine (HZ2.out w2 (ho1.out.trans ho2.out (fun _ _ f => f.elim))).mono ?_; rintro _ w3 ⟨rfl, ho3⟩; rw [h3]; replace ho3 : Hid (Out (fun _ => False) w2 w3) := ho3))
        have hO : Hid (Out (fun k => k = b.T) w w3) := (ho1.out.trans ho2.out (fun _ _ f => f.elim)).trans ho3.out (fun _ _ f => f.elim)
        have hT3 : Hid (TR w3 b rv (fst b D n (hp / 1024))) := (ht1.out.later ho2.out).later ho3.out
        have hF := HF.out.later hO.out HA.out
        have cl := hT3.out.last
        by_cases h4 : hp / 1024 < 4
        · have h4I : (hp : Int) / 1024 < 4 := by omega
          have ch := hF.h1 _ h4
          rw [show fst b D n (hp / 1024) = hd D b.L false (hp / 1024) n by unfold fst; rw [if_pos h4]] at cl hT3
          generalize hd D b.L false (hp / 1024) n = y at cl ch hT3
          replace hF : Hid _ := hF
          go_wp2
          rw [hT.out]
          exact tail_e N w0 _ b D n HD LS SV lsc svc rv _ hn (HB.out _ hO.out) hF.out hT3.out
        · have h4I : (4 : Int) ≤ (hp : Int) / 1024 := by omega
          rw [show fst b D n (hp / 1024) = none by unfold fst; rw [if_neg h4]] at cl hT3
          replace hF : Hid _ := hF
          go_wp2
          rw [hT.out]
          exact tail_e N w0 _ b D n HD LS SV lsc svc rv _ hn (HB.out _ hO.out) hF.out hT3.out
      · rw [h3] at HN
        simp only [and_true, if_true] at HN
        go_upto_region 53 with (first | (go_at_call 4; refine HN.mono ?_; rintro _ w1 ⟨rfl, ho1, ht1⟩; clear HN; replace ho1 : Hid (Out (fun k => k = b.T) w w1) := ho1; replace ht1 : Hid (TR w1 b rv (fst b D n (hp / 1024))) := ht1; try dsimp only) | (go_at_call 5; refine (HZ.out m w1 ho1.out).mono ?_; clear HZ; rintro _ w2 ⟨rfl, ho2⟩; rw [h1]; replace ho2 : Hid (Out (fun _ => False) w1 w2) := ho2) | (go_at_call 6; refine (zzext_c _ _ _).mono ?_; rintro _ _ ⟨rfl, rfl⟩; rw [hx.out]) | (go_at_call 5; refine (HZ2.out w2 (ho1.out.trans ho2.out (fun _ _ f => f.elim))).mono ?_; rintro _ w3 ⟨rfl, ho3⟩; rw [h3]; replace ho3 : Hid (Out (fun _ => False) w2 w3) := ho3))
        have hO : Hid (Out (fun k => k = b.T) w w3) := (ho1.out.trans ho2.out (fun _ _ f => f.elim)).trans ho3.out (fun _ _ f => f.elim)
        have hT3 : Hid (TR w3 b rv (fst b D n (hp / 1024))) := (ht1.out.later ho2.out).later ho3.out
        have hF := HF.out.later hO.out HA.out
        have cl := hT3.out.last
        by_cases h4 : hp / 1024 < 4
        · have h4I : (hp : Int) / 1024 < 4 := by omega
          have ch := hF.h1 _ h4
          rw [show fst b D n (hp / 1024) = hd D b.L false (hp / 1024) n by unfold fst; rw [if_pos h4]] at cl hT3
          generalize hd D b.L false (hp / 1024) n = y at cl ch hT3
          replace hF : Hid _ := hF
          go_wp2
          rw [hT.out]
          exact tail_e N w0 _ b D n HD LS SV lsc svc rv _ hn (HB.out _ hO.out) hF.out hT3.out
        · have h4I : (4 : Int) ≤ (hp : Int) / 1024 := by omega
          rw [show fst b D n (hp / 1024) = none by unfold fst; rw [if_neg h4]] at cl hT3
          replace hF : Hid _ := hF
          go_wp2
          rw [hT.out]
          exact tail_e N w0 _ b D n HD LS SV lsc svc rv _ hn (HB.out _ hO.out) hF.out hT3.out
    · have h2b : ((x : Int) == 1) = false := by rw [beq_eq_false_iff_ne]; omega
      rw [if_neg (fun h => h2 h.1)] at HN
      go_upto_region 53 with (first | (go_at_call 4; refine HN.mono ?_; rintro _ w1 ⟨rfl, ho1, ht1⟩; clear HN; replace ho1 : Hid (Out (fun k => k = b.T) w w1) := ho1; replace ht1 : Hid (TR w1 b rv (fst b D n (hp / 1024))) := ht1; try dsimp only) | (go_at_call 5; refine (HZ.out m w1 ho1.out).mono ?_; clear HZ; rintro _ w2 ⟨rfl, ho2⟩; rw [h1]; replace ho2 : Hid (Out (fun _ => False) w1 w2) := ho2) | (go_at_call 6; refine (zzext_c _ _ _).mono ?_; rintro _ _ ⟨rfl, rfl⟩; rw [hx.out]))
      have hO : Hid (Out (fun k => k = b.T) w w2) := ho1.out.trans ho2.out (fun _ _ f => f.elim)
      have hT3 : Hid (TR w2 b rv (fst b D n (hp / 1024))) := ht1.out.later ho2.out
      have hF := HF.out.later hO.out HA.out
      have cl := hT3.out.last
      by_cases h4 : hp / 1024 < 4
      · have h4I : (hp : Int) / 1024 < 4 := by omega
        have ch := hF.h1 _ h4
        rw [show fst b D n (hp / 1024) = hd D b.L false (hp / 1024) n by unfold fst; rw [if_pos h4]] at cl hT3
        generalize hd D b.L false (hp / 1024) n = y at cl ch hT3
        replace hF : Hid _ := hF
        go_wp2
        rw [hT.out]
        exact tail_e N w0 _ b D n HD LS SV lsc svc rv _ hn (HB.out _ hO.out) hF.out hT3.out
      · have h4I : (4 : Int) ≤ (hp : Int) / 1024 := by omega
        rw [show fst b D n (hp / 1024) = none by unfold fst; rw [if_neg h4]] at cl hT3
        replace hF : Hid _ := hF
        go_wp2
        rw [hT.out]
        exact tail_e N w0 _ b D n HD LS SV lsc svc rv _ hn (HB.out _ hO.out) hF.out hT3.out
  · rw [h1] at HN
    simp only [if_true] at HN
    go_upto_region 53 with (first | (go_at_call 4; refine HN.mono ?_; rintro _ w1 ⟨rfl, ho1, ht1⟩; clear HN; replace ho1 : Hid (Out (fun k => k = b.T) w w1) := ho1; replace ht1 : Hid (TR w1 b rv (fst b D n (hp / 1024))) := ht1; try dsimp only) | (go_at_call 5; refine (HZ.out m w1 ho1.out).mono ?_; clear HZ; rintro _ w2 ⟨rfl, ho2⟩; rw [h1]; replace ho2 : Hid (Out (fun _ => False) w1 w2) := ho2))
    have hO : Hid (Out (fun k => k = b.T) w w2) := ho1.out.trans ho2.out (fun _ _ f => f.elim)
    have hT3 : Hid (TR w2 b rv (fst b D n (hp / 1024))) := ht1.out.later ho2.out
    have hF := HF.out.later hO.out HA.out
    have cl := hT3.out.last
    by_cases h4 : hp / 1024 < 4
    · have h4I : (hp : Int) / 1024 < 4 := by omega
      have ch := hF.h1 _ h4
      rw [show fst b D n (hp / 1024) = hd D b.L false (hp / 1024) n by unfold fst; rw [if_pos h4]] at cl hT3
      generalize hd D b.L false (hp / 1024) n = y at cl ch hT3
      replace hF : Hid _ := hF
      go_wp2
      rw [hT.out]
      exact tail_e N w0 _ b D n HD LS SV lsc svc rv _ hn (HB.out _ hO.out) hF.out hT3.out
    · have h4I : (4 : Int) ≤ (hp : Int) / 1024 := by omega
      rw [show fst b D n (hp / 1024) = none by unfold fst; rw [if_neg h4]] at cl hT3
      replace hF : Hid _ := hF
      go_wp2
      rw [hT.out]
      exact tail_e N w0 _ b D n HD LS SV lsc svc rv _ hn (HB.out _ hO.out) hF.out hT3.out

end Go.Proofs.YbulkdxawDoor
