/-
  THE LAW (3), ITS LAST PART: the locks, the spans and the queue are as they were.
-/
import Derived.Test.YbulkdxawDoorEq
namespace Go.Proofs.YbulkdxawDoor
open Go.RowKit

/-- What lies behind k statements. -/
def tl : Nat → Code → Code
  | 0, c => c
  | k + 1, .seq _ b => tl k b
  | _, c => c
theorem split1 {P : Program} {a t : Code} {Q : Exit → Act → World → Prop} {x : Act} {w : World} (T : Code) (e : t = T) (h : Code.wp P (.seq a T) Q x w) : Code.wp P (.seq a t) Q x w := by subst e; exact h
theorem split2 {P : Program} {a b t : Code} {Q : Exit → Act → World → Prop} {x : Act} {w : World} (T : Code) (e : t = T) (h : Code.wp P (.seq a (.seq b T)) Q x w) : Code.wp P (.seq a (.seq b t)) Q x w := by subst e; exact h
theorem split3 {P : Program} {a b c t : Code} {Q : Exit → Act → World → Prop} {x : Act} {w : World} (T : Code) (e : t = T) (h : Code.wp P (.seq a (.seq b (.seq c T))) Q x w) : Code.wp P (.seq a (.seq b (.seq c t))) Q x w := by subst e; exact h
theorem split4 {P : Program} {a b c d t : Code} {Q : Exit → Act → World → Prop} {x : Act} {w : World} (T : Code) (e : t = T) (h : Code.wp P (.seq a (.seq b (.seq c (.seq d T)))) Q x w) : Code.wp P (.seq a (.seq b (.seq c (.seq d t)))) Q x w := by subst e; exact h
theorem split5 {P : Program} {a b c d f t : Code} {Q : Exit → Act → World → Prop} {x : Act} {w : World} (T : Code) (e : t = T) (h : Code.wp P (.seq a (.seq b (.seq c (.seq d (.seq f T))))) Q x w) : Code.wp P (.seq a (.seq b (.seq c (.seq d (.seq f t))))) Q x w := by subst e; exact h
theorem split6 {P : Program} {a b c d f g t : Code} {Q : Exit → Act → World → Prop} {x : Act} {w : World} (T : Code) (e : t = T) (h : Code.wp P (.seq a (.seq b (.seq c (.seq d (.seq f (.seq g T)))))) Q x w) : Code.wp P (.seq a (.seq b (.seq c (.seq d (.seq f (.seq g t)))))) Q x w := by subst e; exact h
theorem split7 {P : Program} {a b c d f g j t : Code} {Q : Exit → Act → World → Prop} {x : Act} {w : World} (T : Code) (e : t = T) (h : Code.wp P (.seq a (.seq b (.seq c (.seq d (.seq f (.seq g (.seq j T))))))) Q x w) : Code.wp P (.seq a (.seq b (.seq c (.seq d (.seq f (.seq g (.seq j t))))))) Q x w := by subst e; exact h
theorem split8 {P : Program} {a b c d f g j k t : Code} {Q : Exit → Act → World → Prop} {x : Act} {w : World} (T : Code) (e : t = T) (h : Code.wp P (.seq a (.seq b (.seq c (.seq d (.seq f (.seq g (.seq j (.seq k T)))))))) Q x w) : Code.wp P (.seq a (.seq b (.seq c (.seq d (.seq f (.seq g (.seq j (.seq k t)))))))) Q x w := by subst e; exact h

/-- What the law looks at in the end. -/
structure Fin (b : Bs) (D : Lk) (n HD LS SV : Nat) (w : World) : Prop where
  ls : ∀ i, i < n → w.cell? ⟨LS, i, none⟩ = some (.pointer (some ⟨b.L i, 0, none⟩))
  lk : ∀ i, i < n → w.rangeAt (b.L i) 0 (b.lk D i)
  sv : ∀ i, i < n → w.rangeAt SV (i * 23) (b.lk D i)
  s1 : ∀ j, j < 4 → w.cell? ⟨b.S1, j, none⟩ = some (.pointer (hd D b.L false j n))
  s2 : ∀ j, j < 4 → w.cell? ⟨b.S2, j, none⟩ = some (.pointer (hd D b.L true j n))
  h1 : ∀ j, j < 4 → w.cell? ⟨HD, j, none⟩ = some (.pointer (hd D b.L false j n))
  h2 : ∀ j, j < 4 → w.cell? ⟨HD, 4 + j, none⟩ = some (.pointer (hd D b.L true j n))
  q1 : w.cell? ⟨b.Q1, 1, none⟩ = some (.slice none 0 0)
  q2 : w.cell? ⟨b.Q1, 2, none⟩ = some (.map none)
  q4 : w.cell? ⟨b.Q1, 4, none⟩ = some (.int .u64 0)

theorem lk_len (b : Bs) (D : Lk) (i : Nat) : (b.lk D i).length = 23 := by simp [Bs.lk, lkC]
theorem list23 {α : Type} {l : List α} (h : l.length = 23) : ∃ v0 v1 v2 v3 v4 v5 v6 v7 v8 v9 v10 v11 v12 v13 v14 v15 v16 v17 v18 v19 v20 v21 v22, l = [v0, v1, v2, v3, v4, v5, v6, v7, v8, v9, v10, v11, v12, v13, v14, v15, v16, v17, v18, v19, v20, v21, v22] := by
  match l, h with
  | [v0, v1, v2, v3, v4, v5, v6, v7, v8, v9, v10, v11, v12, v13, v14, v15, v16, v17, v18, v19, v20, v21, v22], _ => exact ⟨v0, v1, v2, v3, v4, v5, v6, v7, v8, v9, v10, v11, v12, v13, v14, v15, v16, v17, v18, v19, v20, v21, v22, rfl⟩
theorem ld49 (b : Bs) (D : Lk) (i B o : Nat) (w : World) (h : w.rangeAt B o (b.lk D i)) : (Instr.loadAt 49 (.pointer (some ⟨B, o, none⟩))).run Ybad.prog w = .ok (.agg (b.lk D i).toArray) w :=
  run_loadAt_mid w B o 49 (b.lk D i) _ h Ybad.underlying49 rfl (by rw [info49, lk_len])

theorem wpQuiet_load {P : Program} {ops : Array Oper} {C : World → Prop} {Q : Act → Prop} {rest : List Oper} {a : Act} {o : Oper} (hw : Region.wanted o (yielded ops a.tmps) = true) (ty : TypeId) (x : Operand) (ho : o.op = .load ty x) (p v : Value) (hx : a.eval x = p)
    (hl : ∀ w, C w → (Instr.loadAt ty p).run P w = .ok v w) (h : wpQuiet P ops C Q rest (a.put o.dst v)) : wpQuiet P ops C Q (o :: rest) a := by
  unfold wpQuiet
  rw [if_pos hw]
  refine ⟨v, fun w hC => ?_, h⟩
  unfold Oper.quietAt execOp
  simp only [ho, hx, Sem.run_bind, hl w hC, Result.andThen_ok, Sem.run_pure]
  exact ⟨rfl, rfl⟩

set_option maxRecDepth 1000000 in
set_option maxHeartbeats 4000000 in
theorem tail_e (N : Nat) (w0 w : World) (b : Bs) (D : Lk) (n HD LS SV lsc svc : Nat) (rv : Value) (la : Option Addr) (hn : n < 2 ^ 30) (hB : Below N w0 w) (hf : Fin b D n HD LS SV w) (ht : TR w b rv la)
    {c0 c1 c2 c3 c4 c5 c6 c7 c10 c14 c15 c16 c17 c18 c19 c20 c21 c24 c25 c26 c28 c29 c30 c31 c32 c33 c34 c35 c36 c37 c38 c39 c40 c41 c42 c43 c44 c45 c46 c47 c48 c49 c50 c51 c52 c53 c54 c55 c56 c57 c58 c59 c60 c61 c62 c63 c64 c65 c66 c67 c68 c69 c70 c71 c72 c73 c74 c75 c76 c77 c78 c79 c80 c81 c82 c83 c84 c85 c86 c87 c88 c89 c90 c91 c92 c93 c94 c95 c96 c97 c98 c99 c100 c101 c102 c103 c104 c105 c106 c107 c108 c109 c110 c111 c112 c113 c114 c115 c116 c117 c118 c119 c120 c121 c122 c123 c124 c125 c126 c127 c128 c129 c130 c131 c132 c133 c134 c135 c136 c137 c138 c139 c140 c141 c142 c143 c144 c145 c146 c147 c148 c149 c150 c151 c152 c153 c154 c155 c156 c157 c158 c159 c160 c161 c162 c163 c164 c165 c166 c167 c168 c169 c170 c171 c172 c173 c174 c175 c176 c177 c178 c179 c180 c181 c182 c183 c184 c185 c186 c187 c188 c189 c190 c191 c192 c193 c194 c195 c196 c197 c198 c199 c200 c201 c202 c203 c204 c205 c206 c207 c208 c209 c210 c211 c212 c213 c214 c215 c216 c217 c218 c219 c220 c221 c222 c223 c224 c225 c226 c227 c228 c229 c230 c231 c232 c233 c234 c235 c236 c237 c238 c239 c240 c241 c242 c243 c244 c245 c246 c247 c248 c249 c250 c251 c252 c253 c254 c255 c256 c257 c258 c259 c260 c261 c262 c263 c264 c265 c266 c267 c268 c269 c270 c271 c272 c273 c274 c275 c276 c277 c278 c279 c280 c281 c282 c283 c284 c285 c286 c287 c288 c289 c290 c291 c292 c293 c294 c295 c296 c297 c298 c299 c300 c301 c302 c303 c304 : Value} :
    Code.wp Ybad.prog (tl 24 (Ybad.f3.body.getD .skip)) (bodyPost Ybad.prog Ybad.f3 fun e w' => e = .returned (.bool true) ∧ Below N w0 w') ⟨#[c0, c1, c2, c3, c4, c5, c6, c7, .bool false, .pointer (some ⟨b.Q1, 0, none⟩), c10, .pointer (some ⟨b.T, 0, none⟩), .pointer (some ⟨HD, 0, none⟩), .slice (some ⟨LS, 0, none⟩) n lsc, c14, c15, c16, c17, c18, c19, c20, c21, .slice (some ⟨b.S1, 0, none⟩) 4 4, .slice (some ⟨b.S2, 0, none⟩) 4 4, c24, c25, c26, .slice (some ⟨SV, 0, none⟩) n svc, c28, c29, c30, c31, c32, c33, c34, c35, c36, c37, c38, c39, c40, c41, c42, c43, c44, c45, c46, c47, c48, c49, c50, c51, c52, c53, c54, c55, c56, c57, c58, c59, c60, c61, c62, c63, c64, c65, c66, c67, c68, c69, c70, c71, c72, c73, c74, c75, c76, c77, c78, c79, c80, c81, c82, c83, c84, c85, c86, c87, c88, c89, c90, c91, c92, c93, c94, c95, c96, c97, c98, c99, c100, c101, c102, c103, c104, c105, c106, c107, c108, c109, c110, c111, c112, c113, c114, c115, c116, c117, c118, c119, c120, c121, c122, c123, c124, c125, c126, c127, c128, c129, c130, c131, c132, c133, c134, c135, c136, c137, c138, c139, c140, c141, c142, c143, c144, c145, c146, c147, c148, c149, c150, c151, c152, c153, c154, c155, c156, c157, c158, c159, c160, c161, c162, c163, c164, c165, c166, c167, c168, c169, c170, c171, c172, c173, c174, c175, c176, c177, c178, c179, c180, c181, c182, c183, c184, c185, c186, c187, c188, c189, c190, c191, c192, c193, c194, c195, c196, c197, c198, c199, c200, c201, c202, c203, c204, c205, c206, c207, c208, c209, c210, c211, c212, c213, c214, c215, c216, c217, c218, c219, c220, c221, c222, c223, c224, c225, c226, c227, c228, c229, c230, c231, c232, c233, c234, c235, c236, c237, c238, c239, c240, c241, c242, c243, c244, c245, c246, c247, c248, c249, c250, c251, c252, c253, c254, c255, c256, c257, c258, c259, c260, c261, c262, c263, c264, c265, c266, c267, c268, c269, c270, c271, c272, c273, c274, c275, c276, c277, c278, c279, c280, c281, c282, c283, c284, c285, c286, c287, c288, c289, c290, c291, c292, c293, c294, c295, c296, c297, c298, c299, c300, c301, c302, c303, c304], []⟩ w := by
  conv => arg 2; whnf
  have c5 := ht.own
  have c4 : w.cell? ⟨b.T, 4, none⟩ = some (.pointer none) := cell_row ht rfl
  have q1 := hf.q1
  have q2 := hf.q2
  have q4 := hf.q4
  have HF : Hid (Fin b D n HD LS SV w) := hf
  have h37 := neq37
  have h27 : ∀ v, (binOp .neq 27 (.map none) (.map none)).run Ybad.prog v = .ok (.bool false) v := fun v => by rw [run_neq_map_nil v 27 _ _ none Ybad.underlying27]; rfl
  clear hf ht
  go_wp2
  go_loopw [35] (fun i wr => ∃ (k q : Nat), k ≤ n ∧ i = .int .i64 k ∧ wr = w.drewN q) (fun i _ => n - (intOf i).toNat)
  case atStart => exact ⟨0, 0, Nat.zero_le _, rfl, rfl⟩
  case round =>
    obtain ⟨k, q, hk, rfl, rfl⟩ := hrel
    by_cases hlt : k < n
    · have g1 := HF.out.ls k hlt
      have hI : (k : Int) < (n : Int) := by omega
      have r1 := HF.out.lk k hlt
      have r2 := HF.out.sv k hlt
      have hne : ∀ v, (binOp .neq 49 (.agg (b.lk D k).toArray) (.agg (b.lk D k).toArray)).run Ybad.prog v = .ok (.bool false) v := fun v => ne49 _ _ _ _ _ _ v
      have hl := lk_len b D k
      generalize b.lk D k = X at hne r1 r2 hl
      have hi : (Ybad.prog.info? 49).map (·.size) = some X.length := by rw [hl]; exact info49
      have r3 : (w.drewN q).rangeAt (b.L k) 0 X := r1
      have r4 : (w.drewN q).rangeAt SV (k * 23) X := r2
      have g3 : (w.drewN q).cell? ⟨LS, k, none⟩ = some (.pointer (some ⟨b.L k, 0, none⟩)) := g1
      have HW : Hid (∀ m, ∃ m', (w.drewN q).drewN m = w.drewN m') := fun m => ⟨q + m, by simp [World.drewN, Nat.add_assoc]⟩
      clear r1 r2 g1
      generalize w.drewN q = wq at r3 r4 g3 HW ⊢
      have l1 : ∀ m, (Instr.loadAt 49 (.pointer (some ⟨b.L k, 0, none⟩))).run Ybad.prog (wq.drewN m) = .ok (.agg X.toArray) (wq.drewN m) := fun m => run_loadAt_mid _ _ _ 49 X _ r3 Ybad.underlying49 rfl hi
      have l2 : ∀ m, (Instr.loadAt 49 (.pointer (some ⟨SV, k * 23, none⟩))).run Ybad.prog (wq.drewN m) = .ok (.agg X.toArray) (wq.drewN m) := fun m => run_loadAt_mid _ _ _ 49 X _ r4 Ybad.underlying49 rfl hi
      clear r3 r4 hi hl
      have l1' : ∀ w', (∃ n, w' = wq.drewN n) → (Instr.loadAt 49 (.pointer (some ⟨b.L k, 0, none⟩))).run Ybad.prog w' = .ok (.agg X.toArray) w' := by rintro _ ⟨m, rfl⟩; exact l1 m
      have l2' : ∀ w', (∃ n, w' = wq.drewN n) → (Instr.loadAt 49 (.pointer (some ⟨SV, k * 23, none⟩))).run Ybad.prog w' = .ok (.agg X.toArray) w' := by rintro _ ⟨m, rfl⟩; exact l2 m
      replace l1' : Hid _ := l1'
      replace l2' : Hid _ := l2'
      clear l1 l2
      go_wp2
      refine wp_region_quiet_lit (by kernel_rfl) (by kernel_rfl) ?_
      quiet_step (fail)
      quiet_step (fail)
      quiet_step (fail)
      quiet_step (fail)
      quiet_step (fail)
      refine wpQuiet_load (by rfl) 49 (.tmp 240) (by rfl) (.pointer (some ⟨b.L k, 0, none⟩)) (.agg X.toArray) (by rfl) l1'.out ?_
      go_simp
      quiet_step (fail)
      quiet_step (fail)
      quiet_step (fail)
      refine wpQuiet_load (by rfl) 49 (.tmp 244) (by rfl) (.pointer (some ⟨SV, k * 23, none⟩)) (.agg X.toArray) (by rfl) l2'.out ?_
      go_simp
      quiet_step (fail)
      refine wpQuiet_nil ?_
      intro nq
      go_wp2
      go_roundw
      case rel =>
        obtain ⟨m', hm'⟩ := HW.out nq
        exact ⟨k + 1, m', by omega, by go_num, hm'⟩
      case measure => simp [intOf]; omega
    · obtain rfl : k = n := by omega
      go_wp2
      go_loopw [36] (fun i wr => ∃ (j q : Nat), j ≤ 4 ∧ i = .int .i64 j ∧ wr = w.drewN q) (fun i _ => 4 - (intOf i).toNat)
      case atStart => exact ⟨0, _, Nat.zero_le _, rfl, rfl⟩
      case round =>
        obtain ⟨j, q, hj, rfl, rfl⟩ := hrel
        by_cases hlt : j < 4
        · have g1 := HF.out.s1 j hlt
          have g2 := HF.out.s2 j hlt
          have g3 := HF.out.h1 j hlt
          have g4 := HF.out.h2 j hlt
          have hI : (j : Int) < 4 := by omega
          generalize hd D b.L false j k = x1 at g1 g3
          generalize hd D b.L true j k = x2 at g2 g4
          go_wp2
          go_quiet (fail)
          go_wp2
          go_roundw
          case rel => exact ⟨j + 1, _, by omega, by go_num, rfl⟩
          case measure => simp [intOf]; omega
        · obtain rfl : j = 4 := by omega
          go_wp2
          go_ret
          exact ⟨rfl, ⟨hB.os, hB.tape, hB.output, hB.size, hB.block⟩⟩

end Go.Proofs.YbulkdxawDoor
