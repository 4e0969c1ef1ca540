/-
  LawS6181BWhole (4), ITS LAST PART: the count, the comparison.
-/
import Derived.Test.YbulkdwzgHf
import Derived.Laws.StructEq
namespace Go.Proofs.Ybulkdwzg.lawB
open Go.RowKit

theorem nil_eq (w : World) : Sem.run Yba.prog (binOp BinOp.eql 53 (.slice none 0 0) (.slice none 0 0)) w = .ok (.bool true) w := by kernel_rfl
theorem prs_at (L : List Pr) : ∀ (k : Nat) (p : Pr), L[k]? = some p → (prs L)[k * 2]? = some (.int .i64 p.1) ∧ (prs L)[k * 2 + 1]? = some (.int .i64 p.2) := by
  induction L with
  | nil => intro k p h; simp at h
  | cons q L ih =>
    intro k p h
    have e : prs (q :: L) = .int .i64 q.1 :: .int .i64 q.2 :: prs L := rfl
    rw [e]
    cases k with
    | zero =>
      simp only [List.getElem?_cons_zero, Option.some.injEq] at h
      subst h
      exact ⟨rfl, rfl⟩
    | succ k =>
      rw [List.getElem?_cons_succ] at h
      obtain ⟨h1, h2⟩ := ih k p h
      rw [show (k + 1) * 2 = k * 2 + 1 + 1 by omega, show k * 2 + 1 + 1 + 1 = (k * 2 + 1) + 1 + 1 by omega]
      exact ⟨by simpa using h1, by simpa using h2⟩

set_option maxRecDepth 1000000 in
set_option maxHeartbeats 4000000 in
theorem law_a (N : Nat) (w0 w : World) (hB : Below N w0 w) (OB VB n oc pc base : Nat) (P : Nat → Option Nat) (T : Nat → Pr) (e0 : Option Nat) (va : Option Addr) (vc : Nat) (hn : n ≤ 4096) (hP : ∀ x y, P x = some y → y < x) (he : ∀ x, e0 = some x → x < n)
    (ho : R2 w OB 57 (fun k => .int .i64 (T k).1) (fun k => .int .i64 (T k).2) n) (hp : RW w VB 3 (fun j => .int .i64 (en (P j))) n)
    (hown : w.ownsRow base 57 2 (.slice va (chain P n e0).length vc) (chain P n e0).length (prs ((chain P n e0).reverse.map T))) (hva : (chain P n e0).length = 0 → va = none ∧ vc = 0)
    {c0 c1 c2 c3 c5 c6 c7 c8 c9 c11 c13 c14 c15 c16 c19 c20 c21 c22 c23 c24 c25 c26 c27 c28 c29 c30 c31 c32 c33 c34 c35 c36 c37 c38 c39 c40 c41 c42 c43 c44 c45 c46 c47 c48 c49 c50 c51 c52 c53 c54 c55 c56 c57 c58 c59 c60 c61 c62 c63 c64 c65 c66 c67 c68 c69 c70 c71 c72 c73 c74 c75 c76 c77 c78 c79 c80 c81 c82 c83 c84 c85 c86 c87 c88 c89 c90 c91 c92 c93 c94 c95 c96 c97 c98 c99 c100 c101 c102 c103 c104 c105 c106 c107 c108 c109 c110 c111 c112 c113 c114 c115 c116 c117 c118 c119 c120 c121 c122 c123 c124 c125 c126 c127 c128 c129 c130 c131 c132 c133 c134 c135 c136 c137 c138 c139 c140 c141 c142 c143 c144 c145 c146 c147 c148 c149 c150 c151 c152 c153 c154 c155 c156 c157 c158 c159 c160 c161 c162 c163 c164 c165 c166 c167 c168 c169 c170 c171 c172 c173 c174 c175 c176 c177 c178 c179 c180 c181 c182 c183 c184 c185 c186 c187 c188 c189 c190 c191 c192 c193 c194 c195 c196 c197 c198 c199 c200 c201 c202 c203 c204 c205 c206 c207 c208 c209 c210 c211 c212 c213 c214 c215 c216 c217 c218 c219 c220 c221 c222 c223 c224 c225 c226 : Value} :
    Code.wp Yba.prog (tl 18 (Yba.f4.body.getD .skip)) (bodyPost Yba.prog Yba.f4 fun x w' => x = .returned (.bool true) ∧ Below N w0 w') ⟨#[c0, c1, c2, c3, .bool false, c5, c6, c7, c8, c9, .slice va (chain P n e0).length vc, c11, .slice (some ⟨OB, 0, none⟩) n oc, c13, c14, c15, c16, .slice (some ⟨VB, 0, none⟩) n pc, .int .i64 (en e0), c19, c20, c21, c22, c23, c24, c25, c26, c27, c28, c29, c30, c31, c32, c33, c34, c35, c36, c37, c38, c39, c40, c41, c42, c43, c44, c45, c46, c47, c48, c49, c50, c51, c52, c53, c54, c55, c56, c57, c58, c59, c60, c61, c62, c63, c64, c65, c66, c67, c68, c69, c70, c71, c72, c73, c74, c75, c76, c77, c78, c79, c80, c81, c82, c83, c84, c85, c86, c87, c88, c89, c90, c91, c92, c93, c94, c95, c96, c97, c98, c99, c100, c101, c102, c103, c104, c105, c106, c107, c108, c109, c110, c111, c112, c113, c114, c115, c116, c117, c118, c119, c120, c121, c122, c123, c124, c125, c126, c127, c128, c129, c130, c131, c132, c133, c134, c135, c136, c137, c138, c139, c140, c141, c142, c143, c144, c145, c146, c147, c148, c149, c150, c151, c152, c153, c154, c155, c156, c157, c158, c159, c160, c161, c162, c163, c164, c165, c166, c167, c168, c169, c170, c171, c172, c173, c174, c175, c176, c177, c178, c179, c180, c181, c182, c183, c184, c185, c186, c187, c188, c189, c190, c191, c192, c193, c194, c195, c196, c197, c198, c199, c200, c201, c202, c203, c204, c205, c206, c207, c208, c209, c210, c211, c212, c213, c214, c215, c216, c217, c218, c219, c220, c221, c222, c223, c224, c225, c226], []⟩ w := by
  conv => arg 2; whnf
  have HP : Hid (RW w VB 3 (fun j => .int .i64 (en (P j))) n) := hp
  have HO : Hid (R2 w OB 57 (fun k => .int .i64 (T k).1) (fun k => .int .i64 (T k).2) n) := ho
  have HW : Hid (w.ownsRow base 57 2 (.slice va (chain P n e0).length vc) (chain P n e0).length (prs ((chain P n e0).reverse.map T))) := hown
  have Hp1 : Hid (∀ x y, P x = some y → y < x) := hP
  have He : Hid (∀ x, e0 = some x → x < n) := he
  have HB : Hid (Below N w0 w) := hB
  have hlen := chain_len P n e0
  obtain ⟨C, hC⟩ : ∃ C, chain P n e0 = C := ⟨_, rfl⟩
  rw [hC] at HW hva hlen ⊢
  have HC : Hid (chain P n e0 = C) := hC
  clear hp ho hown hP he hC hB
  go_wp2
  go_loopw [23, 24] (fun cv xv wr => ∃ (k f : Nat) (e : Option Nat), cv = .int .i64 k ∧ xv = .int .i64 (en e) ∧ (∀ x, e = some x → x < f) ∧ f + k = n ∧ Hid (k + (chain P f e).length = C.length) ∧ wr = w) (fun _ xv _ => (intOf xv + 1).toNat)
  case atStart => exact ⟨0, n, e0, rfl, rfl, He.out, by omega, (show _ = _ by rw [HC.out]; omega), rfl⟩
  case round =>
    obtain ⟨k, f, e, rfl, rfl, hf, hfk, HK, rfl⟩ := hrel
    cases e with
    | some x =>
      have hxf := hf x rfl
      have hxI : (x : Int) < (n : Int) := by omega
      obtain ⟨f', rfl⟩ : ∃ f', f = f' + 1 := ⟨f - 1, by omega⟩
      have cp := HP.out.cell (j := x) (by omega)
      rw [show en (some x) = (x : Int) from rfl]
      clear hf hva
      go_wp2
      go_roundw
      case rel =>
        refine ⟨k + 1, f', P x, by go_num, rfl, fun y hy => by have := Hp1.out x y hy; omega, by omega, ?_, by first | rfl | trivial⟩
        show _ = _
        rw [← HK.out]
        simp [chain]; omega
      case measure =>
        simp only [intOf]
        cases hpx : P x with
        | none => simp [en]
        | some y =>
          have := Hp1.out x y hpx
          simp [en]; omega
    | none =>
      have hkC : k = C.length := by have := HK.out; rw [chain_none] at this; simpa using this
      subst hkC
      rw [show en none = -1 from rfl]
      clear hf HK
      by_cases h0 : C.length = 0
      · obtain ⟨rfl, rfl⟩ := hva h0
        have hI : ((C.length : Int) == 0) = true := by simp [h0]
        clear hva
        have hnil := nil_eq
        go_wp2
        go_ret
        exact ⟨rfl, HB.out⟩
      · have hI : ((C.length : Int) == 0) = false := by rw [beq_eq_false_iff_ne]; omega
        clear hva
        obtain ⟨g, c, e1, hg, hc⟩ := own_cell HW.out (by omega)
        cases e1
        have HCg : Hid (∀ j x, (prs (C.reverse.map T))[j]? = some x → wr.cell? ⟨g, j, none⟩ = some x) := hc
        clear hc
        go_wp2
        go_loopw [25, 26] (fun kv xv wq => ∃ (f q : Nat) (e : Option Nat) (pre : List Nat), kv = .int .i64 (((chain P f e).length : Int) - 1) ∧ xv = .int .i64 (en e) ∧ (∀ x, e = some x → x < f) ∧ f ≤ n ∧ Hid (pre ++ chain P f e = C) ∧ wq = wr.drewN q) (fun _ xv _ => (intOf xv + 1).toNat)
        case atStart => exact ⟨n, 0, e0, [], by rw [HC.out], rfl, He.out, Nat.le_refl _, (show _ = _ by rw [HC.out]; rfl), rfl⟩
        case round =>
          obtain ⟨f, q, e, pre, rfl, rfl, hf, hfn, HK, rfl⟩ := hrel
          cases e with
          | none =>
            rw [show en none = -1 from rfl]
            go_wp2
            go_ret
            exact ⟨rfl, ⟨HB.out.os, HB.out.tape, HB.out.output, HB.out.size, HB.out.block⟩⟩
          | some x =>
            have hxf := hf x rfl
            have hxI : (x : Int) < (n : Int) := by omega
            obtain ⟨f', rfl⟩ : ∃ f', f = f' + 1 := ⟨f - 1, by omega⟩
            have hch : chain P (f' + 1) (some x) = x :: chain P f' (P x) := rfl
            have hkl : ((chain P (f' + 1) (some x)).length : Int) - 1 = ((chain P f' (P x)).length : Int) := by rw [hch]; simp
            obtain ⟨l, hl⟩ : ∃ l, (chain P f' (P x)).length = l := ⟨_, rfl⟩
            rw [hkl, hl, show en (some x) = (x : Int) from rfl]
            have hCl : pre.length + (l + 1) = C.length := by rw [← HK.out, hch, ← hl]; simp
            have hCx : (C.reverse.map T)[l]? = some (T x) := by
              rw [List.getElem?_map, List.getElem?_reverse (by omega), show C.length - 1 - l = pre.length by omega, ← HK.out, hch]
              simp
            have hlI : (l : Int) < (C.length : Int) := by omega
            obtain ⟨p1, p2⟩ := prs_at _ l _ hCx
            have g1 := HCg.out _ _ p1
            have g2 := HCg.out _ _ p2
            have t1 := HO.out.c0 (show x < n by omega)
            have t2 := HO.out.c1 (show x < n by omega)
            have cp := HP.out.cell (j := x) (by omega)
            have HL : Hid ((chain P f' (P x)).length = l) := hl
            have HCH : Hid (chain P (f' + 1) (some x) = x :: chain P f' (P x)) := hch
            clear hf hch hkl hl hCl hCx p1 p2
            go_wp2
            go_quiet (fail)
            go_wp2
            go_roundw
            case rel =>
              refine ⟨f', _, P x, pre ++ [x], by rw [HL.out], rfl, fun y hy => by have := Hp1.out x y hy; omega, by omega, ?_, rfl⟩
              show _ = _
              rw [← HK.out, HCH.out]
              simp
            case measure =>
              simp only [intOf]
              cases hpx : P x with
              | none => simp [en]
              | some y =>
                have := Hp1.out x y hpx
                simp [en]; omega

end Go.Proofs.Ybulkdwzg.lawB
