/-
  LawS6181BWhole: rising (22), ITS LAST PART: the way back, and its turning.
-/
import Derived.Test.YbulkdwzgRa
namespace Go.Proofs.Ybulkdwzg.lawB
open Go.RowKit

/-- The way back from e. -/
def chain (P : Nat → Option Nat) : Nat → Option Nat → List Nat
  | 0, _ => []
  | _ + 1, none => []
  | f + 1, some x => x :: chain P f (P x)
theorem chain_none (P : Nat → Option Nat) (f : Nat) : chain P f none = [] := by cases f <;> rfl
theorem chain_len (P : Nat → Option Nat) : ∀ f e, (chain P f e).length ≤ f
  | 0, _ => by simp [chain]
  | f + 1, none => by simp [chain]
  | f + 1, some x => by
    have := chain_len P f (P x)
    simp [chain]; omega
theorem below_append {B : Nat} {w wr w1 : World} {o : Obj} {r : Option Nat} (hb : Below B w wr) (hg : (wr.alloc o).grownBy w1 r) (hr : ∀ k, r = some k → B ≤ k) (hB : B ≤ wr.heap.size) : Below B w w1 :=
  have ho := out_append hg
  ⟨ho.os.trans hb.os, ho.tape.trans hb.tape, ho.output.trans hb.output, Nat.le_trans hb.size ho.size, fun k hk => (ho.block k (Nat.lt_of_lt_of_le hk hB) (fun h => by have := hr k h; omega)).trans (hb.block k hk)⟩

def ints (L : List Nat) : List Value := L.map fun (x : Nat) => Value.int .i64 (x : Int)

set_option maxRecDepth 1000000 in
set_option maxHeartbeats 4000000 in
theorem rise_t (w0 : World) (N0 : Nat) (w : World) (hB0 : Below N0 w0 w) (hN0 : N0 ≤ w.heap.size) (PB TB n pc : Nat) (P : Nat → Option Nat) (sc : Value) (e0 : Option Nat) (hn : n ≤ 4096) (hP : ∀ x y, P x = some y → y < x) (he : ∀ x, e0 = some x → x < n)
    (hp : RW w PB 3 (fun j => .int .i64 (en (P j))) n) (ht : RW w TB 85 (fun j => if j % 2 = 0 then sc else .int .i64 (en e0)) 2)
    {c0 c1 c2 c3 c4 c5 c6 c7 c8 c9 c10 c13 c14 c15 c16 c17 c18 c19 c20 c21 c22 c23 c24 c25 c26 c27 c28 c29 c30 c31 c32 c33 c34 c35 c36 c37 c38 c39 c40 c41 c42 c43 c44 c45 c46 c47 c48 c49 c50 c51 c52 c53 c54 c55 c56 c57 c58 c59 c60 c61 c62 c63 c64 c65 c66 c67 c68 c69 c70 c71 c72 c73 c74 c75 c76 c77 c78 c79 c80 c81 c82 c83 c84 c85 c86 c87 c88 c89 c90 c91 c92 c93 c94 c95 c96 c97 c98 c99 c100 c101 c102 c103 c104 c105 c106 c107 c108 c109 c110 c111 c112 c113 c114 c115 c116 c117 c118 c119 c120 c121 c122 c123 c124 c125 c126 c127 c128 c129 c130 c131 c132 c133 c134 c135 c136 c137 c138 c139 c140 c141 c142 c143 c144 c145 c146 c147 c148 c149 c150 c151 c152 c153 c154 c155 c156 c157 c158 c159 c160 c161 : Value} :
    Code.wp Yba.prog (tl 9 (Yba.f22.body.getD .skip)) (bodyPost Yba.prog Yba.f22 fun x w' => ∃ QB, x = .returned (.slice (some ⟨QB, 0, none⟩) (chain P n e0).length (chain P n e0).length) ∧ RW w' QB 3 (fun j => .int .i64 ((chain P n e0).getD ((chain P n e0).length - 1 - j) 0 : Nat)) (chain P n e0).length ∧ Below N0 w0 w') ⟨#[c0, c1, c2, c3, c4, c5, c6, c7, c8, c9, c10, .slice (some ⟨PB, 0, none⟩) n pc, .pointer (some ⟨TB, 0, none⟩), c13, c14, c15, c16, c17, c18, c19, c20, c21, c22, c23, c24, c25, c26, c27, c28, c29, c30, c31, c32, c33, c34, c35, c36, c37, c38, c39, c40, c41, c42, c43, c44, c45, c46, c47, c48, c49, c50, c51, c52, c53, c54, c55, c56, c57, c58, c59, c60, c61, c62, c63, c64, c65, c66, c67, c68, c69, c70, c71, c72, c73, c74, c75, c76, c77, c78, c79, c80, c81, c82, c83, c84, c85, c86, c87, c88, c89, c90, c91, c92, c93, c94, c95, c96, c97, c98, c99, c100, c101, c102, c103, c104, c105, c106, c107, c108, c109, c110, c111, c112, c113, c114, c115, c116, c117, c118, c119, c120, c121, c122, c123, c124, c125, c126, c127, c128, c129, c130, c131, c132, c133, c134, c135, c136, c137, c138, c139, c140, c141, c142, c143, c144, c145, c146, c147, c148, c149, c150, c151, c152, c153, c154, c155, c156, c157, c158, c159, c160, c161], []⟩ w := by
  obtain ⟨i0, hi, hz0, hz1, hz2⟩ := info_parts info3
  conv => arg 2; whnf
  have ct : w.cell? ⟨TB, 1, none⟩ = some (.int .i64 (en e0)) := ht.cell (j := 1) (by omega)
  have HP : Hid (RW w PB 3 (fun j => .int .i64 (en (P j))) n) := hp
  have Hp1 : Hid (∀ x y, P x = some y → y < x) := hP
  have He : Hid (∀ x, e0 = some x → x < n) := he
  clear hp hP he ht
  go_wp2
  go_loopw [18, 19] (fun bv i wr => ∃ (L : List Nat) (e : Option Nat) (f : Nat) (va : Option Addr) (vc : Nat), bv = .slice va L.length vc ∧ i = .int .i64 (en e) ∧ (∀ x, e = some x → x < f) ∧ f + L.length = n ∧ Hid (L ++ chain P f e = chain P n e0) ∧ wr.ownsRow w.heap.size 3 1 (.slice va L.length vc) L.length (ints L) ∧ Hid (Below w.heap.size w wr)) (fun _ i _ => (intOf i + 1).toNat)
  case atStart => exact ⟨[], e0, n, none, 0, rfl, rfl, He.out, by simp, rfl, ⟨by simp [ints], .inl ⟨rfl, rfl⟩⟩, Below.refl _ _⟩
  case round =>
    obtain ⟨L, e, f, va, vc, rfl, rfl, hf, hl, HC, hown, HB⟩ := hrel
    cases e with
    | none =>
      have hLC : L = chain P n e0 := by rw [← HC.out, chain_none]; simp
      have HLC : Hid (L = chain P n e0) := hLC
      have hLn : L.length ≤ 4096 := by omega
      clear hLC HC ct
      have hmk := mk26 L.length (by omega)
      rw [show en none = -1 from rfl]
      have HO : Hid (wr.ownsRow w.heap.size 3 1 (.slice va L.length vc) L.length (ints L)) := hown
      have hwz := HB.out.size
      clear hown
      go_wp2
      rename World => wb
      go_loopw [147] (fun i wr => ∃ (k : Nat), k ≤ L.length ∧ i = .int .i64 k ∧ Hid (RW wr wb.heap.size 3 (fun j => .int .i64 (if L.length - k ≤ j then L.getD (L.length - 1 - j) 0 else 0 : Nat)) L.length) ∧ Hid (Below wb.heap.size wb wr)) (fun i _ => L.length - (intOf i).toNat)
      case atStart => exact ⟨0, Nat.zero_le _, rfl, (rw_new wb _ _ _).congr (fun j hj => by rw [if_neg (by omega)]; rfl), (Below.refl _ wb).alloc (Nat.le_refl _) _⟩
      case round =>
        obtain ⟨k, hk, rfl, HR, HBl⟩ := hrel
        by_cases hlt : k < L.length
        · have hltI : (k : Int) < (L.length : Int) := by omega
          obtain ⟨g, c, e1, hg, hc⟩ := own_cell HO.out (by omega)
          cases e1
          have g1 := cell_below HBl.out (hc k (.int .i64 (L.getD k 0 : Nat)) (by simp [ints, List.getD, hlt]))
          have hwp := HR.out.cell (j := L.length - 1 - k) (by omega)
          have hwf := HR.out.frozen (L.length - 1 - k)
          have ei : (L.length : Int) - 1 - (k : Int) = ((L.length - 1 - k : Nat) : Int) := by omega
          clear hc
          go_wp2
          go_roundw
          case rel =>
            refine ⟨k + 1, by omega, by go_num, ?_, ?_⟩
            · refine HR.out.set (j := L.length - 1 - k) (by omega) _ _ (fun j hj => ?_)
              by_cases e : j = L.length - 1 - k
              · subst e
                rw [if_pos rfl, if_pos (by omega), show L.length - 1 - (L.length - 1 - k) = k by omega]
                simp [List.getD, hlt]
              · rw [if_neg e]
                by_cases e2 : L.length - k ≤ j
                · rw [if_pos e2, if_pos (by omega)]
                · rw [if_neg e2, if_neg (by omega)]
            · exact HBl.out.setCell (p := ⟨wb.heap.size, L.length - 1 - k, none⟩) (Nat.le_refl _) _
          case measure => simp [intOf]; omega
        · obtain rfl : k = L.length := by omega
          go_wp2
          go_ret
          have e := HLC.out
          rw [← e]
          exact ⟨_, rfl, HR.out.congr (fun j hj => by rw [if_pos (by omega)]), hB0.trans ((HB.out.trans (HBl.out.mono hwz)).mono hN0)⟩
    | some x =>
      have hxf := hf x rfl
      have hxn : x < n := by omega
      have hxI : (x : Int) < (n : Int) := by omega
      obtain ⟨f', rfl⟩ : ∃ f', f = f' + 1 := ⟨f - 1, by omega⟩
      have cp := cell_below HB.out (HP.out.cell hxn)
      have hob := hown.lt
      have hwz := HB.out.size
      have hLn : L.length ≤ 4096 := by omega
      rw [show en (some x) = (x : Int) from rfl]
      clear hf
      go_wp2_with (first | (at_builtin; refine wpList_append_own_at _ rfl (.tmp 138) (.tmp 140) 26 rfl w.heap.size 3 i0 (.int .i64 0) 1 8 Yba.underlying26 hi hz0 hz1 hz2 rfl (by decide) _ _ _ rfl (hown.alloc _) ⟨wr.heap.size, 0, none⟩ 1 1 [.int .i64 x] rfl rfl (cell_one_new _ _ _) (by intro u hu; simp at hu; subst hu; rfl) (by unfold maxLen; omega) (by omega) (Nat.le_trans hwz (by simp)) ?_; intro v' w1 hown' hgrow hnil hat; obtain ⟨va', vc', rfl⟩ := own_slice hown'; have hB1 := below_append HB.out hgrow (fun k h => (hob k h).1) hwz; have HB1 : Hid (Below w.heap.size w w1) := hB1; have cp1 := cell_below hB1 (HP.out.cell hxn); clear hB1 hnil hat hgrow cp))
      go_roundw
      case rel =>
        refine ⟨L ++ [x], P x, f', va', vc', by simp, rfl, fun y hy => by have := Hp1.out x y hy; omega, by simp; omega, ?_, by simpa [ints] using hown', HB1⟩
        show _ = _
        rw [← HC.out]
        simp [chain]
      case measure =>
        simp only [intOf]
        cases hpx : P x with
        | none => simp [en]
        | some y =>
          have := Hp1.out x y hpx
          simp [en]; omega

end Go.Proofs.Ybulkdwzg.lawB
