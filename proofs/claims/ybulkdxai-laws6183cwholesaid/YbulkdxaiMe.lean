/-
  THE MODEL's STATE of the law (3): the bools, the order, the log; its steps.
-/
import Derived.Test.YbulkdxaiLc
namespace Go.Proofs.Ybulkdxai
open Go.RowKit

structure Md (w : World) (n : Nat) (R : Rn) (Ls : List Nat) (ov mv : Value) (L Gl : List Nat) (wr : World) : Prop where
  s : RW wr w.heap.size 4 (fun i => .bool (R.sn Ls i)) n
  o : wr.ownsRow (w.heap.size + 1) 26 1 ov L.length (u32s L)
  g : wr.ownsRow (w.heap.size + 1) 3 1 mv Gl.length (i64s Gl)
  d : ∀ k, ov.ownBlock = some k → mv.ownBlock ≠ some k
  b : Below w.heap.size w wr
  z : w.heap.size + 1 ≤ wr.heap.size

theorem own_kept {w w' : World} {base e s n : Nat} {v : Value} {xs : List Value} {D : Nat → Prop} (h : w.ownsRow base e s v n xs) (ho : Out D w w') (hv : ∀ k, v.ownBlock = some k → ¬ D k) : w'.ownsRow base e s v n xs := by
  refine ⟨h.1, ?_⟩
  rcases h.2 with h4 | ⟨g, c, cur, rfl, hb, hg, r⟩
  · exact .inl h4
  · exact .inr ⟨g, c, cur, rfl, hb, (ho.block g (row_lt hg) (hv g rfl)).trans hg, r⟩
theorem own_at {w : World} {base e n : Nat} {v : Value} {xs : List Value} (h : w.ownsRow base e 1 v n xs) {j : Nat} {x : Value} (hj : xs[j]? = some x) : ∃ g c, v = .slice (some ⟨g, 0, none⟩) n c ∧ w.cell? ⟨g, j, none⟩ = some x := by
  have hj2 : j < xs.length := by
    rcases Nat.lt_or_ge j xs.length with h | h
    · exact h
    · rw [List.getElem?_eq_none h] at hj; cases hj
  have hl := h.1
  rcases h.2 with ⟨_, h0⟩ | ⟨g, c, cur, rfl, _, hg, _, _, _, ht⟩
  · omega
  · refine ⟨g, c, rfl, ?_⟩
    rw [cell_of_row w _ _ _ _ _ hg]
    rw [← ht, List.getElem?_take, if_pos (by omega)] at hj
    simpa using hj
theorem own_nr {w : World} {base e n : Nat} {k : IntKind} {v : Value} {xs : List Value} {Z : Nat → Int} (h : w.ownsRow base e 1 v n xs) (hx : ∀ j, j < n → xs[j]? = some (.int k (Z j))) : ∃ a c, v = .slice a n c ∧ NR k w a n Z := by
  obtain ⟨a, c, rfl⟩ := own_slice h
  refine ⟨a, c, rfl, fun h0 => ?_⟩
  obtain ⟨g, c', e, _⟩ := own_at h (hx 0 h0)
  cases e
  refine ⟨g, 0, rfl, fun j hj => ?_⟩
  obtain ⟨g', c', e, hc⟩ := own_at h (hx j hj)
  cases e
  simpa using hc

theorem i64_at (L : List Nat) (k : Nat) (h : k < L.length) : (i64s L)[k]? = some (.int .i64 ((L.getD k 0 : Nat) : Int)) := by
  simp [i64s, List.getElem?_eq_getElem h, List.getD]
theorem len_u32s (L : List Nat) : (u32s L).length = L.length := by simp [u32s]
theorem len_i64s (L : List Nat) : (i64s L).length = L.length := by simp [i64s]

section
variable {w : World} {n : Nat} {R : Rn} {Ls : List Nat} {ov mv : Value} {L Gl : List Nat} {wr : World}
theorem Md.drewN (h : Md w n R Ls ov mv L Gl wr) (q : Nat) : Md w n R Ls ov mv L Gl (wr.drewN q) :=
  ⟨h.s, h.o, h.g, h.d, ⟨h.b.os, h.b.tape, h.b.output, h.b.size, h.b.block⟩, h.z⟩
theorem Rn.sn_snoc (R : Rn) (L : List Nat) (x i : Nat) : R.sn (L ++ [x]) i = (R.sn L i || decide (i = x)) := by
  unfold Rn.sn
  by_cases e : i = x <;> simp [e]
theorem Md.set (h : Md w n R Ls ov mv L Gl wr) {i : Nat} (hi : i < n) : Md w n R (Ls ++ [i]) ov mv L Gl (wr.setCell ⟨w.heap.size, i, none⟩ (.bool true)) := by
  refine ⟨h.s.set hi _ _ fun j _ => ?_, ownsRow_setCell_below h.o (Nat.lt_succ_self _) _, ownsRow_setCell_below h.g (Nat.lt_succ_self _) _, h.d, h.b.setCell (Nat.le_refl _) _, by simpa [World.setCell] using h.z⟩
  rw [R.sn_snoc]
  split
  · rename_i e; simp [e]
  · rename_i e; simp [e]

theorem wpList_mo {ops : Array Oper} {rest : List Oper} {o : Oper} {a : Act} {Q : Exit → Act → World → Prop} (hgd : o.guard = none) (s x : Operand)
    (ho : o.op = .call { callee := .builtin .append, args := #[s, x], argTypes := #[23, 23] }) (h : Md w n R Ls ov mv L Gl wr) (y : Nat) (hs : a.eval s = ov) (hx : a.eval x = .slice (some ⟨wr.heap.size, 0, none⟩) 1 1) (hL : L.length < 2 ^ 40)
    (hK : ∀ ov' w', Md w n R Ls ov' mv (L ++ [y]) Gl w' → wpList Yba.prog ops Q rest (a.put o.dst ov') w') :
    wpList Yba.prog ops Q (o :: rest) a (wr.alloc (.cells #[.int .u32 (y : Int)] 26)) := by
  obtain ⟨i0, hi, hz0, hz1, hz2⟩ := info_parts info26
  refine wpList_append_own_at _ hgd s x 23 ho (w.heap.size + 1) 26 i0 (.int .u32 0) 1 4 Yba.underlying23 hi hz0 hz1 hz2 rfl (by decide) _ _ _ hs (h.o.alloc _) ⟨wr.heap.size, 0, none⟩ 1 1 [.int .u32 (y : Int)] hx rfl (cell_one_new _ _ _) (by intro u hu; simp at hu; subst hu; rfl) (by unfold maxLen; omega) (by omega) (Nat.le_trans h.z (by simp)) ?_
  intro v' w' hown hg _ hat
  have hO := out_append hg
  have hlt := h.o.lt
  refine hK v' w' ⟨(hO.block _ h.s.lt (fun e => by have := (hlt _ e).1; omega)).trans h.s, by simpa [u32s] using hown, own_kept h.g hO (fun k hk e => h.d k e hk), ?_, ⟨h.b.os ▸ hO.os, h.b.tape ▸ hO.tape, h.b.output ▸ hO.output, Nat.le_trans h.b.size hO.size, fun k hk => (hO.block k (Nat.lt_of_lt_of_le hk h.b.size) (fun e => by have := (hlt _ e).1; omega)).trans (h.b.block k hk)⟩, Nat.le_trans h.z hO.size⟩
  intro k hk hv
  rcases hat with e | e
  · exact h.d k (by rw [← e]; exact hk) hv
  · have : k = (wr.alloc (.cells #[.int .u32 (y : Int)] 26)).heap.size := by rw [e] at hk; exact (Option.some.inj hk).symm
    have h2 := (h.g.lt k hv).2
    simp at this
    omega
theorem wpList_mo' {ops : Array Oper} {rest : List Oper} {o : Oper} {a : Act} {Q : Exit → Act → World → Prop} (hgd : o.guard = none) (s x : Operand)
    (ho : o.op = .call { callee := .builtin .append, args := #[s, x], argTypes := #[23, 23] }) (h : Md w n R Ls ov mv L Gl wr) (y z : Nat) (hz : wr.heap.size = z) (hs : a.eval s = ov) (hx : a.eval x = .slice (some ⟨z, 0, none⟩) 1 1) (hL : L.length < 2 ^ 40)
    (hK : ∀ ov' w', Md w n R Ls ov' mv (L ++ [y]) Gl w' → wpList Yba.prog ops Q rest (a.put o.dst ov') w') :
    wpList Yba.prog ops Q (o :: rest) a (wr.alloc (.cells #[.int .u32 (y : Int)] 26)) := wpList_mo hgd s x ho h y hs (by rw [hz]; exact hx) hL hK
theorem wpList_ml {ops : Array Oper} {rest : List Oper} {o : Oper} {a : Act} {Q : Exit → Act → World → Prop} (hgd : o.guard = none) (s x : Operand)
    (ho : o.op = .call { callee := .builtin .append, args := #[s, x], argTypes := #[54, 54] }) (h : Md w n R Ls ov mv L Gl wr) (y z : Nat) (hs : a.eval s = mv) (hx : a.eval x = .slice (some ⟨wr.heap.size, 0, none⟩) 2 2) (hL : Gl.length < 2 ^ 39)
    (hK : ∀ mv' w', Md w n R Ls ov mv' L (Gl ++ [y, z]) w' → wpList Yba.prog ops Q rest (a.put o.dst mv') w') :
    wpList Yba.prog ops Q (o :: rest) a (wr.alloc (.cells #[.int .i64 (y : Int), .int .i64 (z : Int)] 3)) := by
  obtain ⟨i0, hi, hz0, hz1, hz2⟩ := info_parts info3
  refine wpList_append_own_at _ hgd s x 54 ho (w.heap.size + 1) 3 i0 (.int .i64 0) 1 8 Yba.underlying54 hi hz0 hz1 hz2 rfl (by decide) _ _ _ hs (h.g.alloc _) ⟨wr.heap.size, 0, none⟩ 2 2 [.int .i64 (y : Int), .int .i64 (z : Int)] hx rfl (cell_two_new _ _ _ _) (by intro u hu; simp at hu; rcases hu with rfl | rfl <;> rfl) (by unfold maxLen; omega) (by omega) (Nat.le_trans h.z (by simp)) ?_
  intro v' w' hown hg _ hat
  have hO := out_append hg
  have hlt := h.g.lt
  refine hK v' w' ⟨(hO.block _ h.s.lt (fun e => by have := (hlt _ e).1; omega)).trans h.s, own_kept h.o hO (fun k hk e => h.d k hk e), by simpa [i64s] using hown, ?_, ⟨h.b.os ▸ hO.os, h.b.tape ▸ hO.tape, h.b.output ▸ hO.output, Nat.le_trans h.b.size hO.size, fun k hk => (hO.block k (Nat.lt_of_lt_of_le hk h.b.size) (fun e => by have := (hlt _ e).1; omega)).trans (h.b.block k hk)⟩, Nat.le_trans h.z hO.size⟩
  intro k hk hv
  rcases hat with e | e
  · exact h.d k hk (by rw [← e]; exact hv)
  · have : k = (wr.alloc (.cells #[.int .i64 (y : Int), .int .i64 (z : Int)] 3)).heap.size := by rw [e] at hv; exact (Option.some.inj hv).symm
    have h2 := (h.o.lt k hk).2
    simp at this
    omega
end

theorem En.below {b : Bk} {R : Rn} {AB : Nat → Bool} {w w' : World} (h : En b R AB w) (hb : Below w.heap.size w w') : En b R AB w' := by
  obtain ⟨⟨c1, h1⟩, ⟨c2, h2⟩, h3, h4, h5, h6, h7, h8⟩ := h
  refine ⟨⟨c1, cell_below hb h1⟩, ⟨c2, cell_below hb h2⟩, fun v hv => cell_below hb (h3 v hv), fun e he => cell_below hb (h4 e he), fun j hj => cell_below hb (h5 j hj), cell_below hb h6, cell_below hb h7, fun h0 => ?_⟩
  obtain ⟨bb, off, e, hc⟩ := h8 h0
  exact ⟨bb, off, e, fun j hj => cell_below hb (hc j hj)⟩

end Go.Proofs.Ybulkdxai
