/-
  THE QUEUE of reach: in place in the buffer while there is room, else in a row of its own; one append law over both.
-/
import Derived.Test.YbulkdxaiWc
import Derived.ArgAppend
namespace Go.Proofs.Ybulkdxai
open Go.RowKit

/-- The queue holds L; the buffer at B holds what of it has room there, and behind it what it held. -/
def QI (w : World) (B base : Nat) (init : List Value) (qv : Value) (L : List Value) : Prop :=
  w.heap[B]? = some (.cells (L.take init.length ++ init.drop L.length).toArray 26 (0, 0)) ∧
  ((qv = .slice (some ⟨B, 0, none⟩) L.length init.length ∧ L.length ≤ init.length) ∨
   (init.length ≤ L.length ∧ ∃ g c, qv = .slice (some ⟨g, 0, none⟩) L.length c ∧ w.ownsRow base 26 1 qv L.length L))

theorem add0 (b j : Nat) : (⟨b, 0, none⟩ : Addr).add j = ⟨b, j, none⟩ := by unfold Addr.add; split <;> simp_all

theorem wpList_q {w : World} {ops : Array Oper} {rest : List Oper} {o : Oper} {a : Act} {Q : Exit → Act → World → Prop} (hgd : o.guard = none) (s x : Operand)
    (ho : o.op = .call { callee := .builtin .append, args := #[s, x], argTypes := #[23, 23] }) (B base : Nat) (init L : List Value) (qv : Value) (hs : a.eval s = qv) (hQ : QI w B base init qv L)
    (ad : Addr) (hx : a.eval x = .slice (some ad) 1 1) (y : Value) (hy : ∀ j u, [y][j]? = some u → w.cell? (ad.add j) = some u) (h1 : y.oneCell' = true) (hb : base ≤ w.heap.size) (hB : B < base) (hL : L.length < 2 ^ 40)
    (h : ∀ qv' w', QI w' B base init qv' (L ++ [y]) → Out (fun k => k = B ∨ qv.ownBlock = some k) w w' → (qv'.ownBlock = qv.ownBlock ∨ ∃ k, qv'.ownBlock = some k ∧ w.heap.size ≤ k) → wpList Yba.prog ops Q rest (a.put o.dst qv') w') :
    wpList Yba.prog ops Q (o :: rest) a w := by
  obtain ⟨i0, hi, hz0, hz1, hz2⟩ := info_parts info26
  obtain ⟨hBr, hq⟩ := hQ
  have h1' : ∀ u ∈ [y], u.oneCell' = true := by intro u hu; simp at hu; subst hu; exact h1
  rcases hq with ⟨rfl, hle⟩ | ⟨hge, g, c, rfl, hown⟩
  · have et : L.take init.length = L := List.take_of_length_le hle
    rw [et] at hBr
    rcases Nat.lt_or_ge L.length init.length with hlt | hge
    · refine wpList_plain hgd fun K hK => ?_
      have hr := run_append_room (P := Yba.prog) w 23 o.type 26 i0 Yba.underlying23 hi B L.length init.length (L ++ init.drop L.length).toArray hBr ad 1 1 [y] (by rw [hz1]; rfl) hy h1' (by omega) (by rw [hz1]; simp; omega)
      rw [hz1] at hr
      unfold Oper.wp execOp
      simp only [ho, resolve, invoke, builtin, Sem.run_bind, Sem.run_pure, Result.andThen_ok, List.map_toArray, List.map_cons, List.map_nil, hs, hx, hr]
      refine hK _ _ (h _ _ ⟨?_, .inl ⟨by simp, by simp; omega⟩⟩ ⟨rfl, rfl, rfl, by simp, fun k _ hk => setRow_other w B k _ (fun e => hk (.inl e))⟩ (.inl rfl))
      rw [setRow_heap w B _ _ 26 _ hBr]
      have e1 : (L ++ [y]).take init.length = L ++ [y] := List.take_of_length_le (by simp; omega)
      rw [e1]
      simp
    · have el : init.length = L.length := by omega
      have ed : init.drop L.length = [] := List.drop_eq_nil_of_le (by omega)
      rw [ed, List.append_nil] at hBr
      refine wpList_append_grows w hgd s x 23 ho 26 i0 (.int .u32 0) 1 4 Yba.underlying23 hi hz0 hz1 hz2 rfl (by decide) (some ⟨B, 0, none⟩) L.length init.length L hs (by intro h; cases h) (by simp) (fun b hb j u hj => ?_) ad 1 1 [y] hx rfl hy h1' (by omega) (by unfold maxLen; omega) (by omega) ?_
      · cases hb
        rw [add0, cell_of_row w _ _ _ _ _ hBr]
        simpa using hj
      · intro v' w' hown hg
        rcases hown.2 with ⟨rfl, h0⟩ | ⟨g, c, cur, rfl, hbg, rest'⟩
        · omega
        · have hown2 : w'.ownsRow base 26 1 (.slice (some ⟨g, 0, none⟩) (L.length + 1) c) (L ++ [y]).length (L ++ [y]) := by
            rw [show (L ++ [y]).length = L.length + 1 by simp]
            exact ⟨hown.1, .inr ⟨g, c, cur, rfl, Nat.le_trans hb hbg, rest'⟩⟩
          refine h _ _ ⟨?_, .inr ⟨by simp; omega, g, c, by simp, hown2⟩⟩ ⟨hg.os, hg.tape, hg.output, hg.size, fun k hk _ => hg.block k hk (by simp)⟩ (.inr ⟨g, rfl, hbg⟩)
          rw [hg.block B (row_lt hBr) (by simp), hBr, el]
          simp
          omega
  · refine wpList_append_own_at w hgd s x 23 ho base 26 i0 (.int .u32 0) 1 4 Yba.underlying23 hi hz0 hz1 hz2 rfl (by decide) _ _ _ hs hown ad 1 1 [y] hx rfl hy h1' (by unfold maxLen; omega) (by omega) hb ?_
    intro v' w' hown' hg _ hat
    have hgb := (hown.lt g rfl).1
    have ed : init.drop L.length = [] := List.drop_eq_nil_of_le (by omega)
    rw [ed, List.append_nil] at hBr
    have hO : Out (fun k => k = B ∨ (Value.slice (some ⟨g, 0, none⟩) L.length c).ownBlock = some k) w w' := ⟨hg.os, hg.tape, hg.output, hg.size, fun k hk hn => hg.block k hk (fun e => hn (.inr e.symm))⟩
    rcases hown'.2 with ⟨rfl, h0⟩ | ⟨g', c', cur, rfl, hbg, rest'⟩
    · omega
    · have hown2 : w'.ownsRow base 26 1 (.slice (some ⟨g', 0, none⟩) (L.length + 1) c') (L ++ [y]).length (L ++ [y]) := by
        rw [show (L ++ [y]).length = L.length + 1 by simp]
        exact hown'
      refine h _ _ ⟨?_, .inr ⟨by simp; omega, g', c', by simp, hown2⟩⟩ hO ?_
      · rw [hg.block B (row_lt hBr) (by simp [Value.ownBlock]; omega), hBr]
        have e2 : init.drop (L ++ [y]).length = [] := List.drop_eq_nil_of_le (by simp; omega)
        rw [e2, List.take_append_of_le_length hge]
        simp
      · rcases hat with e | e
        · exact .inl e
        · exact .inr ⟨_, e, Nat.le_refl _⟩

end Go.Proofs.Ybulkdxai
