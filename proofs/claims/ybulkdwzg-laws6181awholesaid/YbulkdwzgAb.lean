/-
  BYTES THAT A CALL OWNS, the row bearing whatever mark behind its last cell ('[]byte(s)' leaves one): 'append(b, c)' onto such a row; '[]byte(s)'; 'string(b)'.
-/
import Derived.Test.YbulkdwzgRows
import Derived.WalkKit
import Derived.WalkSpells
import Derived.WalkLawsBesides
import Derived.Laws.IdiomStrings
namespace Go.Proofs.Ybulkdwzg
open Go.RowKit

/-- Block g is a row of cap bytes, none of them frozen, whose first n are xs. -/
def OB (w : World) (g cap n : Nat) (xs : List Value) : Prop :=
  xs.length = n ∧ ∃ cur fz, w.heap[g]? = some (.cells cur 5 fz) ∧ (cur.size ≤ fz.1 ∨ fz.2 = 0) ∧ n ≤ cap ∧ cap ≤ maxLen ∧ cur.size = cap ∧ cur.toList.take n = xs

theorem OB.lt {w : World} {g cap n : Nat} {xs : List Value} (h : OB w g cap n xs) : g < w.heap.size := by
  obtain ⟨_, cur, fz, hg, _⟩ := h
  exact (Array.getElem?_eq_some_iff.1 hg).1

theorem OB.of_block {w w' : World} {g cap n : Nat} {xs : List Value} (h : OB w g cap n xs) (e : w'.heap[g]? = w.heap[g]?) : OB w' g cap n xs := by
  obtain ⟨h1, cur, fz, hg, r⟩ := h
  exact ⟨h1, cur, fz, e.trans hg, r⟩

theorem OB.alloc {w : World} {g cap n : Nat} {xs : List Value} (h : OB w g cap n xs) (o : Obj) : OB (w.alloc o) g cap n xs := h.of_block (heap_alloc_old w o h.lt)
theorem OB.grown {w w' : World} {row : Option Nat} {g cap n : Nat} {xs : List Value} (h : OB w g cap n xs) (hg : w.grownBy w' row) (hne : some g ≠ row) : OB w' g cap n xs := h.of_block (hg.block g h.lt hne)

theorem OB.cell {w : World} {g cap n : Nat} {xs : List Value} (h : OB w g cap n xs) (j : Nat) (hj : j < n) : w.cell? ⟨g, j, none⟩ = xs[j]? := by
  obtain ⟨_, cur, fz, hg, _, _, _, _, ht⟩ := h
  rw [cell_of_row w g j cur 5 fz hg, ← ht, List.getElem?_take, if_pos hj]
  simp

theorem storeCells_B (P : Program) (g o : Nat) (t : TypeId) (fz : Nat × Nat) : ∀ (vs : List Value) (i : Nat) (cur : Array Value) (w : World), w.heap[g]? = some (.cells cur t fz) → (cur.size ≤ fz.1 ∨ fz.2 = 0) → o + i + vs.length ≤ cur.size → (∀ v ∈ vs, v.oneCell' = true) →
    (storeCells ⟨g, o, none⟩ vs i).run P w = .ok () (w.setRow g (cur.toList.take (o + i) ++ vs ++ cur.toList.drop (o + i + vs.length)).toArray)
  | [], i, cur, w, hg, _, _, _ => by
    simp only [storeCells, List.append_nil, List.length_nil, Nat.add_zero, List.take_append_drop, Array.toArray_toList]
    rw [setRow_self w g cur t fz hg]
    rfl
  | v :: rest, i, cur, w, hg, hfz, hl, h1 => by
    have hi : o + i < cur.size := by simp at hl; omega
    have hadd : (⟨g, o, none⟩ : Addr).add i = ⟨g, o + i, none⟩ := by unfold Addr.add; split <;> simp_all
    have hcell : w.cell? ⟨g, o + i, none⟩ = some cur[o + i] := by simp [World.cell?, hg, hi]
    have hfro : w.frozen? ⟨g, o + i, none⟩ = false := by
      obtain ⟨lo, hi'⟩ := fz
      simp only [World.frozen?, hg, Bool.and_eq_false_iff, decide_eq_false_iff_not]
      simp only at hfz
      rcases hfz with h | h
      · left; omega
      · right; omega
    have hst : (store ((⟨g, o, none⟩ : Addr).add i) v).run P w = .ok () (w.setRow g (cur.setIfInBounds (o + i) v)) := by
      rw [hadd, run_store P w _ v _ (h1 v (by simp)), hcell]
      simp [hfro, setCell_eq_setRow w g (o + i) cur t fz v hg]
    have ih := storeCells_B P g o t fz rest (i + 1) (cur.setIfInBounds (o + i) v) (w.setRow g (cur.setIfInBounds (o + i) v)) (setRow_heap w g cur _ t _ hg) (by simpa using hfz) (by simp at hl ⊢; omega) (fun x hx => h1 x (by simp [hx]))
    simp only [storeCells, Sem.run_bind, hst, Result.andThen_ok, ih, setRow_setRow]
    congr 3
    have e := list_seg_step cur.toList (o + i) v rest (by simp at hl ⊢; omega)
    simpa [Array.toList_setIfInBounds, Nat.add_assoc] using e

theorem info5 : (Yba.prog.info? 5).map (fun i => (i.zero, i.size, i.bytes)) = some (some (.int .u8 0), 1, 1) := by kernel_rfl

/-- 'append(b, x)': where there is room, in place; else in a new row. -/
theorem run_append_B (w : World) (ty : TypeId) (g cap n : Nat) (xs : List Value) (h : OB w g cap n xs) (ad : Addr) (x : Value) (hx : w.cell? ad = some x) (h1 : x.oneCell' = true) (hbig : n + 1 ≤ 140737488355328) :
    ∃ g' cap' w', (Builtin.append_ #[52, 52] ty #[.slice (some ⟨g, 0, none⟩) n cap, .slice (some ad) 1 1]).run Yba.prog w = .ok (.slice (some ⟨g', 0, none⟩) (n + 1) cap') w' ∧
      OB w' g' cap' (n + 1) (xs ++ [x]) ∧ w.grownBy w' (some g) ∧ (g' = g ∨ g' = w.heap.size) := by
  obtain ⟨i0, hi, hz0, hz1, hz2⟩ := info_parts info5
  obtain ⟨hl, cur, fz, hg, hfz, hnc, hcm, hcs, htake⟩ := h
  have hnews : ∀ j u, [x][j]? = some u → w.cell? (ad.add j) = some u := by
    intro j u hj
    match j, hj with
    | 0, hj => simp at hj; subst hj; simpa [Addr.add] using hx
  have h1' : ∀ u ∈ [x], u.oneCell' = true := by intro u hu; simp at hu; subst hu; exact h1
  by_cases hroom : n + 1 ≤ cap
  · have hf := run_firstCells_some (P := Yba.prog) w 1 1 ad 1 1 [x] rfl hnews
    have hst := storeCells_B Yba.prog g (n * 1) 5 fz [x] 0 cur w hg hfz (by simp; omega) h1'
    simp only [Nat.add_zero] at hst
    obtain ⟨N, hN⟩ : ∃ N, N = (cur.toList.take (n * 1) ++ [x] ++ cur.toList.drop (n * 1 + [x].length)).toArray := ⟨_, rfl⟩
    rw [← hN] at hst
    refine ⟨g, cap, w.setRow g N, ?_, ⟨by simp [hl], N, fz, setRow_heap w g cur _ 5 _ hg, ?_, hroom, hcm, ?_, ?_⟩, ⟨rfl, rfl, rfl, by simp, fun k _ hk => setRow_other w g k _ (fun e => hk (by rw [e]))⟩, .inl rfl⟩
    · simp [Builtin.append_, run_underlying Yba.underlying52, sizeOf, typeInfo, hi, hz1, Builtin.lenOf, hroom, hf, Addr.add_lit]
      rw [Nat.mul_one] at hst
      rw [hst]
      rfl
    · rw [hN]; simp only [List.size_toArray, List.length_append, List.length_take, List.length_drop, Array.length_toList, List.length_cons, List.length_nil]
      rcases hfz with h | h
      · left; omega
      · right; exact h
    · rw [hN]; simp only [List.size_toArray, List.length_append, List.length_take, List.length_drop, Array.length_toList, List.length_cons, List.length_nil]
      omega
    · rw [hN]; simp only [Nat.mul_one]
      rw [htake]
      have e : n + 1 = (xs ++ [x]).length := by simp [hl]
      rw [e]
      exact List.take_left
  · have holds : ∀ j u, xs[j]? = some u → w.cell? ((⟨g, 0, none⟩ : Addr).add j) = some u := by
      intro j u hu
      have hadd : (⟨g, 0, none⟩ : Addr).add j = ⟨g, j, none⟩ := by unfold Addr.add; split <;> simp_all
      rw [hadd, cell_of_row w g j cur 5 fz hg]
      rw [← htake, List.getElem?_take] at hu
      split at hu
      · simpa using hu
      · cases hu
    have hr := run_append_grow (P := Yba.prog) w 52 ty 5 i0 (.int .u8 0) Yba.underlying52 hi hz0 ⟨g, 0, none⟩ n cap xs (by rw [hz1]; omega) holds ad 1 1 [x] (by rw [hz1]; rfl) hnews (by omega) (by omega) (growslice_fits (by omega) (by rw [hz2]; omega))
    have hge := grownCap_ge w (n + 1) cap 5
    have hcm2 : grownCap w (n + 1) cap 5 ≤ maxLen := grownCap_le_maxLen w (n + 1) cap 5 (by unfold maxLen; omega)
    refine ⟨_, _, _, hr, ⟨by simp [hl], _, (0, 0), heap_alloc_new w.drew _, .inr rfl, hge, hcm2, ?_, ?_⟩, ⟨rfl, rfl, rfl, by simp, fun k hk _ => heap_alloc_old w.drew _ hk⟩, .inr rfl⟩
    · simp only [Array.size_append, List.size_toArray, size_zeroCells, hl, List.length_cons, List.length_nil]
      simp [Value.cells]
      omega
    · simp only [Array.toList_append]
      have e : n + 1 = (xs.toArray.toList ++ [x].toArray.toList).length := by simp [hl]
      rw [e, List.take_left]

theorem wpList_append_B {w : World} {ops : Array Oper} {rest : List Oper} {o : Oper} {a : Act} {Q : Exit → Act → World → Prop} (hgd : o.guard = none) (s x : Operand)
    (ho : o.op = .call { callee := .builtin .append, args := #[s, x], argTypes := #[52, 52] })
    (g cap n : Nat) (xs : List Value) (hs : a.eval s = .slice (some ⟨g, 0, none⟩) n cap) (hB : OB w g cap n xs) (ad : Addr) (v : Value) (hx : a.eval x = .slice (some ad) 1 1) (hc : w.cell? ad = some v) (h1 : v.oneCell' = true)
    (hbig : n + 1 ≤ 140737488355328)
    (h : ∀ g' cap' w', OB w' g' cap' (n + 1) (xs ++ [v]) → w.grownBy w' (some g) → (g' = g ∨ g' = w.heap.size) → wpList Yba.prog ops Q rest (a.put o.dst (.slice (some ⟨g', 0, none⟩) (n + 1) cap')) w') : wpList Yba.prog ops Q (o :: rest) a w := by
  refine wpList_plain hgd fun K hK => ?_
  obtain ⟨g', cap', w', hr, h2, h3, h4⟩ := run_append_B w o.type g cap n xs hB ad v hc h1 hbig
  unfold Oper.wp execOp
  simp only [ho, resolve, invoke, builtin, Sem.run_bind, Sem.run_pure, Result.andThen_ok, List.map_toArray, List.map_cons, List.map_nil, hs, hx, hr]
  exact hK _ _ (h g' cap' w' h2 h3 h4)

/-- A string's bytes as cells. -/
def bv (l : List UInt8) : List Value := l.map fun b => .int .u8 (b.toNat : Int)
theorem bv_length (l : List UInt8) : (bv l).length = l.length := by simp [bv]
theorem bv_snoc (l : List UInt8) (b : UInt8) : bv (l ++ [b]) = bv l ++ [.int .u8 (b.toNat : Int)] := by simp [bv]
theorem bv_get (l : List UInt8) (j : Nat) (hj : j < l.length) : (bv l)[j]? = some (.int .u8 (l[j].toNat : Int)) := by simp [bv, hj]

theorem wpList_toBytes {w : World} {ops : Array Oper} {rest : List Oper} {o : Oper} {a : Act} {Q : Exit → Act → World → Prop} (hgd : o.guard = none) (x : Operand) (ho : o.op = .convert 9 52 x)
    (s : ByteArray) (hx : a.eval x = .string s) (hs : s.size ≤ maxLen)
    (h : ∀ cap w', OB w' w.heap.size cap s.size (bv s.data.toList) → w.grownBy w' none → wpList Yba.prog ops Q rest (a.put o.dst (.slice (some ⟨w.heap.size, 0, none⟩) s.size cap)) w') : wpList Yba.prog ops Q (o :: rest) a w := by
  refine wpList_plain hgd fun K hK => ?_
  have hr := run_bytes_of_string (P := Yba.prog) w 9 52 5 s Yba.underlying9 Yba.underlying52 Yba.underlying5
  unfold Oper.wp execOp
  simp only [ho, hx, Sem.run_bind, Sem.run_pure, Result.andThen_ok, hr]
  have hge := grownCap_ge w s.size 0 5
  have hcm := grownCap_le_maxLen w s.size 0 5 hs
  have hsz : (bytesRow s (grownCap w s.size 0 5)).size = grownCap w s.size 0 5 := by
    have e : s.data.size = s.size := rfl
    simp [bytesRow, e]; omega
  refine hK _ _ (h _ _ ⟨by simp [bv], _, _, heap_alloc_new w.drew _, .inl (Nat.le_refl _), hge, hcm, hsz, ?_⟩ ⟨rfl, rfl, rfl, by simp, fun k hk _ => heap_alloc_old w.drew _ hk⟩)
  have e : s.data.size = s.size := rfl
  simp only [bytesRow, Array.toList_append]
  rw [List.take_append_of_le_length (by simp [e])]
  rw [List.take_of_length_le (by simp [e])]
  simp [bv]

theorem wpList_toString {w : World} {ops : Array Oper} {rest : List Oper} {o : Oper} {a : Act} {Q : Exit → Act → World → Prop} (hgd : o.guard = none) (x : Operand) (ho : o.op = .convert 52 9 x)
    (g cap n : Nat) (l : List UInt8) (hx : a.eval x = .slice (some ⟨g, 0, none⟩) n cap) (hB : OB w g cap n (bv l))
    (h : wpList Yba.prog ops Q rest (a.put o.dst (.string ⟨l.toArray⟩)) w) : wpList Yba.prog ops Q (o :: rest) a w := by
  refine wpList_plain hgd fun K hK => ?_
  have hn : n = l.length := by rw [← hB.1, bv_length]
  subst hn
  have hr := run_convert_bytes_back (P := Yba.prog) w 52 9 5 ⟨g, 0, none⟩ cap l Yba.underlying52 Yba.underlying5 Yba.underlying9 (fun j hj => by
    have hadd : (⟨g, 0, none⟩ : Addr).add j = ⟨g, j, none⟩ := by unfold Addr.add; split <;> simp_all
    rw [hadd, hB.cell j hj, bv_get l j hj])
  unfold Oper.wp execOp
  simp only [ho, hx, Sem.run_bind, Sem.run_pure, Result.andThen_ok, hr]
  exact hK _ _ h

end Go.Proofs.Ybulkdwzg
