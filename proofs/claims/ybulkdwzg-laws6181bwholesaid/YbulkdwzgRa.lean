/-
  LawS6181BWhole: ROWS by a function of the place, rows of pairs, the makes, what lies behind k statements.
-/
import Derived.Test.YbulkdwzgPa
import Derived.Deep.OwnRows
import Derived.Laws.CopyOwn
import Derived.Maps.AppendAt
import Derived.OwnWalk
namespace Go.Proofs.Ybulkdwzg.lawB
open Go.RowKit

def tl : Nat → Code → Code
  | 0, c => c
  | k + 1, .seq _ b => tl k b
  | _, c => c
theorem split1 {P : Program} {a t : Code} {Q : Exit → Act → World → Prop} {x : Act} {w : World} (T : Code) (e : t = T) (h : Code.wp P (.seq a T) Q x w) : Code.wp P (.seq a t) Q x w := by subst e; exact h
theorem split2 {P : Program} {a b t : Code} {Q : Exit → Act → World → Prop} {x : Act} {w : World} (T : Code) (e : t = T) (h : Code.wp P (.seq a (.seq b T)) Q x w) : Code.wp P (.seq a (.seq b t)) Q x w := by subst e; exact h
theorem split3 {P : Program} {a b c t : Code} {Q : Exit → Act → World → Prop} {x : Act} {w : World} (T : Code) (e : t = T) (h : Code.wp P (.seq a (.seq b (.seq c T))) Q x w) : Code.wp P (.seq a (.seq b (.seq c t))) Q x w := by subst e; exact h
theorem split4 {P : Program} {a b c d t : Code} {Q : Exit → Act → World → Prop} {x : Act} {w : World} (T : Code) (e : t = T) (h : Code.wp P (.seq a (.seq b (.seq c (.seq d T)))) Q x w) : Code.wp P (.seq a (.seq b (.seq c (.seq d t)))) Q x w := by subst e; exact h
theorem split5 {P : Program} {a b c d f t : Code} {Q : Exit → Act → World → Prop} {x : Act} {w : World} (T : Code) (e : t = T) (h : Code.wp P (.seq a (.seq b (.seq c (.seq d (.seq f T))))) Q x w) : Code.wp P (.seq a (.seq b (.seq c (.seq d (.seq f t))))) Q x w := by subst e; exact h
theorem split6 {P : Program} {a b c d f g t : Code} {Q : Exit → Act → World → Prop} {x : Act} {w : World} (T : Code) (e : t = T) (h : Code.wp P (.seq a (.seq b (.seq c (.seq d (.seq f (.seq g T)))))) Q x w) : Code.wp P (.seq a (.seq b (.seq c (.seq d (.seq f (.seq g t)))))) Q x w := by subst e; exact h

def rowL (f : Nat → Value) (m : Nat) : List Value := (List.range m).map f
theorem row_lt {w : World} {b t : Nat} {C : Array Value} {z : Nat × Nat} (h : w.heap[b]? = some (.cells C t z)) : b < w.heap.size := by
  obtain ⟨h1, _⟩ := Array.getElem?_eq_some_iff.1 h
  exact h1
/-- The block b holds f 0 .. f (m - 1). -/
def RW (w : World) (b t : Nat) (f : Nat → Value) (m : Nat) : Prop := w.heap[b]? = some (.cells (rowL f m).toArray t (0, 0))
theorem rowL_congr {f g : Nat → Value} {m : Nat} (h : ∀ j, j < m → f j = g j) : rowL f m = rowL g m :=
  List.map_congr_left fun j hj => h j (List.mem_range.1 hj)
theorem rowL_at (f : Nat → Value) {m j : Nat} (h : j < m) : (rowL f m)[j]? = some (f j) := by simp [rowL, h]
theorem rowL_len (f : Nat → Value) (m : Nat) : (rowL f m).length = m := by simp [rowL]
theorem RW.cell {w : World} {b t : Nat} {f : Nat → Value} {m : Nat} (h : RW w b t f m) {j : Nat} (hj : j < m) : w.cell? ⟨b, j, none⟩ = some (f j) := by
  rw [cell_of_row w _ _ _ _ _ h]
  simpa using rowL_at f hj
theorem RW.frozen {w : World} {b t : Nat} {f : Nat → Value} {m : Nat} (h : RW w b t f m) (j : Nat) : w.frozen? ⟨b, j, none⟩ = false := frozen_of_row w _ _ _ _ h
theorem RW.lt {w : World} {b t : Nat} {f : Nat → Value} {m : Nat} (h : RW w b t f m) : b < w.heap.size := row_lt h
theorem RW.congr {w : World} {b t : Nat} {f g : Nat → Value} {m : Nat} (h : RW w b t f m) (e : ∀ j, j < m → f j = g j) : RW w b t g m := by
  unfold RW; rw [← rowL_congr e]; exact h
theorem RW.set {w : World} {b t : Nat} {f : Nat → Value} {m : Nat} (h : RW w b t f m) {j : Nat} (hj : j < m) (v : Value) (g : Nat → Value) (e : ∀ i, i < m → (if i = j then v else f i) = g i) : RW (w.setCell ⟨b, j, none⟩ v) b t g m := by
  unfold RW
  rw [heap_setCell_same w b j _ _ _ h]
  suffices e : (rowL f m).set j v = rowL g m by rw [← e]; simp
  apply List.ext_getElem?
  intro i
  rw [List.getElem?_set]
  by_cases hi : i < m
  · rw [rowL_at g hi, ← e i hi, rowL_at f hi]
    by_cases e : j = i
    · subst e; simp [rowL_len, hi]
    · rw [if_neg e, if_neg (fun h => e h.symm)]
  · rw [List.getElem?_eq_none (by rw [rowL_len]; omega), List.getElem?_eq_none (by rw [rowL_len]; omega), if_neg (by omega)]
theorem RW.other {w : World} {b t : Nat} {f : Nat → Value} {m : Nat} (h : RW w b t f m) {a : Addr} (ha : b ≠ a.block) (v : Value) : RW (w.setCell a v) b t f m := (heap_setCell_other w a _ v ha).trans h
theorem RW.kx {x y : Nat} {w w' : World} {b t : Nat} {f : Nat → Value} {m : Nat} (h : RW w b t f m) (k : ∀ b, b ≠ x → b ≠ y → b < w.heap.size → w'.heap[b]? = w.heap[b]?) (hx : b ≠ x) (hy : b ≠ y) : RW w' b t f m := (k b hx hy h.lt).trans h
theorem RW.later {w w' : World} {b t : Nat} {f : Nat → Value} {m : Nat} (h : RW w b t f m) (hb : Below w.heap.size w w') : RW w' b t f m := (hb.block b h.lt).trans h
theorem RW.alloc {w : World} {b t : Nat} {f : Nat → Value} {m : Nat} (h : RW w b t f m) (o : Obj) : RW (w.alloc o) b t f m := (heap_alloc_old w o h.lt).trans h
theorem rw_new (w : World) (f : Nat → Value) (m t : Nat) : RW (w.alloc (.cells (rowL f m).toArray t)) w.heap.size t f m := heap_alloc_new w _
theorem rw_one (w : World) (v : Value) (t : Nat) : RW (w.alloc (.cells #[v] t)) w.heap.size t (fun _ => v) 1 := heap_alloc_new w _
theorem rw_two (w : World) (u v : Value) (t : Nat) : RW (w.alloc (.cells #[u, v] t)) w.heap.size t (fun j => if j % 2 = 0 then u else v) 2 := heap_alloc_new w _

/-- A row of pairs. -/
def p2 (A B : Nat → Value) (j : Nat) : Value := if j % 2 = 0 then A (j / 2) else B (j / 2)
def R2 (w : World) (b t : Nat) (A B : Nat → Value) (n : Nat) : Prop := RW w b t (p2 A B) (n * 2)
theorem R2.c0 {w : World} {b t n : Nat} {A B : Nat → Value} (h : R2 w b t A B n) {k : Nat} (hk : k < n) : w.cell? ⟨b, k * 2, none⟩ = some (A k) := by
  rw [RW.cell h (j := k * 2) (by omega)]
  unfold p2
  rw [if_pos (by omega), show k * 2 / 2 = k by omega]
theorem R2.c1 {w : World} {b t n : Nat} {A B : Nat → Value} (h : R2 w b t A B n) {k : Nat} (hk : k < n) : w.cell? ⟨b, k * 2 + 1, none⟩ = some (B k) := by
  rw [RW.cell h (j := k * 2 + 1) (by omega)]
  unfold p2
  rw [if_neg (by omega), show (k * 2 + 1) / 2 = k by omega]
theorem R2.congr {w : World} {b t n : Nat} {A B A' B' : Nat → Value} (h : R2 w b t A B n) (ea : ∀ j, j < n → A j = A' j) (eb : ∀ j, j < n → B j = B' j) : R2 w b t A' B' n := by
  refine RW.congr h fun j hj => ?_
  unfold p2
  rw [ea (j / 2) (by omega), eb (j / 2) (by omega)]
theorem R2.set1 {w : World} {b t n : Nat} {A B : Nat → Value} (h : R2 w b t A B n) {k : Nat} (hk : k < n) (v : Value) : R2 (w.setCell ⟨b, k * 2 + 1, none⟩ v) b t A (fun j => if j = k then v else B j) n := by
  refine RW.set h (j := k * 2 + 1) (by omega) v _ fun i hi => ?_
  unfold p2
  by_cases e : i = k * 2 + 1
  · subst e
    have e3 : (k * 2 + 1) / 2 = k := by omega
    have e4 : ¬ (k * 2 + 1) % 2 = 0 := by omega
    simp [e3]
  · by_cases e2 : i % 2 = 0
    · simp [e, e2]
    · have e3 : ¬ i / 2 = k := by omega
      simp [e, e2, e3]
theorem R2.set0 {w : World} {b t n : Nat} {A B : Nat → Value} (h : R2 w b t A B n) {k : Nat} (hk : k < n) (v : Value) : R2 (w.setCell ⟨b, k * 2, none⟩ v) b t (fun j => if j = k then v else A j) B n := by
  refine RW.set h (j := k * 2) (by omega) v _ fun i hi => ?_
  unfold p2
  by_cases e : i = k * 2
  · subst e
    have e3 : k * 2 / 2 = k := by omega
    simp
  · by_cases e2 : i % 2 = 0
    · have e3 : ¬ i / 2 = k := by omega
      simp [e, e2, e3]
    · simp [e, e2]
theorem R2.set {w : World} {b t n : Nat} {A B : Nat → Value} (h : R2 w b t A B n) {k : Nat} (hk : k < n) (u v : Value) : R2 ((w.setCell ⟨b, k * 2, none⟩ u).setCell ⟨b, k * 2 + 1, none⟩ v) b t (fun j => if j = k then u else A j) (fun j => if j = k then v else B j) n := (h.set0 hk u).set1 hk v

theorem made_row (z : Value) (n : Nat) : madeCells #[z] n = (rowL (fun _ => z) n).toArray := by
  apply Array.ext'
  simp only [madeCells, rowL, Array.toList_map, Array.toList_range]
  apply List.map_congr_left
  intro j _
  simp [Nat.mod_one]
theorem made_row2 (u v : Value) (n : Nat) : madeCells #[u, v] n = (rowL (p2 (fun _ => u) (fun _ => v)) n).toArray := by
  apply Array.ext'
  simp only [madeCells, rowL, Array.toList_map, Array.toList_range]
  apply List.map_congr_left
  intro j _
  have h2 : j % 2 = 0 ∨ j % 2 = 1 := by omega
  rcases h2 with e | e <;> simp [p2, e]
theorem info3 : (Yba.prog.info? 3).map (fun i => (i.zero, i.size, i.bytes)) = some (some (.int .i64 0), 1, 8) := by kernel_rfl
theorem info85 : (Yba.prog.info? 85).map (fun i => (i.zero, i.size, i.bytes)) = some (some (.agg #[.int .i64 0, .int .i64 0]), 2, 16) := by kernel_rfl
theorem info57 : (Yba.prog.info? 57).map (fun i => (i.zero, i.size, i.bytes)) = some (some (.agg #[.int .i64 0, .int .i64 0]), 2, 16) := by kernel_rfl
theorem mk26 (n : Nat) (hn : n < 2 ^ 40) (w : World) : (Instr.makeSlice 26 (.int .i64 (n : Int)) (.int .i64 (n : Int))).run Yba.prog w = .ok (.slice (some ⟨w.heap.size, 0, none⟩) n n) (w.alloc (.cells (rowL (fun _ => .int .i64 0) n).toArray 3)) := by
  rw [← made_row]; exact run_make_row' 26 3 _ 8 Yba.underlying26 info3 rfl .i64 .i64 n (by omega) (by omega) w
theorem mk87 (n : Nat) (hn : n < 2 ^ 40) (w : World) : (Instr.makeSlice 87 (.int .i64 (n : Int)) (.int .i64 (n : Int))).run Yba.prog w = .ok (.slice (some ⟨w.heap.size, 0, none⟩) n n) (w.alloc (.cells (rowL (p2 (fun _ => .int .i64 0) (fun _ => .int .i64 0)) (n * 2)).toArray 85)) := by
  obtain ⟨i0, hi, hz0, hz1, hz2⟩ := info_parts info85
  have hr := run_make (P := Yba.prog) w 87 85 i0 _ Yba.underlying87 hi hz0 .i64 .i64 n n (by omega) (Int.le_refl _) (by rw [hz2]; omega) (by omega)
  rw [hr, ← made_row2]
  simp [hz1, Value.cells]
theorem mk53 (n : Nat) (hn : n < 2 ^ 40) (w : World) : (Instr.makeSlice 53 (.int .i64 (n : Int)) (.int .i64 (n : Int))).run Yba.prog w = .ok (.slice (some ⟨w.heap.size, 0, none⟩) n n) (w.alloc (.cells (rowL (p2 (fun _ => .int .i64 0) (fun _ => .int .i64 0)) (n * 2)).toArray 57)) := by
  obtain ⟨i0, hi, hz0, hz1, hz2⟩ := info_parts info57
  have hr := run_make (P := Yba.prog) w 53 57 i0 _ Yba.underlying53 hi hz0 .i64 .i64 n n (by omega) (Int.le_refl _) (by rw [hz2]; omega) (by omega)
  rw [hr, ← made_row2]
  simp [hz1, Value.cells]

/-- What lies outside D is as it was. -/
structure Out (D : Nat → Prop) (w w' : World) : Prop where
  os : w'.os = w.os
  tape : w'.tape = w.tape
  output : w'.output = w.output
  size : w.heap.size ≤ w'.heap.size
  block : ∀ k, k < w.heap.size → ¬ D k → w'.heap[k]? = w.heap[k]?
theorem Out.refl (D : Nat → Prop) (w : World) : Out D w w := ⟨rfl, rfl, rfl, Nat.le_refl _, fun _ _ _ => rfl⟩
theorem Out.trans {D D' : Nat → Prop} {a b c : World} (h : Out D a b) (k : Out D' b c) (hd : ∀ i, i < a.heap.size → D' i → D i) : Out D a c :=
  ⟨k.os.trans h.os, k.tape.trans h.tape, k.output.trans h.output, Nat.le_trans h.size k.size, fun i hi hn => (k.block i (Nat.lt_of_lt_of_le hi h.size) (fun h' => hn (hd i hi h'))).trans (h.block i hi hn)⟩
theorem Out.cell {D : Nat → Prop} {w w' : World} (h : Out D w w') {a : Addr} {v : Value} (hc : w.cell? a = some v) (hn : ¬ D a.block) : w'.cell? a = some v :=
  (World.cell?_of_block (h.block a.block (World.block_lt_of_cell? w a hc) hn)).trans hc
theorem out_append {w w1 : World} {o : Obj} {r : Option Nat} (hg : (w.alloc o).grownBy w1 r) : Out (fun k => r = some k) w w1 :=
  ⟨hg.os, hg.tape, hg.output, Nat.le_trans (by simp) hg.size, fun k hk hn => (hg.block k (Nat.lt_of_lt_of_le hk (by simp)) (fun h => hn h.symm)).trans (heap_alloc_old w o hk)⟩
theorem own_slice {w : World} {b e s n : Nat} {v : Value} {xs : List Value} (h : w.ownsRow b e s v n xs) : ∃ a c, v = .slice a n c := by
  rcases h.2 with ⟨rfl, rfl⟩ | ⟨g, cap, cur, rfl, _⟩
  · exact ⟨none, 0, rfl⟩
  · exact ⟨_, _, rfl⟩
theorem own_kept {w w' : World} {base e s n : Nat} {v : Value} {xs : List Value} {D : Nat → Prop} (h : w.ownsRow base e s v n xs) (ho : Out D w w') (hv : ∀ k, v.ownBlock = some k → ¬ D k) : w'.ownsRow base e s v n xs := by
  refine ⟨h.1, ?_⟩
  rcases h.2 with h4 | ⟨g, c, cur, rfl, hb, hg, r⟩
  · exact .inl h4
  · exact .inr ⟨g, c, cur, rfl, hb, (ho.block g (row_lt hg) (hv g rfl)).trans hg, r⟩
theorem own_cell {w : World} {base e s n : Nat} {v : Value} {xs : List Value} (h : w.ownsRow base e s v n xs) (h0 : 0 < n) : ∃ g c, v = .slice (some ⟨g, 0, none⟩) n c ∧ base ≤ g ∧ ∀ j x, xs[j]? = some x → w.cell? ⟨g, j, none⟩ = some x := by
  have hl := h.1
  rcases h.2 with ⟨_, h1⟩ | ⟨g, c, cur, rfl, hb, hg, _, _, _, ht⟩
  · omega
  · refine ⟨g, c, rfl, hb, fun j x hj => ?_⟩
    have hj2 : j < xs.length := by
      rcases Nat.lt_or_ge j xs.length with h | h
      · exact h
      · rw [List.getElem?_eq_none h] at hj; cases hj
    rw [cell_of_row w _ _ _ _ _ hg]
    rw [← ht, List.getElem?_take, if_pos (by omega)] at hj
    simpa using hj
/-- What lies below stays. -/
theorem cell_below {w w' : World} (h : Below w.heap.size w w') {a : Addr} {v : Value} (hc : w.cell? a = some v) : w'.cell? a = some v := (h.cell (World.block_lt_of_cell? w a hc)).trans hc

end Go.Proofs.Ybulkdwzg.lawB
