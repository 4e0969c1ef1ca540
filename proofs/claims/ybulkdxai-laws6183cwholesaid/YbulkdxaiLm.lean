/-
  ROWS by a function of the place; the makes of the law (3); what stands below stays.
-/
import Derived.Test.YbulkdxaiLd
import Derived.Deep.OwnRows
import Derived.Laws.CopyOwn
namespace Go.Proofs.Ybulkdxai
open Go.RowKit

def rowL (f : Nat → Value) (m : Nat) : List Value := (List.range m).map f
/-- The block b holds f 0 .. f (m - 1). -/
def RW (w : World) (b t : Nat) (f : Nat → Value) (m : Nat) : Prop := w.heap[b]? = some (.cells (rowL f m).toArray t (0, 0))

theorem rowL_congr {f g : Nat → Value} {m : Nat} (h : ∀ j, j < m → f j = g j) : rowL f m = rowL g m :=
  List.map_congr_left fun j hj => h j (List.mem_range.1 hj)
theorem rowL_at (f : Nat → Value) {m j : Nat} (h : j < m) : (rowL f m)[j]? = some (f j) := by simp [rowL, h]
theorem rowL_len (f : Nat → Value) (m : Nat) : (rowL f m).length = m := by simp [rowL]
theorem RW.cell {w : World} {b t : Nat} {f : Nat → Value} {m : Nat} (h : RW w b t f m) {j : Nat} (hj : j < m) : w.cell? ⟨b, j, none⟩ = some (f j) := by
  rw [cell_of_row w _ _ _ _ _ h]
  simpa using rowL_at f hj
theorem RW.frozen {w : World} {b t : Nat} {f : Nat → Value} {m : Nat} (h : RW w b t f m) (j : Nat) : w.frozen? ⟨b, j, none⟩ = false := frozen_of_row w _ _ _ _ h
theorem RW.lt {w : World} {b t : Nat} {f : Nat → Value} {m : Nat} (h : RW w b t f m) : b < w.heap.size := row_lt h
theorem RW.congr {w : World} {b t : Nat} {f g : Nat → Value} {m : Nat} (h : RW w b t f m) (e : ∀ j, j < m → f j = g j) : RW w b t g m := by
  unfold RW; rw [← rowL_congr e]; exact h
theorem RW.set {w : World} {b t : Nat} {f : Nat → Value} {m : Nat} (h : RW w b t f m) {j : Nat} (hj : j < m) (v : Value) (g : Nat → Value) (e : ∀ i, i < m → (if i = j then v else f i) = g i) : RW (w.setCell ⟨b, j, none⟩ v) b t g m := by
  unfold RW
  rw [heap_setCell_same w b j _ _ _ h]
  suffices e : (rowL f m).set j v = rowL g m by rw [← e]; simp
  apply List.ext_getElem?
  intro i
  rw [List.getElem?_set]
  by_cases hi : i < m
  · rw [rowL_at g hi, ← e i hi, rowL_at f hi]
    by_cases e : j = i
    · subst e; simp [rowL_len, hi]
    · rw [if_neg e, if_neg (fun h => e h.symm)]
  · rw [List.getElem?_eq_none (by rw [rowL_len]; omega), List.getElem?_eq_none (by rw [rowL_len]; omega), if_neg (by omega)]
theorem RW.later {w w' : World} {B b t : Nat} {f : Nat → Value} {m : Nat} (h : RW w b t f m) (hb : Below B w w') (hB : b < B) : RW w' b t f m := (hb.block b hB).trans h
theorem RW.other {w : World} {b t : Nat} {f : Nat → Value} {m : Nat} (h : RW w b t f m) {a : Addr} (ha : b ≠ a.block) (v : Value) : RW (w.setCell a v) b t f m := (heap_setCell_other w a _ v ha).trans h
theorem RW.alloc {w : World} {b t : Nat} {f : Nat → Value} {m : Nat} (h : RW w b t f m) (o : Obj) : RW (w.alloc o) b t f m := (heap_alloc_old w o h.lt).trans h
theorem RW.drewN {w : World} {b t : Nat} {f : Nat → Value} {m : Nat} (h : RW w b t f m) (q : Nat) : RW (w.drewN q) b t f m := h
theorem RW.nr {w : World} {b t n : Nat} {k : IntKind} {Z : Nat → Int} (h : RW w b t (fun j => .int k (Z j)) n) : NR k w (some ⟨b, 0, none⟩) n Z := fun _ => ⟨b, 0, rfl, fun j hj => by simpa using h.cell hj⟩

theorem made_row (z : Value) (n : Nat) : madeCells #[z] n = (rowL (fun _ => z) n).toArray := by
  apply Array.ext'
  simp only [madeCells, rowL, Array.toList_map, Array.toList_range]
  apply List.map_congr_left
  intro j _
  simp [Nat.mod_one]

theorem info29 : (Yba.prog.info? 29).map (fun i => (i.zero, i.size, i.bytes)) = some (some (.int .u64 0), 1, 8) := by kernel_rfl
theorem info4 : (Yba.prog.info? 4).map (fun i => (i.zero, i.size, i.bytes)) = some (some (.bool false), 1, 1) := by kernel_rfl
theorem mk23 (n : Nat) (hn : n < 2 ^ 40) (w : World) : (Instr.makeSlice 23 (.int .i64 (n : Int)) (.int .i64 (n : Int))).run Yba.prog w = .ok (.slice (some ⟨w.heap.size, 0, none⟩) n n) (w.alloc (.cells (rowL (fun _ => .int .u32 0) n).toArray 26)) := by
  rw [← made_row]; exact run_make_row' 23 26 _ 4 Yba.underlying23 info26 rfl .i64 .i64 n (by omega) (by omega) w
theorem mk28 (n : Nat) (hn : n < 2 ^ 40) (w : World) : (Instr.makeSlice 28 (.int .i64 (n : Int)) (.int .i64 (n : Int))).run Yba.prog w = .ok (.slice (some ⟨w.heap.size, 0, none⟩) n n) (w.alloc (.cells (rowL (fun _ => .int .u64 0) n).toArray 29)) := by
  rw [← made_row]; exact run_make_row' 28 29 _ 8 Yba.underlying28 info29 rfl .i64 .i64 n (by omega) (by omega) w
theorem mk24 (n : Nat) (hn : n < 2 ^ 40) (w : World) : (Instr.makeSlice 24 (.int .i64 (n : Int)) (.int .i64 (n : Int))).run Yba.prog w = .ok (.slice (some ⟨w.heap.size, 0, none⟩) n n) (w.alloc (.cells (rowL (fun _ => .int .u64 0) n).toArray 29)) := by
  rw [← made_row]; exact run_make_row' 24 29 _ 8 Yba.underlying24 info29 rfl .i64 .i64 n (by omega) (by omega) w
theorem mk25 (n : Nat) (hn : n < 2 ^ 40) (w : World) : (Instr.makeSlice 25 (.int .i64 (n : Int)) (.int .i64 (n : Int))).run Yba.prog w = .ok (.slice (some ⟨w.heap.size, 0, none⟩) n n) (w.alloc (.cells (rowL (fun _ => .bool false) n).toArray 4)) := by
  rw [← made_row]; exact run_make_row' 25 4 _ 1 Yba.underlying25 info4 rfl .i64 .i64 n (by omega) (by omega) w
theorem rw_new (w : World) (f : Nat → Value) (m t : Nat) : RW (w.alloc (.cells (rowL f m).toArray t)) w.heap.size t f m := heap_alloc_new w _
theorem below_new (w : World) (o : Obj) : Below w.heap.size w (w.alloc o) := (Below.refl _ w).alloc (Nat.le_refl _) _

/-- What lies below stays. -/
theorem cell_below {w w' : World} (h : Below w.heap.size w w') {a : Addr} {v : Value} (hc : w.cell? a = some v) : w'.cell? a = some v := (h.cell (World.block_lt_of_cell? w a hc)).trans hc
theorem NR.below {k : IntKind} {w w' : World} {a : Option Addr} {n : Nat} {Z : Nat → Int} (hn : NR k w a n Z) (h : Below w.heap.size w w') : NR k w' a n Z := fun h0 => by
  obtain ⟨b, off, e, hc⟩ := hn h0
  exact ⟨b, off, e, fun j hj => cell_below h (hc j hj)⟩
theorem splice_all {α : Type} (L S : List α) (h : L.length = S.length) : splice L 0 S = S := by
  unfold splice
  rw [List.drop_eq_nil_of_le (by omega)]
  simp

end Go.Proofs.Ybulkdxai
