/-
  LawS6184AWhole: make and copy of key parts (two cells each), make of columns (twelve cells each).
-/
import Derived.Test.YbulkdxawFmtWalkA
import Derived.Laws.CopyRow
import Derived.Deep.OwnRows
namespace Go.Proofs.YbulkdxawFmt
open Go.RowKit Go.Extern.Stop Go.Stop Go.Extern

/-- n key parts as cells. -/
def kpL (S : Nat → ByteArray) (I : Nat → Int) : Nat → List Value
  | 0 => []
  | n + 1 => kpL S I n ++ [.string (S n), .int .i64 (I n)]
theorem kpL_len (S : Nat → ByteArray) (I : Nat → Int) : ∀ n, (kpL S I n).length = n * 2
  | 0 => rfl
  | n + 1 => by simp [kpL, kpL_len S I n]; omega
theorem kpL_get (S : Nat → ByteArray) (I : Nat → Int) : ∀ n j, j < n → (kpL S I n)[j * 2]? = some (.string (S j)) ∧ (kpL S I n)[j * 2 + 1]? = some (.int .i64 (I j))
  | 0, j, h => by omega
  | n + 1, j, h => by
    have hl := kpL_len S I n
    by_cases e : j < n
    · have := kpL_get S I n j e
      simp only [kpL]
      rw [List.getElem?_append_left (by omega), List.getElem?_append_left (by omega)]
      exact this
    · obtain rfl : j = n := by omega
      simp only [kpL]
      rw [List.getElem?_append_right (by omega), List.getElem?_append_right (by omega), hl]
      simp
theorem kpL_one (S : Nat → ByteArray) (I : Nat → Int) : ∀ n, ∀ u ∈ kpL S I n, u.oneCell' = true
  | 0, u, h => by simp [kpL] at h
  | n + 1, u, h => by
    simp only [kpL, List.mem_append, List.mem_cons, List.not_mem_nil, or_false] at h
    rcases h with h | rfl | rfl
    · exact kpL_one S I n u h
    · rfl
    · rfl
theorem kpL_cells {w : World} {b off n : Nat} {S : Nat → ByteArray} {I : Nat → Int} (h : ∀ j, j < n → w.cell? ⟨b, off + j * 2, none⟩ = some (.string (S j)) ∧ w.cell? ⟨b, off + j * 2 + 1, none⟩ = some (.int .i64 (I j))) :
    ∀ t u, (kpL S I n)[t]? = some u → w.cell? ((⟨b, off, none⟩ : Addr).add t) = some u := by
  intro t u ht
  have hl := (List.getElem?_eq_some_iff.1 ht).1
  rw [kpL_len] at hl
  have hadd : (⟨b, off, none⟩ : Addr).add t = ⟨b, off + t, none⟩ := by unfold Addr.add; split <;> simp_all
  rw [hadd]
  have hd : t / 2 < n := by omega
  rcases Nat.mod_two_eq_zero_or_one t with e | e
  · have et : t = t / 2 * 2 := by omega
    rw [et] at ht ⊢
    rw [(kpL_get S I n (t / 2) hd).1] at ht
    rw [(h (t / 2) hd).1, ht]
  · have et : t = t / 2 * 2 + 1 := by omega
    rw [et] at ht ⊢
    rw [(kpL_get S I n (t / 2) hd).2] at ht
    rw [← Nat.add_assoc, (h (t / 2) hd).2, ht]
theorem kp_of_row {w : World} {g n : Nat} {S : Nat → ByteArray} {I : Nat → Int} (h : w.heap[g]? = some (.cells (kpL S I n).toArray 33 (0, 0))) : KP w (some ⟨g, 0, none⟩) n S I := fun _ =>
  ⟨g, 0, rfl, fun j hj => by
    have := kpL_get S I n j hj
    rw [cell_of_row w g _ _ _ _ h, cell_of_row w g _ _ _ _ h]
    simpa using this⟩

theorem info33 : (Ybaf.prog.info? 33).map (fun i => (i.zero, i.size, i.bytes)) = some (some (.agg #[.string ⟨#[]⟩, .int .i64 0]), 2, 24) := by kernel_rfl
def zk (n : Nat) : Array Value := madeCells #[.string ⟨#[]⟩, .int .i64 0] (n * 2)
theorem run_make22 (n : Nat) (hn : n ≤ 1048576) (w : World) : (Instr.makeSlice 22 (.int .i64 (n : Int)) (.int .i64 (n : Int))).run Ybaf.prog w = .ok (.slice (some ⟨w.heap.size, 0, none⟩) n n) (w.alloc (.cells (zk n) 33)) := by
  obtain ⟨i0, hi, hz0, hz1, hz2⟩ := info_parts info33
  have hr := run_make (P := Ybaf.prog) w 22 33 i0 _ Ybaf.underlying22 hi hz0 .i64 .i64 n n (by omega) (Int.le_refl _) (by rw [hz2]; omega) (by omega)
  rw [hr]
  simp [zk, hz1, Value.cells]
theorem zk_len (n : Nat) : (zk n).toList.length = n * 2 := by simp [zk, size_madeCells]

theorem wpList_copy_kp {w : World} {ops : Array Oper} {rest : List Oper} {o : Oper} {a : Act} {Q : Exit → Act → World → Prop} (hgd : o.guard = none) (d s : Operand)
    (ho : o.op = .call { callee := .builtin .copy, args := #[d, s], argTypes := #[22, 22] }) (g n dc : Nat) (hd : a.eval d = .slice (some ⟨g, 0, none⟩) n dc) (sp : Option Addr) (sc : Nat) (hs : a.eval s = .slice sp n sc)
    (cur : List Value) (hg : w.heap[g]? = some (.cells cur.toArray 33 (0, 0))) (hcur : cur.length = n * 2) (S : Nat → ByteArray) (I : Nat → Int) (hK : KP w sp n S I)
    (h : ∀ w', w'.heap[g]? = some (.cells (kpL S I n).toArray 33 (0, 0)) → w.grownBy w' (some g) → w'.heap.size = w.heap.size → wpList Ybaf.prog ops Q rest (a.put o.dst (goInt n)) w') :
    wpList Ybaf.prog ops Q (o :: rest) a w := by
  refine wpList_plain hgd fun K hK' => ?_
  obtain ⟨i0, hi, hz0, hz1, hz2⟩ := info_parts info33
  by_cases h0 : 0 < n
  · obtain ⟨b, off, rfl, hc⟩ := hK h0
    have hf := run_firstCells_some (P := Ybaf.prog) w 2 n ⟨b, off, none⟩ n sc (kpL S I n) (kpL_len S I n) (kpL_cells hc)
    have hst := run_storeCells_at Ybaf.prog g 0 33 (kpL S I n) 0 cur.toArray w hg (by simp [kpL_len, hcur]) (kpL_one S I n)
    have hr : (Builtin.copy_ #[22, 22] o.type #[.slice (some ⟨g, 0, none⟩) n dc, .slice (some ⟨b, off, none⟩) n sc]).run Ybaf.prog w = .ok (goInt n) (w.setRow g (kpL S I n).toArray) := by
      have hst' : (storeCells ⟨g, 0, none⟩ (kpL S I n)).run Ybaf.prog w = .ok () (w.setRow g (kpL S I n).toArray) := by
        rw [hst]
        have e : cur.drop (n * 2) = [] := List.drop_eq_nil_of_le (by omega)
        simp [kpL_len, e]
      simp [Builtin.copy_, run_underlying Ybaf.underlying22, Builtin.lenOf, sizeOf, typeInfo, hi, hz1, hf, hst']
    unfold Oper.wp execOp
    simp only [ho, resolve, invoke, builtin, Sem.run_bind, Sem.run_pure, Result.andThen_ok, List.map_toArray, List.map_cons, List.map_nil, hd, hs, hr]
    exact hK' _ _ (h _ (setRow_heap w g _ _ 33 _ hg) ⟨rfl, rfl, rfl, by simp, fun k _ hk => setRow_other w g k _ (fun e => hk (by rw [e]))⟩ (by simp))
  · obtain rfl : n = 0 := by omega
    have hr : (Builtin.copy_ #[22, 22] o.type #[.slice (some ⟨g, 0, none⟩) 0 dc, .slice sp 0 sc]).run Ybaf.prog w = .ok (goInt 0) w := by
      cases sp with
      | none => simp [Builtin.copy_, run_underlying Ybaf.underlying22, Builtin.lenOf, Builtin.firstCells, sizeOf, typeInfo, hi, storeCells]
      | some ad =>
        have hl := run_loadCells_list (P := Ybaf.prog) w ad [] (by simp)
        simp only [List.length_nil] at hl
        simp [Builtin.copy_, run_underlying Ybaf.underlying22, Builtin.lenOf, Builtin.firstCells, sizeOf, typeInfo, hi, storeCells, hl]
    unfold Oper.wp execOp
    simp only [ho, resolve, invoke, builtin, Sem.run_bind, Sem.run_pure, Result.andThen_ok, List.map_toArray, List.map_cons, List.map_nil, hd, hs, hr]
    have e : cur = [] := List.eq_nil_of_length_eq_zero (by omega)
    subst e
    exact hK' _ _ (h w hg (World.grownBy.refl _ _) rfl)

/-! ### Columns -/
def zCol : List Value := [.string ⟨#[]⟩, .int .u8 0, .bool false, .int .i64 0, .int .i64 0, .int .i64 0, .int .i64 0, .bool false, .bool false, .pointer none, .bool false, .bool false]
theorem info31 : (Ybaf.prog.info? 31).map (fun i => (i.zero, i.size, i.bytes)) = some (some (.agg #[.string ⟨#[]⟩, .int .u8 0, .bool false, .int .i64 0, .int .i64 0, .int .i64 0, .int .i64 0, .bool false, .bool false, .pointer none, .bool false, .bool false]), 12, 80) := by kernel_rfl
def zc (n : Nat) : Array Value := madeCells zCol.toArray (n * 12)
theorem run_make25 (n : Nat) (hn : n ≤ 1048576) (w : World) : (Instr.makeSlice 25 (.int .i64 (n : Int)) (.int .i64 (n : Int))).run Ybaf.prog w = .ok (.slice (some ⟨w.heap.size, 0, none⟩) n n) (w.alloc (.cells (zc n) 31)) := by
  obtain ⟨i0, hi, hz0, hz1, hz2⟩ := info_parts info31
  have hr := run_make (P := Ybaf.prog) w 25 31 i0 _ Ybaf.underlying25 hi hz0 .i64 .i64 n n (by omega) (Int.le_refl _) (by rw [hz2]; omega) (by omega)
  rw [hr]
  simp [zc, zCol, hz1, Value.cells]

/-- The first k columns bear their names. -/
def Col (C : List Value) (N : Nat → ByteArray) (n k : Nat) : Prop :=
  C.length = n * 12 ∧ ∀ i, i < n → ∀ f, f < 12 → C[i * 12 + f]? = if f = 0 ∧ i < k then some (.string (N i)) else zCol[f]?

theorem col_start (N : Nat → ByteArray) (n : Nat) : Col (zc n).toList N n 0 := by
  refine ⟨by simp [zc, size_madeCells], fun i hi f hf => ?_⟩
  rw [if_neg (by omega)]
  have h1 : i * 12 + f < n * 12 := by omega
  have h2 : (i * 12 + f) % 12 = f := by omega
  simp only [zc, madeCells, Array.toList_map, Array.toList_range, List.getElem?_map]
  rw [List.getElem?_range h1]
  simp only [Option.map_some, List.size_toArray]
  have h3 : zCol.length = 12 := rfl
  rw [h3, h2]
  have h4 : f < zCol.length := by omega
  simp [h4]

theorem col_step {C : List Value} {N : Nat → ByteArray} {n k : Nat} (h : Col C N n k) (hk : k < n) : Col (C.set (k * 12) (.string (N k))) N n (k + 1) := by
  obtain ⟨hl, hg⟩ := h
  refine ⟨by simpa using hl, fun i hi f hf => ?_⟩
  by_cases e : i = k ∧ f = 0
  · obtain ⟨rfl, rfl⟩ := e
    rw [if_pos (by omega), Nat.add_zero, List.getElem?_set_self (by omega)]
  · rw [List.getElem?_set_ne (by omega), hg i hi f hf]
    by_cases e2 : f = 0 ∧ i < k
    · rw [if_pos e2, if_pos (by omega)]
    · rw [if_neg e2, if_neg (by omega)]

/-- The twelve cells of column i. -/
theorem col_cells {w : World} {A n i : Nat} {C : List Value} {N : Nat → ByteArray} (hA : w.heap[A]? = some (.cells C.toArray 31 (0, 0))) (h : Col C N n n) (hi : i < n) :
    w.cell? ⟨A, i * 12, none⟩ = some (.string (N i)) ∧ w.cell? ⟨A, i * 12 + 1, none⟩ = some (.int .u8 0) ∧ w.cell? ⟨A, i * 12 + 2, none⟩ = some (.bool false) ∧ w.cell? ⟨A, i * 12 + 3, none⟩ = some (.int .i64 0) ∧
    w.cell? ⟨A, i * 12 + 4, none⟩ = some (.int .i64 0) ∧ w.cell? ⟨A, i * 12 + 5, none⟩ = some (.int .i64 0) ∧ w.cell? ⟨A, i * 12 + 6, none⟩ = some (.int .i64 0) ∧ w.cell? ⟨A, i * 12 + 7, none⟩ = some (.bool false) ∧
    w.cell? ⟨A, i * 12 + 8, none⟩ = some (.bool false) ∧ w.cell? ⟨A, i * 12 + 9, none⟩ = some (.pointer none) ∧ w.cell? ⟨A, i * 12 + 10, none⟩ = some (.bool false) ∧ w.cell? ⟨A, i * 12 + 11, none⟩ = some (.bool false) := by
  have hc : ∀ f, f < 12 → w.cell? ⟨A, i * 12 + f, none⟩ = if f = 0 ∧ i < n then some (.string (N i)) else zCol[f]? := fun f hf => by
    rw [cell_of_row w A _ _ _ _ hA, ← h.2 i hi f hf]; simp
  refine ⟨?_, hc 1 (by omega), hc 2 (by omega), hc 3 (by omega), hc 4 (by omega), hc 5 (by omega), hc 6 (by omega), hc 7 (by omega), hc 8 (by omega), hc 9 (by omega), hc 10 (by omega), hc 11 (by omega)⟩
  have := hc 0 (by omega)
  rw [if_pos ⟨rfl, hi⟩] at this
  exact this

end Go.Proofs.YbulkdxawFmt
