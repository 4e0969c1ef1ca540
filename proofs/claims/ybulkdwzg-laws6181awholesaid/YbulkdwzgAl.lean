/-
  LawS6181AWhole (3): what is given, what the row of attributes holds.
-/
import Derived.Test.YbulkdwzgAx
import Derived.Test.YbulkdwzgAe
import Derived.Deep.OwnRows
import Derived.Laws.CopyOwn
namespace Go.Proofs.Ybulkdwzg
open Go.RowKit Go.Maps Go.WideMaps Go.WideElems

/-- One attribute's plain data, as it lies in memory. -/
structure El where
  s : ByteArray
  v : ByteArray
  ab : Bool
  mark : Int
  fi : Int
  wa : Option Addr
  wl : Nat
  wc : Nat
  zs : List Int

def El.cells (x : El) : List Value := [.string x.s, .string x.v, .bool x.ab, .int .u32 x.mark, .int .i64 x.fi, .slice x.wa x.wl x.wc]
theorem El.cells_one (x : El) : ∀ u ∈ x.cells, u.oneCell' = true := by
  intro u hu; simp [El.cells] at hu
  rcases hu with rfl | rfl | rfl | rfl | rfl | rfl <;> rfl

/-- The writes of an element lie in memory. -/
def WOK (w : World) (x : El) : Prop :=
  (x.wa = none ∧ x.wl = 0 ∧ x.wc = 0) ∨ ∃ ad, x.wa = some ad ∧ x.zs.length = x.wl ∧ x.wl * 8 ≤ 140737488355328 ∧ ∀ j v, (x.zs.map (Value.int .i64))[j]? = some v → w.cell? (ad.add j) = some v

/-- The input. -/
def Inp (w : World) (b off n : Nat) (X : Nat → El) : Prop :=
  ∀ i, i < n → (∀ f v, (X i).cells[f]? = some v → w.cell? ⟨b, off + i * 6 + f, none⟩ = some v) ∧ (X i).s.size ≤ 140737488355000 ∧ WOK w (X i)

/-- v is a copy of x's writes, in a block from B on. -/
def CL (w : World) (B : Nat) (x : El) (v : Value) : Prop :=
  (x.wa = none ∧ v = .slice none 0 0) ∨ ∃ ad g c, x.wa = some ad ∧ v = .slice (some ⟨g, 0, none⟩) x.wl c ∧ B ≤ g ∧ g < w.heap.size ∧ ∀ j, j < x.wl → w.cell? ⟨g, j, none⟩ = some (.int .i64 (x.zs.getD j 0))

theorem CL.one {w : World} {B : Nat} {x : El} {v : Value} (h : CL w B x v) : v.oneCell' = true := by
  rcases h with ⟨_, rfl⟩ | ⟨ad, g, c, _, rfl, _⟩ <;> rfl

theorem CL.stays {w w' : World} {B : Nat} {x : El} {v : Value} (h : CL w B x v) (hs : w.heap.size ≤ w'.heap.size) (hb : ∀ g, B ≤ g → g < w.heap.size → w'.heap[g]? = w.heap[g]?) : CL w' B x v := by
  rcases h with h | ⟨ad, g, c, h1, h2, h3, h4, h5⟩
  · exact .inl h
  · refine .inr ⟨ad, g, c, h1, h2, h3, by omega, fun j hj => ?_⟩
    rw [← h5 j hj]
    exact World.cell?_of_block (hb g h3 h4)

/-- The attribute that the law makes of x at index i. -/
def outC (x : El) (i : Nat) (v : Value) : List Value := [.string (nameB x.s i), .string x.v, .bool x.ab, .int .u32 x.mark, .int .i64 x.fi, v]
theorem outC_len (x : El) (i : Nat) (v : Value) : (outC x i v).length = 6 := rfl

/-- The row's first k attributes are made. -/
def Row (C : List Value) (X : Nat → El) (Wv : Nat → Value) (n k : Nat) : Prop :=
  C.length = n * 6 ∧ (∀ u ∈ C, u.oneCell' = true) ∧ ∀ i, i < k → ∀ f, f < 6 → C[i * 6 + f]? = (outC (X i) i (Wv i))[f]?

theorem row_step {C : List Value} {X : Nat → El} {Wv : Nat → Value} {n k : Nat} (h : Row C X Wv n k) (hk : k < n) (v : Value) (hv : v.oneCell' = true) :
    Row (C.take (k * 6) ++ (outC (X k) k v ++ C.drop (k * 6 + 6))) X (fun i => if i = k then v else Wv i) n (k + 1) := by
  obtain ⟨hl, h1, hg⟩ := h
  refine ⟨by simp only [List.length_append, List.length_take, List.length_drop, outC_len, hl]; omega, ?_, ?_⟩
  · intro u hu
    simp only [List.mem_append] at hu
    rcases hu with hu | hu | hu
    · exact h1 u (List.mem_of_mem_take hu)
    · simp [outC] at hu
      rcases hu with rfl | rfl | rfl | rfl | rfl | rfl <;> first | rfl | exact hv
    · exact h1 u (List.mem_of_mem_drop hu)
  · intro i hi f hf
    by_cases e : i = k
    · subst e
      rw [List.getElem?_append_right (by rw [List.length_take, hl]; omega), List.getElem?_append_left (by rw [List.length_take, hl, outC_len]; omega), List.length_take, hl]
      have e2 : i * 6 + f - min (i * 6) (n * 6) = f := by omega
      rw [e2]
      simp
    · rw [List.getElem?_append_left (by rw [List.length_take, hl]; omega), List.getElem?_take, if_pos (by omega), hg i (by omega) f hf]
      simp [e]

theorem info32z : (Yba.prog.info? 32).map (fun i => (i.zero, i.size, i.bytes)) = some (some (.agg #[.string ⟨#[]⟩, .string ⟨#[]⟩, .bool false, .int .u32 0, .int .i64 0, .slice none 0 0]), 6, 72) := info32

/-- 'make([]attr, n)'. -/
def zeros (n : Nat) : Array Value := madeCells #[.string ⟨#[]⟩, .string ⟨#[]⟩, .bool false, .int .u32 0, .int .i64 0, .slice none 0 0] (n * 6)
theorem run_make24 (n : Nat) (hn : n ≤ 4096) (w : World) : (Instr.makeSlice 24 (.int .i64 (n : Int)) (.int .i64 (n : Int))).run Yba.prog w = .ok (.slice (some ⟨w.heap.size, 0, none⟩) n n) (w.alloc (.cells (zeros n) 32)) := by
  obtain ⟨i0, hi, hz0, hz1, hz2⟩ := info_parts info32
  have hr := run_make (P := Yba.prog) w 24 32 i0 _ Yba.underlying24 hi hz0 .i64 .i64 n n (by omega) (Int.le_refl _) (by rw [hz2]; omega) (by omega)
  rw [hr]
  simp [zeros, hz1, Value.cells]
theorem zeros_row (X : Nat → El) (n : Nat) : Row (zeros n).toList X (fun _ => .slice none 0 0) n 0 := by
  refine ⟨by simp [zeros, size_madeCells], fun u hu => ?_, fun i hi => by omega⟩
  simp [zeros, madeCells] at hu
  obtain ⟨a, ha, rfl⟩ := hu
  have : a % 6 < 6 := Nat.mod_lt _ (by omega)
  match h : a % 6, this with
  | 0, _ | 1, _ | 2, _ | 3, _ | 4, _ | 5, _ => rfl

theorem heap_setCells (b : Nat) (t : TypeId) : ∀ (vs : List Value) (o : Nat) (C : List Value) (w : World), w.heap[b]? = some (.cells C.toArray t (0, 0)) → o + vs.length ≤ C.length →
    (w.setCells b o vs).heap[b]? = some (.cells (C.take o ++ (vs ++ C.drop (o + vs.length))).toArray t (0, 0)) ∧ w.grownBy (w.setCells b o vs) (some b) ∧ (w.setCells b o vs).heap.size = w.heap.size
  | [], o, C, w, hg, _ => by
    refine ⟨by simpa [World.setCells] using hg, World.grownBy.refl _ _, rfl⟩
  | v :: r, o, C, w, hg, hl => by
    have hl' : o + 1 + r.length ≤ C.length := by simp at hl; omega
    have h1 := heap_setCell_same w b o _ t v hg
    have h2 : (w.setCell ⟨b, o, none⟩ v).heap[b]? = some (.cells (C.set o v).toArray t (0, 0)) := by rw [h1]; simp
    obtain ⟨i1, i2, i3⟩ := heap_setCells b t r (o + 1) (C.set o v) (w.setCell ⟨b, o, none⟩ v) h2 (by simpa using hl')
    have g1 : w.grownBy (w.setCell ⟨b, o, none⟩ v) (some b) := ⟨rfl, rfl, rfl, by simp [World.setCell], fun k _ hk => heap_setCell_other _ _ _ _ (fun e => hk (by rw [e]))⟩
    refine ⟨?_, g1.trans i2, by show ((w.setCell ⟨b, o, none⟩ v).setCells b (o + 1) r).heap.size = _; rw [i3]; simp [World.setCell]⟩
    show ((w.setCell ⟨b, o, none⟩ v).setCells b (o + 1) r).heap[b]? = _
    rw [i1]
    congr 3
    have ho : o < C.length := by omega
    have e1 : (C.set o v).take (o + 1) = C.take o ++ [v] := by
      rw [List.set_eq_take_append_cons_drop, if_pos ho, List.take_append]
      simp [Nat.min_eq_left (Nat.le_of_lt ho)]
      rw [List.take_take]; congr 1; omega
    have e2 : (C.set o v).drop (o + 1 + r.length) = C.drop (o + (r.length + 1)) := by
      rw [List.drop_set_of_lt (by omega)]; congr 1; omega
    rw [e1, e2]
    simp

theorem clone_any (x : El) (w : World) (hW : WOK w x) : Calls Yba.prog 7 #[.slice x.wa x.wl x.wc] w fun e w' => ∃ a l c, e = .returned (.slice a l c) ∧ CL w' w.heap.size x (.slice a l c) ∧ Below w.heap.size w w' := by
  rcases hW with ⟨h1, h2, h3⟩ | ⟨ad, h1, h2, h3, h4⟩
  · rw [h1, h2, h3]
    refine (clone_nil w).mono ?_
    rintro e w' ⟨rfl, rfl⟩
    exact ⟨_, _, _, rfl, .inl ⟨h1, rfl⟩, Below.refl _ _⟩
  · rw [h1]
    refine (clone_some ad x.wl x.wc (x.zs.map (Value.int .i64)) w (by simpa using h2) (by intro v hv; simp at hv; obtain ⟨z, _, rfl⟩ := hv; rfl) h4 h3).mono ?_
    rintro e w' ⟨g, c, rfl, hg, hown, hb⟩
    refine ⟨_, _, _, rfl, .inr ⟨ad, g, c, h1, rfl, hg, (hown.lt g rfl).2, fun j hj => ?_⟩, hb⟩
    rw [hown.cellAt j (by omega)]
    have : j < x.zs.length := by omega
    simp [this]

end Go.Proofs.Ybulkdwzg
