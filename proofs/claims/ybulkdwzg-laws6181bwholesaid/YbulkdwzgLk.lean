/-
  LawS6181BWhole: copy of a row of pairs.
-/
import Derived.Test.YbulkdwzgLb
import Derived.Laws.CopyRow
namespace Go.Proofs.Ybulkdwzg.lawB
open Go.RowKit

theorem add0 (b j : Nat) : (⟨b, 0, none⟩ : Addr).add j = ⟨b, j, none⟩ := by unfold Addr.add; split <;> simp_all
theorem copy2 (w : World) (g s n c c' : Nat) (ty : TypeId) (f : Nat → Value) (A B : Nat → Int) (hg : RW w g 57 f (n * 2)) (hs : R2 w s 57 (fun k => .int .i64 (A k)) (fun k => .int .i64 (B k)) n) :
    (Builtin.copy_ #[53, 53] ty #[.slice (some ⟨g, 0, none⟩) n c, .slice (some ⟨s, 0, none⟩) n c']).run Yba.prog w = .ok (goInt n) (w.setRow g (rowL (p2 (fun k => .int .i64 (A k)) (fun k => .int .i64 (B k))) (n * 2)).toArray) := by
  have hl := run_loadCells_list (P := Yba.prog) w ⟨s, 0, none⟩ (rowL (p2 (fun k => .int .i64 (A k)) (fun k => .int .i64 (B k))) (n * 2)) (fun j v hj => by
    rw [add0, cell_of_row _ _ _ _ _ _ hs]
    simpa using hj)
  have hst := run_storeCells_at Yba.prog g 0 57 (rowL (p2 (fun k => .int .i64 (A k)) (fun k => .int .i64 (B k))) (n * 2)) 0 (rowL f (n * 2)).toArray w hg (by simp [rowL_len]) (by
    intro v hv
    simp only [rowL, List.mem_map] at hv
    obtain ⟨j, _, rfl⟩ := hv
    unfold p2
    split <;> rfl)
  rw [rowL_len] at hl
  obtain ⟨i, hi, _, hz, _⟩ := info_parts info57
  simp only [List.take_zero, Nat.add_zero, List.nil_append, Nat.zero_add, rowL_len] at hst
  rw [List.drop_eq_nil_of_le (by simp [rowL_len]), List.append_nil] at hst
  simp [Builtin.copy_, run_underlying Yba.underlying53, Builtin.lenOf, Builtin.firstCells, sizeOf, typeInfo, hi, hz, hl, hst]

theorem out_setRow (w : World) (g : Nat) (cs : Array Value) : Out (fun k => k = g) w (w.setRow g cs) := ⟨rfl, rfl, rfl, by simp [World.setRow], fun k _ hk => setRow_other w g k cs hk⟩

open Go.Sort in
/-- The sorted pairs are one row. -/
theorem srt_uniq {P T : Nat → Pr} {n : Nat} (h : Srt P T n) (d : Array Pr) (hp : PermIn 0 n ((List.range n).map P).toArray d) (hso : SortedIn lt 0 n d) : ∀ k, k < n → d[k]! = T k := by
  have hn : ((List.range n).map P).toArray.size = n := by simp
  have hanti : ∀ x y : Pr, lt x y = false → lt y x = false → x = y := fun x y h1 h2 => by
    rw [lt_not] at h1 h2
    exact Prod.ext (by omega) (by omega)
  have hu : SWO lt := swo_lt (fun p : Pr => p)
  have e1 := sorted_unique_holds (lt := lt) hu hanti ((List.range n).map P).toArray d (by rw [hn]; exact hp) (by rw [hn]; exact hso)
  have hT : (((List.range n).map T).toArray).size = n := by simp
  have hat : ∀ k, k < n → ((List.range n).map T).toArray[k]! = T k := fun k hk => by
    rw [getElem!_pos _ k (by simpa using hk)]; simp
  have e2 := sorted_unique_holds (lt := lt) hu hanti ((List.range n).map P).toArray ((List.range n).map T).toArray
    ⟨by simp, fun i hi => by
        have : n ≤ i := by rw [hn] at hi; omega
        rw [getElem!_neg _ i (by simp; omega), getElem!_neg _ i (by simp; omega)], by
      rw [hn, extract_all _ n hT, extract_all _ n hn]; exact h.1⟩
    (fun i j _ hij hj => by rw [hn] at hj; rw [hat i (by omega), hat j hj]; exact h.2 i j hij hj)
  have e3 : d = ((List.range n).map T).toArray := Array.ext' (e1.trans e2.symm)
  intro k hk
  rw [e3]; exact hat k hk

end Go.Proofs.Ybulkdwzg.lawB
