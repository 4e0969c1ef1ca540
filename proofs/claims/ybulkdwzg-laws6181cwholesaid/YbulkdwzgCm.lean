/-
  WALK of zzs6181cmodel (16): 'nsc' again, by the table.
-/
import Derived.Test.YbulkdwzgCx
import Derived.Test.YbulkdwzgCn
namespace Go.Proofs.Ybulkdwzg
open Go.RowKit

theorem store_gen {P : Program} {ops : Array Oper} {rest : List Oper} {o : Oper} {a : Act} {w : World} {Q : Exit → Act → World → Prop} (hgd : o.guard = none) (ty : TypeId) (x y : Operand) (ho : o.op = .store ty x y)
    (g : Nat) (cells : Array Value) (hx : a.eval x = .pointer (some ⟨g, 0, none⟩)) (hy : a.eval y = .agg cells)
    (t : TypeId) (old : Array Value) (hg : w.heap[g]? = some (.cells old t (0, 0))) (hi : (P.info? ty).map (·.size) = some cells.size)
    (hold : old.size = cells.size) (h1 : cells.all (·.oneCell') = true) (B : Nat) (w0 : World) (hb : Below B w0 w) (hB : B ≤ g)
    (h : ∀ w', w'.heap[g]? = some (.cells cells t (0, 0)) → Below B w0 w' → wpList P ops Q rest (a.put o.dst undef) w') : wpList P ops Q (o :: rest) a w :=
  wpList_store_row hgd ty x y ho g cells hx hy t old hg hi hold h1 (h _ (setRow_heap _ _ _ _ _ _ hg) (below_setRow hb hB _))

def lo (k : Nat) : Int := tblL.getD (k * 2) 0
def hi (k : Nat) : Int := tblL.getD (k * 2 + 1) 0
theorem tbl_at (w : World) (g : Nat) (hg : w.heap[g]? = some (.cells tblA 66 (0, 0))) (k : Nat) (hk : k < 16) :
    w.cell? ⟨g, k * 2, none⟩ = some (.int .i32 (lo k)) ∧ w.cell? ⟨g, k * 2 + 1, none⟩ = some (.int .i32 (hi k)) := by
  rw [cell_of_row w g _ _ _ _ hg, cell_of_row w g _ _ _ _ hg]
  match k with
  | 0 | 1 | 2 | 3 | 4 | 5 | 6 | 7 | 8 | 9 | 10 | 11 | 12 | 13 | 14 | 15 => exact ⟨rfl, rfl⟩
  | n + 16 => exact absurd hk (by omega)

theorem nsc_hit (r : Int) (k : Nat) (hk : k < 16) (h1 : lo k ≤ r) (h2 : r ≤ hi k) : nsc r = true := by
  refine nsc_t ?_
  match k with
  | 0 | 1 | 2 | 3 | 4 | 5 | 6 | 7 | 8 | 9 | 10 | 11 | 12 | 13 | 14 | 15 => simp [lo, hi, tblL] at h1 h2; omega
  | n + 16 => exact absurd hk (by omega)

theorem nsc_miss (r : Int) (h : ∀ j, j < 16 → ¬ (lo j ≤ r ∧ r ≤ hi j)) : nsc r = false := by
  refine nsc_f ?_
  have a0 := h 0 (by omega); have a1 := h 1 (by omega); have a2 := h 2 (by omega); have a3 := h 3 (by omega)
  have a4 := h 4 (by omega); have a5 := h 5 (by omega); have a6 := h 6 (by omega); have a7 := h 7 (by omega)
  have a8 := h 8 (by omega); have a9 := h 9 (by omega); have a10 := h 10 (by omega); have a11 := h 11 (by omega)
  have a12 := h 12 (by omega); have a13 := h 13 (by omega); have a14 := h 14 (by omega); have a15 := h 15 (by omega)
  simp only [lo, hi, tblL, List.getD_eq_getElem?_getD] at a0 a1 a2 a3 a4 a5 a6 a7 a8 a9 a10 a11 a12 a13 a14 a15
  simp at a0 a1 a2 a3 a4 a5 a6 a7 a8 a9 a10 a11 a12 a13 a14 a15
  omega

set_option maxRecDepth 100000 in
set_option maxHeartbeats 1000000 in
theorem model_any (r : Int) (w : World) : Calls Yba.prog 16 #[.int .i32 r] w fun e w' => e = .returned (.bool (nsc r)) ∧ Below w.heap.size w w' := by
  go_enter Yba.func16, Yba.ntmps16
  go_wp2_with fail
  refine (ranges_any w).mono ?_
  rintro e w1 ⟨rfl, hb⟩
  go_wp2_with (first | (refine store_gen rfl 66 _ _ rfl w1.heap.size tblA rfl rfl 66 zeroA (by exact heap_alloc_new w1 _) isz66' zero_tbl tbl_one w.heap.size w (by exact hb.alloc hb.size _) hb.size ?_; intro w2 hg2 hb2))
  go_loop [4] (fun i => ∃ k : Nat, k ≤ 16 ∧ i = .int .i64 k ∧ Hid (∀ j, j < k → ¬ (lo j ≤ r ∧ r ≤ hi j))) (fun i => 16 - (intOf i).toNat)
  case atStart => exact ⟨0, by omega, rfl, fun j hj => by omega⟩
  case round =>
    obtain ⟨k, hk, rfl, HM⟩ := hrel
    by_cases hlt : k < 16
    · obtain ⟨c1, c2⟩ := tbl_at w2 _ hg2 k hlt
      have hI : (k : Int) < 16 := by omega
      obtain ⟨L, hL⟩ : ∃ L, L = lo k := ⟨_, rfl⟩
      obtain ⟨U, hU⟩ : ∃ U, U = hi k := ⟨_, rfl⟩
      rw [← hL] at c1
      rw [← hU] at c2
      have HL : Hid (L = lo k) := hL
      have HU : Hid (U = hi k) := hU
      clear hL hU hg2
      by_cases q1 : L ≤ r
      · by_cases q2 : r ≤ U
        · have q3 := nsc_hit r k hlt (HL.out ▸ q1) (HU.out ▸ q2)
          have Q3 : Hid (nsc r = true) := q3
          clear q3
          go_wp2
          go_ret
          exact ⟨ret_b Q3.out.symm, hb2⟩
        · have HN : Hid (∀ j, j < k + 1 → ¬ (lo j ≤ r ∧ r ≤ hi j)) := fun j hj => by
            by_cases e : j = k
            · subst e; rw [← HL.out, ← HU.out]; omega
            · exact HM.out j (by omega)
          go_wp2
          go_round
          case rel => exact ⟨k + 1, by omega, by go_num, HN⟩
          case measure => simp [intOf]; omega
      · have HN : Hid (∀ j, j < k + 1 → ¬ (lo j ≤ r ∧ r ≤ hi j)) := fun j hj => by
          by_cases e : j = k
          · subst e; rw [← HL.out, ← HU.out]; omega
          · exact HM.out j (by omega)
        go_wp2
        go_round
        case rel => exact ⟨k + 1, by omega, by go_num, HN⟩
        case measure => simp [intOf]; omega
    · have e : k = 16 := by omega
      subst e
      have Q3 : Hid (nsc r = false) := nsc_miss r HM.out
      go_wp2
      go_ret
      exact ⟨ret_b Q3.out.symm, hb2⟩
end Go.Proofs.Ybulkdwzg
