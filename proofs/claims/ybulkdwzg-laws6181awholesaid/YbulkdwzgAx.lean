/-
  WALK of (*Node).deleteAttr (8).
-/
import Derived.Test.YbulkdwzgAi
import Derived.Test.YbulkdwzgAd
namespace Go.Proofs.Ybulkdwzg
open Go.RowKit Go.Maps Go.WideMaps Go.WideElems

theorem delete_any (A n j : Nat) (C : List Value) (w : World) (hj : j < n) (hn : n ≤ 4096) (hC : C.length = n * 6) (h1 : ∀ u ∈ C, u.oneCell' = true) (hA : w.heap[A]? = some (.cells C.toArray 32 (0, 0))) :
    Calls Yba.prog 18 #[.slice (some ⟨A, 0, none⟩) n n, .int .i64 j, .int .i64 ((j : Int) + 1)] w fun e w' => e = .returned (.slice (some ⟨A, 0, none⟩) (n - 1) n) ∧
      w'.heap[A]? = some (.cells (C.take (j * 6) ++ C.drop (j * 6 + 6) ++ zeroAttr).toArray 32 (0, 0)) ∧ w.grownBy w' (some A) ∧ w'.heap.size = w.heap.size := by
  by_cases h : j + 1 < n
  · exact delete_mid A n j C w h hn hC h1 hA
  · obtain rfl : n = j + 1 := by omega
    exact delete_end A j C w hn hC hA

/-- The row behind the deletion. -/
def delRow (C : List Value) (j : Nat) : List Value := C.take (j * 6) ++ C.drop (j * 6 + 6) ++ zeroAttr
theorem delRow_get (C : List Value) (n j k f : Nat) (hC : C.length = n * 6) (hj : j < n) (hk : k < n - 1) (hf : f < 6) : (delRow C j)[k * 6 + f]? = C[(if k < j then k else k + 1) * 6 + f]? := by
  unfold delRow
  rw [List.append_assoc]
  by_cases h : k < j
  · rw [if_pos h, List.getElem?_append_left (by rw [List.length_take, hC]; omega), List.getElem?_take, if_pos (by omega)]
  · rw [if_neg h, List.getElem?_append_right (by rw [List.length_take, hC]; omega), List.getElem?_append_left (by rw [List.length_take, List.length_drop, hC]; omega), List.getElem?_drop, List.length_take, hC]
    congr 1
    omega

theorem step_delete {ops : Array Oper} {o : Oper} {a : Act} {w : World} {K : Act → World → Prop} {Q : Exit → Act → World → Prop} {E : Prop} (hgd : o.guard = none) (m x : Operand)
    (ho : o.op = .call { callee := .builtin .delete, args := #[m, x], argTypes := #[33, 9] }) (M cnt : Nat) (D : DataW Unit) (hm : a.eval m = .map (some M)) (s : ByteArray) (hx : a.eval x = .string s) (hs : s.size ≤ maxLen) (hM : MI w M cnt D)
    (h : ∀ w', MI w' M cnt (D.del (key s)) → w.grownBy w' (some M) → w'.heap.size = w.heap.size → K (a.put o.dst (.tuple #[])) w') :
    if Region.wanted o (yielded ops a.tmps) = true then Oper.wp Yba.prog o a w K Q else E := by
  have hw : Region.wanted o (yielded ops a.tmps) = true := by simp [Region.wanted, hgd]
  rw [if_pos hw]
  obtain ⟨w', hr, hM', ht⟩ := World.ownsMap.drop hM law9 Yba.underlying33 (key_of s hs) o.type
  unfold Oper.wp execOp
  simp only [ho, resolve, invoke, builtin, Sem.run_bind, Sem.run_pure, Result.andThen_ok, List.map_toArray, List.map_cons, List.map_nil, hm, hx, hr]
  refine h w' hM' ht.grown ?_
  obtain ⟨es, clock, es', clock', hb, rfl⟩ := ht
  simp [Go.ChangeMaps.setBlock]

def src (j k : Nat) : Nat := if k < j then k else k + 1

theorem src_lt {n j k : Nat} (hk : k < n - 1) : src j k < n := by unfold src; split <;> omega
theorem src_ne (j k : Nat) : src j k ≠ j := by unfold src; split <;> omega
theorem src_inj {j k l : Nat} (h : src j k = src j l) : k = l := by unfold src at h; split at h <;> split at h <;> omega

/-- What the index holds behind deleteAttr. -/
theorem del_index (n j : Nat) (D0 D : DataW Unit) (G : Nat → ByteArray) (hj : j < n) (ht : Tidy D0) (hinj : ∀ k l, k < n → l < n → G k = G l → k = l) (hall : ∀ k, k < n → Maps.has D0 (key (G k)) = true ∧ D0.atKey (key (G k)) z0 = iv k) (hsz : Maps.size D0 = n)
    (h : Ix (D0.del (key (G j))) D (fun k => G (src j k)) j (n - 1)) : Maps.size D = n - 1 ∧ ∀ k, k < n - 1 → Maps.has D (key (G (src j k))) = true ∧ D.atKey (key (G (src j k))) z0 = iv k := by
  obtain ⟨hs, hin, hout⟩ := h
  have hd := size_del (k := key (G j)) ht
  rw [if_pos (hall j hj).1] at hd
  refine ⟨by omega, fun k hk => ?_⟩
  by_cases hjk : j ≤ k
  · exact hin k hjk hk
  · have hne : ∀ l, j ≤ l → l < n - 1 → key (G (src j k)) ≠ key (G (src j l)) := fun l h1 h2 e => by
      have := src_inj (hinj _ _ (src_lt hk) (src_lt h2) (key_inj e))
      omega
    have hnj : key (G (src j k)) ≠ key (G j) := fun e => src_ne j k (hinj _ _ (src_lt hk) hj (key_inj e))
    rw [(hout _ hne).1, (hout _ hne).2, has_del_other hnj, atKey_del_other hnj]
    have e : src j k = k := by unfold src; rw [if_pos (by omega)]
    rw [e]
    exact hall k (by omega)

theorem del_has (n j : Nat) (D0 : DataW Unit) (G : Nat → ByteArray) (hj : j < n) (hinj : ∀ k l, k < n → l < n → G k = G l → k = l) (hall : ∀ k, k < n → Maps.has D0 (key (G k)) = true ∧ D0.atKey (key (G k)) z0 = iv k) (k : Nat) (hk : k < n - 1) :
    Maps.has (D0.del (key (G j))) (key (G (src j k))) = true := by
  have hnj : key (G (src j k)) ≠ key (G j) := fun e => src_ne j k (hinj _ _ (src_lt hk) hj (key_inj e))
  rw [has_del_other hnj]
  exact (hall _ (src_lt hk)).1

theorem cell_row (w : World) (b i : Nat) (N : List Value) (t : TypeId) (v : Value) (h : w.heap[b]? = some (.cells N.toArray t (0, 0))) (hv : N[i]? = some v) : w.cell? ⟨b, i, none⟩ = some v := by
  rw [cell_of_row w b i _ _ _ h]; simpa using hv

set_option maxRecDepth 100000 in
set_option maxHeartbeats 1000000 in
theorem delAttr_map (B E A M n j cnt : Nat) (N C : List Value) (D0 : DataW Unit) (G : Nat → ByteArray) (w : World)
    (hEb : w.heap[E]? = some (.cells N.toArray 46 (0, 0))) (hN13 : N[13]? = some (.slice (some ⟨A, 0, none⟩) n n)) (hN14 : N[14]? = some (.map (some M)))
    (hAb : w.heap[A]? = some (.cells C.toArray 32 (0, 0))) (hC : C.length = n * 6) (h1 : ∀ u ∈ C, u.oneCell' = true) (hG : ∀ k, k < n → C[k * 6]? = some (.string (G k))) (hGs : ∀ k, k < n → (G k).size ≤ maxLen) (hinj : ∀ k l, k < n → l < n → G k = G l → k = l)
    (hM : MI w M cnt D0) (hall : ∀ k, k < n → Maps.has D0 (key (G k)) = true ∧ D0.atKey (key (G k)) z0 = iv k) (hsz : Maps.size D0 = n) (hcnt : cnt ≤ 4096) (hn : n ≤ 4096) (hj : j < n) (hEA : E ≠ A) (hBE : B ≤ E) (hBA : B ≤ A) (hBM : B ≤ M) (hB : B ≤ w.heap.size) :
    Calls Yba.prog 8 #[.pointer (some ⟨E, 0, none⟩), .int .i64 j] w fun e w' => e = .returned (.tuple #[]) ∧ w'.heap[E]? = some (.cells (N.set 13 (.slice (some ⟨A, 0, none⟩) (n - 1) n)).toArray 46 (0, 0)) ∧ w'.heap[A]? = some (.cells (delRow C j).toArray 32 (0, 0)) ∧
      (∃ D cnt', MI w' M cnt' D ∧ Maps.size D = n - 1 ∧ ∀ k, k < n - 1 → Maps.has D (key (G (src j k))) = true ∧ D.atKey (key (G (src j k))) z0 = iv k) ∧ Below B w w' ∧ (∀ k, k < w.heap.size → k ≠ E → k ≠ A → k ≠ M → w'.heap[k]? = w.heap[k]?) := by
  have hne := nemap
  have c13 := cell_row w E 13 N 46 _ hEb hN13
  have c14 := cell_row w E 14 N 46 _ hEb hN14
  have cA := cell_row w A (j * 6) C 32 _ hAb (hG j hj)
  have nE := hM.ne c13
  have nA := hM.ne cA
  have hjI : (j : Int) < (n : Int) := by omega
  go_enter Yba.func8, Yba.ntmps8
  go_wp2
  go_region_held3 (fun w' => w'.cell? ⟨E, 13, none⟩ = some (.slice (some ⟨A, 0, none⟩) n n) ∧ w'.cell? ⟨E, 14, none⟩ = some (.map (some M)) ∧ w'.cell? ⟨A, j * 6, none⟩ = some (.string (G j))) (first | go_keep | exact ⟨hg1.cell c13 nE, hg1.cell c14 nE, hg1.cell cA nA⟩) ((refine step_delete (by rfl) (.tmp 12) (.tmp 20) (by rfl) M cnt D0 (by rfl) (G j) (by rfl) (hGs j hj) (by exact hM) ?_; intro w1 hM1 hg1 hs1))
  have hgw : w.grownBy w1 (some M) := ⟨hg1.os, hg1.tape, hg1.output, hg1.size, hg1.block⟩
  have d13 := hgw.cell c13 nE
  have d14 := hgw.cell c14 nE
  have hAb1 : w1.heap[A]? = some (.cells C.toArray 32 (0, 0)) := by
    rw [hgw.block A (World.block_lt_of_cell? _ _ cA) nA]; exact hAb
  have hEb1 : w1.heap[E]? = some (.cells N.toArray 46 (0, 0)) := by
    rw [hgw.block E (World.block_lt_of_cell? _ _ c13) nE]; exact hEb
  clear hg1 hs1 hne c13 c14
  have HEb : Hid (w1.heap[E]? = some (.cells N.toArray 46 (0, 0))) := hEb1
  have HAb : Hid (w1.heap[A]? = some (.cells C.toArray 32 (0, 0))) := hAb1
  have HEb0 : Hid (w.heap[E]? = some (.cells N.toArray 46 (0, 0))) := hEb
  have HAb0 : Hid (w.heap[A]? = some (.cells C.toArray 32 (0, 0))) := hAb
  have HN13 : Hid (N[13]? = some (.slice (some ⟨A, 0, none⟩) n n)) := hN13
  have HN14 : Hid (N[14]? = some (.map (some M))) := hN14
  have HC : Hid (C.length = n * 6) := hC
  have HG : Hid (∀ k, k < n → C[k * 6]? = some (.string (G k))) := hG
  have HS : Hid (Maps.size D0 = n) := hsz
  have HALL : Hid (∀ k, k < n → Maps.has D0 (key (G k)) = true ∧ D0.atKey (key (G k)) z0 = iv k) := hall
  clear hEb1 hAb1 hEb hAb hN13 hN14 hC hG hsz hall cA
  go_wp2_with fail
  refine (delete_any A n j C w1 hj hn HC.out h1 HAb.out).mono ?_
  rintro e w2 ⟨rfl, hA2, hg2, hs2⟩
  have HA2 : Hid (w2.heap[A]? = some (.cells (delRow C j).toArray 32 (0, 0))) := hA2
  have nEA : some E ≠ some A := by simpa using hEA
  have ltE : E < w1.heap.size := World.block_lt_of_cell? _ _ d13
  have hE2 : w2.heap[E]? = some (.cells N.toArray 46 (0, 0)) := by rw [hg2.block E ltE nEA]; exact HEb.out
  have e13 : w2.cell? ⟨E, 13, none⟩ = some (.slice (some ⟨A, 0, none⟩) n n) := hg2.cell d13 nEA
  have f13 : w2.frozen? ⟨E, 13, none⟩ = false := frozen_of_row w2 E 13 _ _ hE2
  have HE2 : Hid (w2.heap[E]? = some (.cells N.toArray 46 (0, 0))) := hE2
  clear hA2 d13 d14 hE2
  go_wp2_with fail
  have l13 : 13 < N.length := by
    rcases Nat.lt_or_ge 13 N.length with h | h
    · exact h
    · have := HN13.out; rw [List.getElem?_eq_none h] at this; cases this
  obtain ⟨w3, hw3⟩ : ∃ w3, w3 = w2.setCell ⟨E, 13, none⟩ (.slice (some ⟨A, 0, none⟩) (n - 1) n) := ⟨_, rfl⟩
  have hE3 : w3.heap[E]? = some (.cells (N.set 13 (.slice (some ⟨A, 0, none⟩) (n - 1) n)).toArray 46 (0, 0)) := by
    rw [hw3, heap_setCell_same w2 E 13 _ _ _ HE2.out]; simp
  have hA3 : w3.heap[A]? = some (.cells (delRow C j).toArray 32 (0, 0)) := by
    rw [hw3, heap_setCell_other _ _ _ _ (by simpa using Ne.symm hEA)]; exact HA2.out
  have hM3 : MI w3 M cnt (D0.del (key (G j))) := by
    rw [hw3]
    have h2 : MI w2 M cnt (D0.del (key (G j))) := World.ownsMap.kept hM1 hg2 (fun e => nA e.symm)
    exact World.ownsMap.setCell h2 (fun e => nE (by rw [e])) _
  have hs3 : w3.heap.size = w2.heap.size := by rw [hw3]; simp [World.setCell]
  have hb3 : Below B w w3 := by
    rw [hw3]
    refine Below.setCell ?_ hBE _
    refine Below.grown ?_ hg2 (by have := hgw.size; omega) (fun k hk => by cases hk; exact hBA)
    exact (Below.refl B w).grown hgw hB (fun k hk => by cases hk; exact hBM)
  rw [← hw3]
  refine (index_map E A (n - 1) n M cnt j (D0.del (key (G j))) (fun k => G (src j k)) w3 (cell_row w3 E 13 _ 46 _ hE3 (by simp [l13])) (cell_row w3 E 14 _ 46 _ hE3 (by rw [List.getElem?_set_ne (by omega)]; exact HN14.out))
    (fun k hk => cell_row w3 A (k * 6) _ 32 _ hA3 (by have := delRow_get C n j k 0 HC.out hj hk (by omega); simp only [Nat.add_zero] at this; rw [this]; exact HG.out _ (src_lt hk)))
    (fun k hk => hGs _ (src_lt hk)) (fun k l hkl hl e => by have := src_inj (hinj _ _ (src_lt (by omega)) (src_lt hl) e); omega) (fun k _ hk => del_has n j D0 G hj hinj HALL.out k hk) hM3 (by omega) (by omega) hcnt).mono ?_
  rintro e w4 ⟨rfl, D, cnt', hM4, hix, hg4⟩
  go_wp2
  go_end0
  refine ⟨rfl, ?_, ?_, ⟨D, cnt', hM4, del_index n j D0 D G hj (World.ownsMap.tidy hM law9) hinj HALL.out HS.out hix⟩, ?_, ?_⟩
  · rw [hg4.block E (by rw [hs3]; have := hg2.size; omega) nE]; exact hE3
  · rw [hg4.block A (by have := (Array.getElem?_eq_some_iff.1 hA3).1; exact this) nA]; exact hA3
  · exact hb3.grown hg4 (by have := hb3.size; omega) (fun k hk => by cases hk; exact hBM)
  · intro k hk h1 h2 h3
    have s1 := hgw.size
    have s2 := hg2.size
    rw [hg4.block k (by omega) (by simpa using h3), hw3, heap_setCell_other _ _ _ _ (by simpa using h1), hg2.block k (by omega) (by simpa using h2), hgw.block k hk (by simpa using h3)]

set_option maxRecDepth 100000 in
set_option maxHeartbeats 1000000 in
theorem delAttr_nil (B E A n j : Nat) (N C : List Value) (w : World)
    (hEb : w.heap[E]? = some (.cells N.toArray 46 (0, 0))) (hN13 : N[13]? = some (.slice (some ⟨A, 0, none⟩) n n)) (hN14 : N[14]? = some (.map none))
    (hAb : w.heap[A]? = some (.cells C.toArray 32 (0, 0))) (hC : C.length = n * 6) (h1 : ∀ u ∈ C, u.oneCell' = true)
    (hn : n ≤ 15) (hj : j < n) (hEA : E ≠ A) (hBE : B ≤ E) (hBA : B ≤ A) (hB : B ≤ w.heap.size) :
    Calls Yba.prog 8 #[.pointer (some ⟨E, 0, none⟩), .int .i64 j] w fun e w' => e = .returned (.tuple #[]) ∧ w'.heap[E]? = some (.cells (N.set 13 (.slice (some ⟨A, 0, none⟩) (n - 1) n)).toArray 46 (0, 0)) ∧ w'.heap[A]? = some (.cells (delRow C j).toArray 32 (0, 0)) ∧ Below B w w' ∧ (∀ k, k < w.heap.size → k ≠ E → k ≠ A → w'.heap[k]? = w.heap[k]?) := by
  have hne := nemap
  have c13 := cell_row w E 13 N 46 _ hEb hN13
  have c14 := cell_row w E 14 N 46 _ hEb hN14
  have HEb : Hid (w.heap[E]? = some (.cells N.toArray 46 (0, 0))) := hEb
  have HAb : Hid (w.heap[A]? = some (.cells C.toArray 32 (0, 0))) := hAb
  have HN13 : Hid (N[13]? = some (.slice (some ⟨A, 0, none⟩) n n)) := hN13
  have HN14 : Hid (N[14]? = some (.map none)) := hN14
  have HC : Hid (C.length = n * 6) := hC
  have hjI : (j : Int) < (n : Int) := by omega
  clear hEb hAb hN13 hN14 hC
  go_enter Yba.func8, Yba.ntmps8
  go_wp2_with fail
  refine (delete_any A n j C w hj (by omega) HC.out h1 HAb.out).mono ?_
  rintro e w2 ⟨rfl, hA2, hg2, hs2⟩
  have HA2 : Hid (w2.heap[A]? = some (.cells (delRow C j).toArray 32 (0, 0))) := hA2
  have nEA : some E ≠ some A := by simpa using hEA
  have ltE : E < w.heap.size := World.block_lt_of_cell? _ _ c13
  have hE2 : w2.heap[E]? = some (.cells N.toArray 46 (0, 0)) := by rw [hg2.block E ltE nEA]; exact HEb.out
  have e13 : w2.cell? ⟨E, 13, none⟩ = some (.slice (some ⟨A, 0, none⟩) n n) := hg2.cell c13 nEA
  have f13 : w2.frozen? ⟨E, 13, none⟩ = false := frozen_of_row w2 E 13 _ _ hE2
  have HE2 : Hid (w2.heap[E]? = some (.cells N.toArray 46 (0, 0))) := hE2
  clear hA2 c13 c14 hE2
  go_wp2_with fail
  have l13 : 13 < N.length := by
    rcases Nat.lt_or_ge 13 N.length with h | h
    · exact h
    · have := HN13.out; rw [List.getElem?_eq_none h] at this; cases this
  obtain ⟨w3, hw3⟩ : ∃ w3, w3 = w2.setCell ⟨E, 13, none⟩ (.slice (some ⟨A, 0, none⟩) (n - 1) n) := ⟨_, rfl⟩
  have hE3 : w3.heap[E]? = some (.cells (N.set 13 (.slice (some ⟨A, 0, none⟩) (n - 1) n)).toArray 46 (0, 0)) := by
    rw [hw3, heap_setCell_same w2 E 13 _ _ _ HE2.out]; simp
  have hA3 : w3.heap[A]? = some (.cells (delRow C j).toArray 32 (0, 0)) := by
    rw [hw3, heap_setCell_other _ _ _ _ (by simpa using Ne.symm hEA)]; exact HA2.out
  have hb3 : Below B w w3 := by
    rw [hw3]
    refine Below.setCell ?_ hBE _
    exact (Below.refl B w).grown hg2 hB (fun k hk => by cases hk; exact hBA)
  have hfr : ∀ k, k < w.heap.size → k ≠ E → k ≠ A → w3.heap[k]? = w.heap[k]? := by
    intro k hk h1 h2
    rw [hw3, heap_setCell_other _ _ _ _ (by simpa using h1), hg2.block k hk (by simpa using h2)]
  have HFR : Hid (∀ k, k < w.heap.size → k ≠ E → k ≠ A → w3.heap[k]? = w.heap[k]?) := hfr
  rw [← hw3]
  clear hw3 hfr
  refine (index_nil E (n - 1) n _ _ w3 (cell_row w3 E 13 _ 46 _ hE3 (by simp [l13]; rfl)) (cell_row w3 E 14 _ 46 _ hE3 (by rw [List.getElem?_set_ne (by omega)]; exact HN14.out)) (by omega)).mono ?_
  rintro e w4 ⟨rfl, rfl⟩
  go_wp2
  go_end0
  exact ⟨rfl, hE3, hA3, hb3, HFR.out⟩

end Go.Proofs.Ybulkdwzg
