/-
  THE LAW (3): what the first loop holds, and one step of it.
-/
import Derived.Test.YbulkdxawDoorLb
namespace Go.Proofs.YbulkdxawDoor
open Go.RowKit

theorem hd_congr (D : Lk) {L L' : Nat → Nat} (kk : Bool) (s : Nat) : ∀ c, (∀ i, i < c → L i = L' i) → hd D L kk s c = hd D L' kk s c
  | 0, _ => rfl
  | c + 1, h => by
    simp only [hd]
    rw [h c (by omega), hd_congr D kk s c (fun i hi => h i (by omega))]

/-- k locks are made. -/
structure Iv (w0 : World) (N n : Nat) (D : Lk) (k : Nat) (rv : Value) (L : Nat → Nat) (w : World) : Prop where
  cb : CB w
  lk : ∀ i, i < k → w.heap[L i]? = some (.cells (lkO (N + 2) N (N + 1) L D i).toArray 49 (0, 0))
  ls : RW w (N + 4) 37 (fun i => .pointer (if i < k then some ⟨L i, 0, none⟩ else none)) n
  hd : RW w (N + 3) 43 (fun j => .pointer (if j < 4 then hd D L false j k else hd D L true (j - 4) k)) 8
  t : w.heap[N + 2]? = some (.cells (TC rv (.slice none 0 0) none).toArray 41 (0, 0))
  q1 : w.heap[N]? = some (.cells QC.toArray 31 (0, 0))
  q2 : w.heap[N + 1]? = some (.cells QC.toArray 31 (0, 0))
  lm : ∀ i j, i < j → j < k → L i < L j
  lb : ∀ i, i < k → N + 5 ≤ L i ∧ L i < w.heap.size
  ro : w.ownsRow (N + 5) 37 1 rv k ((List.range k).map fun i => .pointer (some ⟨L i, 0, none⟩))
  rd : ∀ i, i < k → rv.ownBlock ≠ some (L i)
  b : Below N w0 w
  z : N + 5 ≤ w.heap.size
  n0 : 0 < N

def up (L : Nat → Nat) (k l : Nat) : Nat → Nat := fun i => if i = k then l else L i
theorem up_lt (L : Nat → Nat) (k l : Nat) {i : Nat} (h : i < k) : up L k l i = L i := by unfold up; rw [if_neg (by omega)]
theorem up_eq (L : Nat → Nat) (k l : Nat) : up L k l k = l := by simp [up]

theorem iv_step {w0 : World} {N n : Nat} {D : Lk} {k : Nat} {rv : Value} {L : Nat → Nat} {w : World} (h : Iv w0 N n D k rv L w) (hk : k < n) {rv' : Value} {w2 : World} (l : Nat) (hl : w.heap.size ≤ l) (hl2 : l < w2.heap.size)
    (hlk : w2.heap[l]? = some (.cells (lkC (N + 2) (if D.K k then N + 1 else N) (hd D L (D.K k) (D.H k / 1024) k) k (D.H k) (D.M k)).toArray 49 (0, 0)))
    (hHD : RW w2 (N + 3) 43 (fun j => if j = (if D.K k then 1 else 0) * 4 + D.H k / 1024 then .pointer (some ⟨l, 0, none⟩) else .pointer (if j < 4 then Go.Proofs.YbulkdxawDoor.hd D L false j k else Go.Proofs.YbulkdxawDoor.hd D L true (j - 4) k)) 8)
    (hLS : RW w2 (N + 4) 37 (fun j => if j = k then .pointer (some ⟨l, 0, none⟩) else .pointer (if j < k then some ⟨L j, 0, none⟩ else none)) n)
    (ht : w2.heap[N + 2]? = some (.cells (TC rv' (.slice none 0 0) none).toArray 41 (0, 0)))
    (hro : w2.ownsRow (N + 5) 37 1 rv' (k + 1) (((List.range k).map fun i => .pointer (some ⟨L i, 0, none⟩)) ++ [.pointer (some ⟨l, 0, none⟩)]))
    (hrv : rv'.ownBlock = rv.ownBlock ∨ ∃ b, rv'.ownBlock = some b ∧ l < b) (hnl : rv.ownBlock ≠ some l)
    (ho : Out (fun b => b = l ∨ b = N + 3 ∨ b = N + 4 ∨ b = N + 2 ∨ rv.ownBlock = some b) w w2) : Iv w0 N n D (k + 1) rv' (up L k l) w2 := by
  have hz := h.z
  have hrb : ∀ b, rv.ownBlock = some b → N + 5 ≤ b := fun b e => (h.ro.lt b e).1
  have hnot : ∀ b, b < N + 5 → b ≠ N + 3 → b ≠ N + 4 → b ≠ N + 2 → ¬ (b = l ∨ b = N + 3 ∨ b = N + 4 ∨ b = N + 2 ∨ rv.ownBlock = some b) := by
    rintro b h1 h2 h3 h4 (e | e | e | e | e)
    · omega
    · exact h2 e
    · exact h3 e
    · exact h4 e
    · have := hrb b e; omega
  have hK : ∀ (kk : Bool) s c, c ≤ k → Go.Proofs.YbulkdxawDoor.hd D (up L k l) kk s c = Go.Proofs.YbulkdxawDoor.hd D L kk s c := fun kk s c hc => hd_congr D kk s c (fun i hi => up_lt L k l (by omega))
  refine ⟨fun j hj => ho.cell (h.cb j hj) (hnot 0 (by have := h.n0; omega) (by omega) (by omega) (by omega)), fun i hi => ?_, hLS.congr (fun j _ => ?_), hHD.congr (fun j hj => ?_), ht, (ho.block _ (row_lt h.q1) (hnot N (by omega) (by omega) (by omega) (by omega))).trans h.q1, (ho.block _ (row_lt h.q2) (hnot (N + 1) (by omega) (by omega) (by omega) (by omega))).trans h.q2, fun i j hij hj => ?_, fun i hi => ?_, ?_, fun i hi => ?_, ?_, Nat.le_trans hz ho.size, h.n0⟩
  · by_cases e : i = k
    · subst e
      rw [up_eq]
      unfold lkO
      rw [hK _ _ _ (Nat.le_refl _)]
      exact hlk
    · have hi2 : i < k := by omega
      have hb := h.lb i hi2
      rw [up_lt L k l hi2]
      have e2 : lkO (N + 2) N (N + 1) (up L k l) D i = lkO (N + 2) N (N + 1) L D i := by
        unfold lkO; rw [hK _ _ _ (by omega)]
      rw [e2]
      refine (ho.block _ hb.2 ?_).trans (h.lk i hi2)
      rintro (e | e | e | e | e)
      · omega
      · omega
      · omega
      · omega
      · exact h.rd i hi2 e
  · by_cases e : j = k
    · subst e; rw [if_pos rfl, if_pos (Nat.lt_succ_self _), up_eq]
    · rw [if_neg e]
      by_cases e2 : j < k
      · rw [if_pos e2, if_pos (by omega), up_lt L k l e2]
      · rw [if_neg e2, if_neg (by omega)]
  · have hs : D.H k / 1024 < 4 := by have := D.hH k; omega
    cases hKk : D.K k
    · simp only [Bool.false_eq_true, if_false, Nat.zero_mul, Nat.zero_add]
      by_cases e : j = D.H k / 1024
      · subst e
        rw [if_pos rfl, if_pos hs]
        simp only [Go.Proofs.YbulkdxawDoor.hd, hKk, and_self, if_true, up_eq]
      · rw [if_neg e]
        by_cases h4 : j < 4
        · rw [if_pos h4, if_pos h4]
          simp only [Go.Proofs.YbulkdxawDoor.hd]
          rw [if_neg (fun x => e x.2.symm), hK _ _ _ (Nat.le_refl _)]
        · rw [if_neg h4, if_neg h4]
          simp only [Go.Proofs.YbulkdxawDoor.hd]
          rw [if_neg (fun x => by rw [hKk] at x; cases x.1), hK _ _ _ (Nat.le_refl _)]
    · simp only [if_true, Nat.one_mul]
      by_cases e : j = 4 + D.H k / 1024
      · subst e
        rw [if_pos rfl, if_neg (by omega)]
        simp only [Go.Proofs.YbulkdxawDoor.hd, hKk]
        rw [if_pos ⟨trivial, by omega⟩, up_eq]
      · rw [if_neg e]
        by_cases h4 : j < 4
        · rw [if_pos h4, if_pos h4]
          simp only [Go.Proofs.YbulkdxawDoor.hd]
          rw [if_neg (fun x => by rw [hKk] at x; cases x.1), hK _ _ _ (Nat.le_refl _)]
        · rw [if_neg h4, if_neg h4]
          simp only [Go.Proofs.YbulkdxawDoor.hd]
          rw [if_neg (fun x => e (by omega)), hK _ _ _ (Nat.le_refl _)]
  · by_cases e : j = k
    · subst e
      rw [up_eq, up_lt L _ l hij]
      have := (h.lb i hij).2
      omega
    · rw [up_lt L k l (by omega), up_lt L k l (by omega)]
      exact h.lm i j hij (by omega)
  · by_cases e : i = k
    · subst e; rw [up_eq]; exact ⟨by omega, hl2⟩
    · rw [up_lt L k l (by omega)]
      have := h.lb i (by omega)
      have := ho.size
      omega
  · rw [List.range_succ, List.map_append]
    have e1 : (List.range k).map (fun i => Value.pointer (some ⟨up L k l i, 0, none⟩)) = (List.range k).map fun i => .pointer (some ⟨L i, 0, none⟩) := List.map_congr_left fun i hi => by rw [up_lt L k l (List.mem_range.1 hi)]
    rw [e1]
    simpa [up_eq] using hro
  · intro e
    rcases hrv with e2 | ⟨b, e2, hb⟩
    · by_cases e3 : i = k
      · subst e3; rw [up_eq, e2] at e; exact hnl e
      · rw [up_lt L k l (by omega), e2] at e; exact h.rd i (by omega) e
    · rw [e2] at e
      have := Option.some.inj e
      by_cases e3 : i = k
      · subst e3; rw [up_eq] at this; omega
      · rw [up_lt L k l (by omega)] at this
        have := (h.lb i (by omega)).2
        omega
  · exact h.b.trans ⟨ho.os, ho.tape, ho.output, ho.size, fun b hb => ho.block b (by omega) (hnot b (by omega) (by omega) (by omega) (by omega))⟩

end Go.Proofs.YbulkdxawDoor
