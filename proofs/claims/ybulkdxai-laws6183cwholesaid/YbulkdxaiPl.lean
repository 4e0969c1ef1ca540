/-
  LawS6183CWhole: THE PLAIN SIDE. The run of reach as plain functions: L the order, G the log; the seen words.
-/
namespace Go.Proofs.Ybulkdxai

/-- What the run is made of: first edges, targets, answers, the starts, the words that seen starts with. -/
structure Rn where
  F : Nat → Nat
  T : Nat → Nat
  A : Nat → Bool
  S : Nat → Nat
  W : Nat → Nat

/-- The bit of i. -/
def bt (W : Nat → Nat) (i : Nat) : Bool := (W (i / 64)).testBit (i % 64)
def setW (W : Nat → Nat) (i : Nat) : Nat → Nat := fun j => if j = i / 64 then W j ||| 2 ^ (i % 64) else W j
def wL (W : Nat → Nat) (L : List Nat) : Nat → Nat := L.foldl setW W

theorem bt_set (W : Nat → Nat) (s i : Nat) : bt (setW W s) i = (bt W i || decide (i = s)) := by
  unfold bt setW
  by_cases e : i / 64 = s / 64
  · rw [if_pos e, Nat.testBit_or, Nat.testBit_two_pow]
    congr 1
    by_cases e2 : i = s
    · simp [e2]
    · have : s % 64 ≠ i % 64 := by omega
      simp [e2, this]
  · have : i ≠ s := fun h => e (by rw [h])
    rw [if_neg e]; simp [this]
theorem bt_wL : ∀ (L : List Nat) (W : Nat → Nat) (i : Nat), bt (wL W L) i = (bt W i || decide (i ∈ L))
  | [], W, i => by simp [wL]
  | s :: L, W, i => by
    have := bt_wL L (setW W s) i
    simp only [wL, List.foldl_cons] at this ⊢
    rw [this, bt_set]
    by_cases e : i = s
    · simp [e]
    · simp [e]
theorem setW_lt {W : Nat → Nat} (h : ∀ j, W j < 18446744073709551616) (i : Nat) : ∀ j, setW W i j < 18446744073709551616 := fun j => by
  unfold setW
  split
  · have h1 : W j < 2 ^ 64 := h j
    have h2 : 2 ^ (i % 64) < 2 ^ 64 := Nat.pow_lt_pow_right (by omega) (by omega)
    exact Nat.or_lt_two_pow h1 h2
  · exact h j
theorem wL_lt : ∀ (L : List Nat) {W : Nat → Nat}, (∀ j, W j < 18446744073709551616) → ∀ j, wL W L j < 18446744073709551616
  | [], _, h => h
  | s :: L, _, h => wL_lt L (setW_lt h s)
theorem wL_snoc (W : Nat → Nat) (L : List Nat) (s : Nat) : wL W (L ++ [s]) = setW (wL W L) s := by simp [wL]

namespace Rn
variable (R : Rn)
/-- Has i been seen, where L has been taken in? -/
def sn (L : List Nat) (i : Nat) : Bool := bt R.W i || decide (i ∈ L)
theorem sn_wL (L : List Nat) (i : Nat) : bt (wL R.W L) i = R.sn L i := bt_wL L R.W i

/-- Behind j starts. -/
def st0 : Nat → List Nat
  | 0 => []
  | j + 1 => if R.sn (st0 j) (R.S j) then st0 j else st0 j ++ [R.S j]
/-- One edge. -/
def eS (st : List Nat × List Nat) (v e : Nat) : List Nat × List Nat :=
  if R.sn st.1 (R.T e) then st else if R.A e then (st.1 ++ [R.T e], st.2 ++ [v, e]) else (st.1, st.2 ++ [v, e])
/-- m edges of v, from a on. -/
def eN (st : List Nat × List Nat) (v a : Nat) : Nat → List Nat × List Nat
  | 0 => st
  | m + 1 => R.eS (eN st v a m) v (a + m)
/-- The node at k. -/
def nS (st : List Nat × List Nat) (k : Nat) : List Nat × List Nat :=
  if k < st.1.length then R.eN st (st.1.getD k 0) (R.F (st.1.getD k 0)) (R.F (st.1.getD k 0 + 1) - R.F (st.1.getD k 0)) else st
/-- Behind k nodes; m starts. -/
def st (m : Nat) : Nat → List Nat × List Nat
  | 0 => (R.st0 m, [])
  | k + 1 => R.nS (st m k) k

/-- What holds of the order all along. -/
def OK (n : Nat) (L : List Nat) : Prop := L.Nodup ∧ ∀ x ∈ L, x < n

theorem OK.le : ∀ {n : Nat} {L : List Nat}, OK n L → L.length ≤ n
  | 0, [], _ => Nat.le_refl _
  | 0, x :: L, h => absurd (h.2 x (by simp)) (by omega)
  | n + 1, L, h => by
    have h2 : OK n (L.erase n) := ⟨h.1.erase n, fun x hx => by
      have hm := (h.1.mem_erase_iff).1 hx
      have := h.2 x hm.2
      omega⟩
    have := OK.le h2
    have := List.length_erase (a := n) (l := L)
    split at this <;> omega
theorem OK.snoc {n : Nat} {L : List Nat} (h : OK n L) {x : Nat} (hx : x < n) (hs : R.sn L x = false) : OK n (L ++ [x]) := by
  have hn : x ∉ L := fun hm => by simp [sn, hm] at hs
  refine ⟨?_, fun y hy => ?_⟩
  · rw [List.nodup_append]
    refine ⟨h.1, by simp, fun a ha b hb => ?_⟩
    simp at hb
    subst hb
    exact fun e => hn (e ▸ ha)
  · rw [List.mem_append] at hy
    rcases hy with hy | hy
    · exact h.2 y hy
    · simp at hy; subst hy; exact hx

theorem st0_ok {n : Nat} (hS : ∀ j, R.S j < n) : ∀ j, OK n (R.st0 j)
  | 0 => ⟨List.nodup_nil, fun _ h => by simp [st0] at h⟩
  | j + 1 => by
    have ih := st0_ok hS j
    simp only [st0]
    split
    · exact ih
    · rename_i h
      exact ih.snoc R (hS j) (by simpa using h)
theorem eS_ok {n : Nat} (hT : ∀ e, R.T e < n) {s : List Nat × List Nat} (h : OK n s.1) (v e : Nat) : OK n (R.eS s v e).1 ∧ (R.eS s v e).2.length ≤ s.2.length + 2 := by
  unfold eS
  split
  · exact ⟨h, by omega⟩
  · rename_i h1
    split
    · exact ⟨h.snoc R (hT e) (by simpa using h1), by simp⟩
    · exact ⟨h, by simp⟩
theorem eN_ok {n : Nat} (hT : ∀ e, R.T e < n) {s : List Nat × List Nat} (h : OK n s.1) (v a : Nat) : ∀ m, OK n (R.eN s v a m).1 ∧ (R.eN s v a m).2.length ≤ s.2.length + 2 * m
  | 0 => ⟨h, by simp [eN]⟩
  | m + 1 => by
    obtain ⟨h1, h2⟩ := eN_ok hT h v a m
    obtain ⟨h3, h4⟩ := R.eS_ok hT h1 v (a + m)
    exact ⟨h3, by simp only [eN]; omega⟩
theorem st_ok {n : Nat} (hS : ∀ j, R.S j < n) (hT : ∀ e, R.T e < n) (hF : ∀ v, R.F (v + 1) - R.F v ≤ 7) (m : Nat) : ∀ k, OK n (R.st m k).1 ∧ (R.st m k).2.length ≤ 14 * k
  | 0 => ⟨R.st0_ok hS m, by simp [st]⟩
  | k + 1 => by
    obtain ⟨h1, h2⟩ := st_ok hS hT hF m k
    simp only [st, nS]
    split
    · obtain ⟨h3, h4⟩ := R.eN_ok hT h1 ((R.st m k).1.getD k 0) (R.F ((R.st m k).1.getD k 0)) (R.F ((R.st m k).1.getD k 0 + 1) - R.F ((R.st m k).1.getD k 0))
      have := hF ((R.st m k).1.getD k 0)
      exact ⟨h3, by omega⟩
    · exact ⟨h1, by omega⟩

/-- Behind the end nothing turns. -/
theorem st_end (m : Nat) {K : Nat} (h : (R.st m K).1.length ≤ K) : ∀ d, R.st m (K + d) = R.st m K
  | 0 => rfl
  | d + 1 => by
    have ih := st_end m h d
    show R.nS (R.st m (K + d)) (K + d) = _
    rw [ih]
    unfold nS
    rw [if_neg (by omega)]
theorem st_one (m : Nat) {K K' : Nat} (h : (R.st m K).1.length ≤ K) (h' : (R.st m K').1.length ≤ K') : R.st m K = R.st m K' := by
  rcases Nat.le_total K K' with e | e
  · obtain ⟨d, rfl⟩ := Nat.exists_eq_add_of_le e
    exact (R.st_end m h d).symm
  · obtain ⟨d, rfl⟩ := Nat.exists_eq_add_of_le e
    exact R.st_end m h' d
end Rn

end Go.Proofs.Ybulkdxai
