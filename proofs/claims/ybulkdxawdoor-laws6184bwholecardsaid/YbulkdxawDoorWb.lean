/-
  THE LOCKS: their cells, the chains; WALKS of has (13), ownOn (12).
-/
import Derived.Test.YbulkdxawDoorWa
import Derived.WalkSmall
namespace Go.Proofs.YbulkdxawDoor
open Go.RowKit

/-- The locks: in the second queue? the record; the mode. -/
structure Lk where
  K : Nat → Bool
  H : Nat → Nat
  M : Nat → Nat
  hH : ∀ i, H i < 4096
  hM : ∀ i, M i < 256

/-- The blocks: the transaction, the two queues, t.own's row, the spans' row of the first queue and of the second, the locks. -/
structure Bs where
  T : Nat
  Q1 : Nat
  Q2 : Nat
  OB : Nat
  S1 : Nat
  S2 : Nat
  L : Nat → Nat

/-- The head of the chain of the locks below c in queue k and span s. -/
def hd (D : Lk) (L : Nat → Nat) (k : Bool) (s : Nat) : Nat → Option Addr
  | 0 => none
  | c + 1 => if D.K c = k ∧ D.H c / 1024 = s then some ⟨L c, 0, none⟩ else hd D L k s c

/-- The cells of a lock. -/
def lkC (T Q : Nat) (nx : Option Addr) (i h m : Nat) : List Value :=
  [.pointer (some ⟨T, 0, none⟩), .pointer (some ⟨Q, 0, none⟩), .pointer nx, .int .u64 (i : Int), .int .u32 ((h / 1024 : Nat) : Int), .int .u32 0, .int .u8 (m : Int)] ++
    (List.range 16).map fun j => .int .u64 ((if j = h % 1024 / 64 then 2 ^ (h % 64) else 0 : Nat) : Int)

def Bs.lk (b : Bs) (D : Lk) (i : Nat) : List Value := lkC b.T (if D.K i then b.Q2 else b.Q1) (hd D b.L (D.K i) (D.H i / 1024) i) i (D.H i) (D.M i)

/-- The cells of the transaction. -/
def TC (rv ov : Value) (la : Option Addr) : List Value := [.bool false, .nilFunc, rv, .slice none 0 0, .pointer none, ov, .pointer la, .pointer none, .int .u64 0]

theorem row_lt {w : World} {b : Nat} {o : Obj} (h : w.heap[b]? = some o) : b < w.heap.size := by
  rcases Nat.lt_or_ge b w.heap.size with h1 | h1
  · exact h1
  · rw [Array.getElem?_eq_none h1] at h; cases h
theorem cell_row {w : World} {b t : Nat} {l : List Value} (h : w.heap[b]? = some (.cells l.toArray t (0, 0))) {j : Nat} {v : Value} (hj : l[j]? = some v) : w.cell? ⟨b, j, none⟩ = some v := by
  rw [cell_of_row w _ _ _ _ _ h]; simpa using hj

/-- What lies outside D is as it was. -/
structure Out (D : Nat → Prop) (w w' : World) : Prop where
  os : w'.os = w.os
  tape : w'.tape = w.tape
  output : w'.output = w.output
  size : w.heap.size ≤ w'.heap.size
  block : ∀ k, k < w.heap.size → ¬ D k → w'.heap[k]? = w.heap[k]?
theorem Out.refl (D : Nat → Prop) (w : World) : Out D w w := ⟨rfl, rfl, rfl, Nat.le_refl _, fun _ _ _ => rfl⟩
theorem Out.trans {D D' : Nat → Prop} {a b c : World} (h : Out D a b) (k : Out D' b c) (hd : ∀ i, i < a.heap.size → D' i → D i) : Out D a c :=
  ⟨k.os.trans h.os, k.tape.trans h.tape, k.output.trans h.output, Nat.le_trans h.size k.size, fun i hi hn => (k.block i (Nat.lt_of_lt_of_le hi h.size) (fun h' => hn (hd i hi h'))).trans (h.block i hi hn)⟩
theorem Out.cell {D : Nat → Prop} {w w' : World} (h : Out D w w') {a : Addr} {v : Value} (hc : w.cell? a = some v) (hn : ¬ D a.block) : w'.cell? a = some v :=
  (World.cell?_of_block (h.block a.block (World.block_lt_of_cell? w a hc) hn)).trans hc
theorem out_drewN (w : World) (q : Nat) : Out (fun _ => False) w (w.drewN q) := ⟨rfl, rfl, rfl, Nat.le_refl _, fun _ _ _ => rfl⟩
theorem out_alloc (w : World) (o : Obj) : Out (fun _ => False) w (w.alloc o) := ⟨rfl, rfl, rfl, by simp, fun _ hk _ => heap_alloc_old w o hk⟩
theorem out_set (w : World) (a : Addr) (v : Value) : Out (fun k => k = a.block) w (w.setCell a v) := ⟨rfl, rfl, rfl, by simp [World.setCell], fun k _ hk => heap_setCell_other _ _ _ _ hk⟩

/-- What need reads and never writes; n locks; of: the second queue's index stands first. -/
structure Ev (b : Bs) (D : Lk) (n : Nat) (of : Bool) (w : World) : Prop where
  cb : CB w
  lk : ∀ i, i < n → ∀ f v, (b.lk D i)[f]? = some v → w.cell? ⟨b.L i, f, none⟩ = some v
  o0 : w.cell? ⟨b.OB, 0, none⟩ = some (.pointer (some ⟨if of then b.Q2 else b.Q1, 0, none⟩))
  o1 : w.cell? ⟨b.OB, 1, none⟩ = some (.slice (some ⟨if of then b.S2 else b.S1, 0, none⟩) 4 4)
  o2 : w.cell? ⟨b.OB, 2, none⟩ = some (.slice none 0 0)
  o3 : w.cell? ⟨b.OB, 3, none⟩ = some (.pointer (some ⟨if of then b.Q1 else b.Q2, 0, none⟩))
  o4 : w.cell? ⟨b.OB, 4, none⟩ = some (.slice (some ⟨if of then b.S1 else b.S2, 0, none⟩) 4 4)
  o5 : w.cell? ⟨b.OB, 5, none⟩ = some (.slice none 0 0)
  sp : ∀ j, j < 4 → w.cell? ⟨b.S1, j, none⟩ = some (.pointer (hd D b.L false j n))
  q1 : ∃ cs t, w.heap[b.Q1]? = some (.cells cs t (0, 0))
  q2 : ∃ cs t, w.heap[b.Q2]? = some (.cells cs t (0, 0))
  dq : b.Q1 ≠ b.Q2
  e1 : b.Q1 ≠ b.T
  e2 : b.Q2 ≠ b.T
  d0 : 0 ≠ b.T
  dO : b.OB ≠ b.T
  dS : b.S1 ≠ b.T
  dL : ∀ i, i < n → b.L i ≠ b.T
  lm : ∀ i j, i < j → j < n → b.L i < b.L j

theorem Ev.later {b : Bs} {D : Lk} {n : Nat} {of : Bool} {w w' : World} (h : Ev b D n of w) (ho : Out (fun k => k = b.T) w w') : Ev b D n of w' :=
  ⟨fun j hj => ho.cell (h.cb j hj) h.d0, fun i hi f v hv => ho.cell (h.lk i hi f v hv) (h.dL i hi), ho.cell h.o0 h.dO, ho.cell h.o1 h.dO, ho.cell h.o2 h.dO, ho.cell h.o3 h.dO, ho.cell h.o4 h.dO, ho.cell h.o5 h.dO, fun j hj => ho.cell (h.sp j hj) h.dS, by obtain ⟨cs, t, hq⟩ := h.q1; exact ⟨cs, t, (ho.block _ (row_lt hq) h.e1).trans hq⟩, by obtain ⟨cs, t, hq⟩ := h.q2; exact ⟨cs, t, (ho.block _ (row_lt hq) h.e2).trans hq⟩, h.dq, h.e1, h.e2, h.d0, h.dO, h.dS, h.dL, h.lm⟩

/-- The transaction's block. -/
def TR (w : World) (b : Bs) (rv : Value) (la : Option Addr) : Prop := w.heap[b.T]? = some (.cells (TC rv (.slice (some ⟨b.OB, 0, none⟩) 2 2) la).toArray 41 (0, 0))
theorem TR.later {w w' : World} {b : Bs} {rv : Value} {la : Option Addr} (h : TR w b rv la) (ho : Out (fun _ => False) w w') : TR w' b rv la := (ho.block _ (row_lt h) (fun f => f)).trans h
theorem TR.own {w : World} {b : Bs} {rv : Value} {la : Option Addr} (h : TR w b rv la) : w.cell? ⟨b.T, 5, none⟩ = some (.slice (some ⟨b.OB, 0, none⟩) 2 2) := cell_row h rfl
theorem TR.last {w : World} {b : Bs} {rv : Value} {la : Option Addr} (h : TR w b rv la) : w.cell? ⟨b.T, 6, none⟩ = some (.pointer la) := cell_row h rfl
theorem TR.set {w : World} {b : Bs} {rv : Value} {la : Option Addr} (h : TR w b rv la) (x : Option Addr) : TR (w.setCell ⟨b.T, 6, none⟩ (.pointer x)) b rv x := by
  unfold TR
  rw [heap_setCell_same w _ _ _ _ _ h]
  rfl

/-! ### The chains -/
theorem hd_cases (D : Lk) (L : Nat → Nat) (k : Bool) (s : Nat) : ∀ c, (hd D L k s c = none ∧ ∀ i, i < c → ¬ (D.K i = k ∧ D.H i / 1024 = s)) ∨ ∃ j, j < c ∧ D.K j = k ∧ D.H j / 1024 = s ∧ hd D L k s c = some ⟨L j, 0, none⟩ ∧ ∀ i, j < i → i < c → ¬ (D.K i = k ∧ D.H i / 1024 = s)
  | 0 => .inl ⟨rfl, fun i hi => absurd hi (by omega)⟩
  | c + 1 => by
    by_cases e : D.K c = k ∧ D.H c / 1024 = s
    · exact .inr ⟨c, by omega, e.1, e.2, by simp [hd, e], fun i h1 h2 => absurd h2 (by omega)⟩
    · have e2 : hd D L k s (c + 1) = hd D L k s c := by simp [hd, e]
      rcases hd_cases D L k s c with ⟨h1, h2⟩ | ⟨j, h1, h2, h3, h4, h5⟩
      · refine .inl ⟨by rw [e2]; exact h1, fun i hi => ?_⟩
        by_cases hc : i = c
        · subst hc; exact e
        · exact h2 i (by omega)
      · refine .inr ⟨j, by omega, h2, h3, by rw [e2]; exact h4, fun i hj hi => ?_⟩
        by_cases hc : i = c
        · subst hc; exact e
        · exact h5 i hj (by omega)

/-! ### has -/
theorem pow_lt64 {k : Nat} (hk : k < 64) : 2 ^ k < 18446744073709551616 := by
  have : (2 : Nat) ^ k ≤ 2 ^ 63 := Nat.pow_le_pow_right (by omega) (by omega)
  omega
theorem wrap_pow {k : Nat} (hk : k < 64) : IntKind.u64.wrap (2 ^ k) = ((2 ^ k : Nat) : Int) := by
  have h := pow_lt64 hk
  have e : ((2 : Int) ^ k) = ((2 ^ k : Nat) : Int) := by simp
  rw [e]
  generalize 2 ^ k = y at h
  rw [IntKind.wrap_u64, Int.emod_eq_of_lt (by omega) (by omega)]
theorem and_bit (x k : Nat) (hx : x < 18446744073709551616) (hk : k < 64) : (bits .and .u64 (x : Int) (IntKind.u64.wrap (2 ^ k)) != 0) = x.testBit k := by
  rw [wrap_pow hk, bits_and_u64_nat _ _ hx (pow_lt64 hk)]
  cases hb : x.testBit k
  · have : x &&& 2 ^ k = 0 := Nat.eq_of_testBit_eq fun i => by
      rw [Nat.testBit_and, Nat.testBit_two_pow, Nat.zero_testBit]
      by_cases e : k = i
      · subst e; simp [hb]
      · simp [e]
    simp [this]
  · have : x &&& 2 ^ k ≠ 0 := fun h => by
      have := congrArg (fun y => y.testBit k) h
      simp [Nat.testBit_and, hb] at this
    simp only [bne_iff_ne, ne_eq]
    omega

theorem has_c (L : Nat) (hp h : Nat) (w : World) (hhp : hp < 4294967296) (hc : w.cell? ⟨L, 7 + hp % 1024 / 64, none⟩ = some (.int .u64 ((if hp % 1024 / 64 = h % 1024 / 64 then 2 ^ (h % 64) else 0 : Nat) : Int))) :
    Calls Ybad.prog 13 #[.pointer (some ⟨L, 0, none⟩), .int .u32 hp] w fun e w' => e = .returned (.bool (decide (hp % 1024 = h % 1024))) ∧ ∃ q, w' = w.drewN q := by
  obtain ⟨x, hx⟩ : ∃ x, x = (if hp % 1024 / 64 = h % 1024 / 64 then 2 ^ (h % 64) else 0 : Nat) := ⟨_, rfl⟩
  rw [← hx] at hc
  have hx2 : x < 18446744073709551616 := by
    rw [hx]
    split
    · exact pow_lt64 (Nat.mod_lt _ (by omega))
    · omega
  have hb : x.testBit (hp % 64) = decide (hp % 1024 = h % 1024) := by
    rw [hx]
    split
    · rename_i e
      rw [Nat.testBit_two_pow]
      by_cases e2 : h % 64 = hp % 64
      · rw [decide_eq_true e2, decide_eq_true (by omega)]
      · rw [decide_eq_false e2, decide_eq_false (by omega)]
    · rename_i e
      rw [Nat.zero_testBit, decide_eq_false (by omega)]
  have hand := and_bit x (hp % 64) hx2 (Nat.mod_lt _ (by omega))
  rw [hb] at hand
  obtain ⟨i, hi⟩ : ∃ i, i = hp % 1024 := ⟨_, rfl⟩
  have hi64 : hp % 64 = i % 64 := by omega
  rw [← hi] at hc
  rw [hi64] at hand
  have hii : i < 1024 := by omega
  have hmI : (hp : Int).tmod 1024 = (i : Int) := by rw [Int.tmod_eq_emod_of_nonneg (by omega)]; omega
  have hdI : (i : Int).tdiv 64 < 16 := by rw [Int.tdiv_eq_ediv_of_nonneg (by omega)]; omega
  rw [← hi] at hand ⊢
  clear hx hb hi64 hi
  go_enter Ybad.func13, Ybad.ntmps13
  go_wp2
  go_ret
  exact ⟨rfl, 0, rfl⟩

end Go.Proofs.YbulkdxawDoor
