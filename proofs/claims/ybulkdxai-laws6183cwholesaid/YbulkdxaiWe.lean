/-
  LawS6183CWhole: WHAT reach STANDS ON (En: what it never writes) AND WHAT IT TURNS (Mv: queue, log, seen words), with the steps of each.
-/
import Derived.Test.YbulkdxaiWd
import Derived.Test.YbulkdxaiPl
namespace Go.Proofs.Ybulkdxai
open Go.RowKit

/-- The numbers of the blocks and the sizes. -/
structure Bk where
  G : Nat
  Fb : Nat
  Tb : Nat
  Sx : Nat
  Pa : Nat
  P : Nat
  Sb : Nat
  B : Nat
  Lg : Nat
  base : Nat
  n : Nat
  tot : Nat
  ns : Nat
  wn : Nat
  aa : Option Addr
  al : Nat
  ac : Nat

/-- The blocks that reach writes. -/
def Bk.Dyn (b : Bk) (k : Nat) : Prop := k = b.Sb ∨ k = b.B ∨ k = b.Lg ∨ b.base ≤ k

/-- What reach reads and never writes. -/
structure En (b : Bk) (R : Rn) (AB : Nat → Bool) (w : World) : Prop where
  g13 : ∃ c, w.cell? ⟨b.G, 13, none⟩ = some (.slice (some ⟨b.Fb, 0, none⟩) (b.n + 1) c)
  g11 : ∃ c, w.cell? ⟨b.G, 11, none⟩ = some (.slice (some ⟨b.Tb, 0, none⟩) b.tot c)
  fF : ∀ v, v ≤ b.n → w.cell? ⟨b.Fb, v, none⟩ = some (.int .u32 (R.F v))
  fT : ∀ e, e < b.tot → w.cell? ⟨b.Tb, e, none⟩ = some (.int .u32 (R.T e))
  fS : ∀ j, j < b.ns → w.cell? ⟨b.Sx, j, none⟩ = some (.int .u32 (R.S j))
  cPa : w.cell? ⟨b.Pa, 0, none⟩ = some (.func (.func 5) #[] #[.pointer (some ⟨b.P, 0, none⟩)])
  cP : w.cell? ⟨b.P, 0, none⟩ = some (.slice b.aa b.al b.ac)
  br : BR w b.aa b.al AB

/-- The blocks are apart. -/
structure Ap (b : Bk) : Prop where
  dG : ¬ b.Dyn b.G
  dF : ¬ b.Dyn b.Fb
  dT : ¬ b.Dyn b.Tb
  dS : ¬ b.Dyn b.Sx
  dPa : ¬ b.Dyn b.Pa
  dP : ¬ b.Dyn b.P
  dA : ∀ ad, b.aa = some ad → ¬ b.Dyn ad.block
  sB : b.Sb ≠ b.B
  sL : b.Sb ≠ b.Lg
  bL : b.B ≠ b.Lg
  lS : b.Sb < b.base
  lB : b.B < b.base
  lL : b.Lg < b.base

theorem En.later {b : Bk} {R : Rn} {AB : Nat → Bool} {w w' : World} (h : En b R AB w) (ha : Ap b) (ho : Out b.Dyn w w') : En b R AB w' := by
  obtain ⟨⟨c1, h1⟩, ⟨c2, h2⟩, h3, h4, h5, h6, h7, h8⟩ := h
  refine ⟨⟨c1, ho.cell h1 ha.dG⟩, ⟨c2, ho.cell h2 ha.dG⟩, fun v hv => ho.cell (h3 v hv) ha.dF, fun e he => ho.cell (h4 e he) ha.dT, fun j hj => ho.cell (h5 j hj) ha.dS, ho.cell h6 ha.dPa, ho.cell h7 ha.dP, fun h0 => ?_⟩
  obtain ⟨bb, off, e, hc⟩ := h8 h0
  exact ⟨bb, off, e, fun j hj => ho.cell (hc j hj) (show ¬ b.Dyn bb from ha.dA ⟨bb, off, none⟩ e)⟩

def u32s (L : List Nat) : List Value := L.map fun (x : Nat) => Value.int .u32 (x : Int)
def i64s (L : List Nat) : List Value := L.map fun (x : Nat) => Value.int .i64 (x : Int)
def wdL (W : Nat → Nat) (m : Nat) : List Value := (List.range m).map fun (j : Nat) => Value.int .u64 (W j : Int)

/-- What reach has turned: the queue holds L, the log Gl, the seen words are Wf. -/
structure Mv (b : Bk) (init : List Value) (w0 : World) (qv v : Value) (Wf : Nat → Nat) (L Gl : List Nat) (w : World) : Prop where
  q : QI w b.B b.base init qv (u32s L)
  l : LG w b.base b.Lg v (i64s Gl)
  s : w.heap[b.Sb]? = some (.cells (wdL Wf b.wn).toArray 29 (0, 0))
  o : Out b.Dyn w0 w
  d : ∀ k, qv.ownBlock = some k → v.ownBlock ≠ some k
  z : b.base ≤ w.heap.size

theorem wd_cell {w : World} {Sb m i : Nat} {W : Nat → Nat} (h : w.heap[Sb]? = some (.cells (wdL W m).toArray 29 (0, 0))) (hi : i / 64 < m) : w.cell? ⟨Sb, i / 64, none⟩ = some (.int .u64 (W (i / 64))) := by
  rw [cell_of_row w _ _ _ _ _ h]
  simp [wdL, hi]
theorem wd_set {w : World} {Sb m i : Nat} {W : Nat → Nat} (h : w.heap[Sb]? = some (.cells (wdL W m).toArray 29 (0, 0))) (hi : i / 64 < m) :
    (w.setCell ⟨Sb, i / 64, none⟩ (.int .u64 ((W (i / 64) ||| 2 ^ (i % 64) : Nat) : Int))).heap[Sb]? = some (.cells (wdL (setW W i) m).toArray 29 (0, 0)) := by
  rw [heap_setCell_same w Sb (i / 64) _ _ _ h]
  suffices e : (wdL W m).set (i / 64) (.int .u64 ((W (i / 64) ||| 2 ^ (i % 64) : Nat) : Int)) = wdL (setW W i) m by
    rw [← e]; simp
  apply List.ext_getElem?
  intro j
  rw [List.getElem?_set]
  by_cases e : i / 64 = j
  · subst e
    simp [wdL, setW, hi]
  · rw [if_neg e]
    simp only [wdL, List.getElem?_map]
    by_cases hj : j < m
    · rw [List.getElem?_range hj]
      simp [setW, Ne.symm e]
    · rw [List.getElem?_eq_none (by simpa using hj)]
      rfl

theorem QI.kept {w w' : World} {B base : Nat} {init : List Value} {qv : Value} {L : List Value} {D : Nat → Prop} (h : QI w B base init qv L) (ho : Out D w w') (hB : ¬ D B) (hq : ∀ k, qv.ownBlock = some k → ¬ D k) : QI w' B base init qv L := by
  obtain ⟨h1, h2⟩ := h
  refine ⟨(ho.block B (row_lt h1) hB).trans h1, ?_⟩
  rcases h2 with h2 | ⟨h3, g, c, rfl, hown⟩
  · exact .inl h2
  · refine .inr ⟨h3, g, c, rfl, hown.1, ?_⟩
    rcases hown.2 with h4 | ⟨g', c', cur, e, hb, hg, r⟩
    · exact .inl h4
    · cases e
      exact .inr ⟨g, c, cur, rfl, hb, (ho.block g (row_lt hg) (hq g rfl)).trans hg, r⟩
theorem LG.kept {w w' : World} {base Lg : Nat} {v : Value} {xs : List Value} {D : Nat → Prop} (h : LG w base Lg v xs) (ho : Out D w w') (hL : ¬ D Lg) (hv : ∀ k, v.ownBlock = some k → ¬ D k) : LG w' base Lg v xs := by
  obtain ⟨h1, hown⟩ := h
  refine ⟨(ho.block Lg (row_lt h1) hL).trans h1, hown.1, ?_⟩
  rcases hown.2 with h4 | ⟨g', c', cur, rfl, hb, hg, r⟩
  · exact .inl h4
  · exact .inr ⟨g', c', cur, rfl, hb, (ho.block g' (row_lt hg) (hv g' rfl)).trans hg, r⟩
theorem QI.blk {w : World} {B base : Nat} {init : List Value} {qv : Value} {L : List Value} (h : QI w B base init qv L) : ∀ k, qv.ownBlock = some k → (k = B ∨ base ≤ k) ∧ k < w.heap.size := by
  intro k hk
  obtain ⟨h1, h2⟩ := h
  rcases h2 with ⟨rfl, _⟩ | ⟨_, g, c, rfl, hown⟩
  · cases hk; exact ⟨.inl rfl, row_lt h1⟩
  · have := hown.lt k hk; exact ⟨.inr this.1, this.2⟩
theorem LG.blk {w : World} {base Lg : Nat} {v : Value} {xs : List Value} (h : LG w base Lg v xs) : ∀ k, v.ownBlock = some k → base ≤ k ∧ k < w.heap.size := h.2.lt

section
variable {b : Bk} {init : List Value} {w0 : World} {qv v : Value} {Wf : Nat → Nat} {L Gl : List Nat} {w : World}
/-- Nothing of it is turned. -/
theorem Mv.still {w' : World} (h : Mv b init w0 qv v Wf L Gl w) (ho : Out (fun _ => False) w w') : Mv b init w0 qv v Wf L Gl w' :=
  ⟨h.q.kept ho (fun f => f) (fun _ _ f => f), h.l.kept ho (fun f => f) (fun _ _ f => f), (ho.block _ (row_lt h.s) (fun f => f)).trans h.s, h.o.trans ho (fun _ _ f => f.elim), h.d, Nat.le_trans h.z ho.size⟩
theorem out_drewN (w : World) (q : Nat) : Out (fun _ => False) w (w.drewN q) := ⟨rfl, rfl, rfl, Nat.le_refl _, fun _ _ _ => rfl⟩
theorem out_alloc (w : World) (o : Obj) : Out (fun _ => False) w (w.alloc o) := ⟨rfl, rfl, rfl, by simp, fun _ hk _ => heap_alloc_old w o hk⟩
/-- A bit is set. -/
theorem Mv.set (h : Mv b init w0 qv v Wf L Gl w) (ha : Ap b) {i q : Nat} (hi : i / 64 < b.wn) :
    Mv b init w0 qv v (setW Wf i) L Gl ((w.setCell ⟨b.Sb, i / 64, none⟩ (.int .u64 ((Wf (i / 64) ||| 2 ^ (i % 64) : Nat) : Int))).drewN q) := by
  have ho : Out (fun k => k = b.Sb) w (w.setCell ⟨b.Sb, i / 64, none⟩ (.int .u64 ((Wf (i / 64) ||| 2 ^ (i % 64) : Nat) : Int))) :=
    ⟨rfl, rfl, rfl, by simp [World.setCell], fun k _ hk => heap_setCell_other _ _ _ _ hk⟩
  have hS := ha.lS
  refine Mv.still (w := w.setCell ⟨b.Sb, i / 64, none⟩ (.int .u64 ((Wf (i / 64) ||| 2 ^ (i % 64) : Nat) : Int))) ⟨h.q.kept ho (fun e => ha.sB e.symm) (fun k hk e => ?_), h.l.kept ho (fun e => ha.sL e.symm) (fun k hk e => ?_), wd_set h.s hi, h.o.trans ho (fun k _ e => .inl e), h.d, Nat.le_trans h.z ho.size⟩ (out_drewN _ _)
  · subst e
    rcases (h.q.blk _ hk).1 with e | e
    · exact ha.sB e
    · omega
  · subst e
    have := (h.l.blk _ hk).1
    omega
/-- A node is taken into the queue. -/
theorem Mv.app (h : Mv b init w0 qv v Wf L Gl w) (ha : Ap b) {qv' : Value} {w' : World} {x : Nat} (hq : QI w' b.B b.base init qv' (u32s L ++ [.int .u32 (x : Int)])) (ho : Out (fun k => k = b.B ∨ qv.ownBlock = some k) w w') (hw : qv'.ownBlock = qv.ownBlock ∨ ∃ k, qv'.ownBlock = some k ∧ w.heap.size ≤ k) :
    Mv b init w0 qv' v Wf (L ++ [x]) Gl w' := by
  have hS := ha.lS
  have hLg := ha.lL
  refine ⟨by simpa [u32s] using hq, h.l.kept ho ?_ ?_, (ho.block _ (row_lt h.s) ?_).trans h.s, h.o.trans ho ?_, ?_, Nat.le_trans h.z ho.size⟩
  · rintro (e | e)
    · exact ha.bL e.symm
    · rcases (h.q.blk _ e).1 with e | e
      · exact ha.bL e.symm
      · omega
  · rintro k hk (e | e)
    · have := (h.l.blk _ hk).1
      have := ha.lB
      omega
    · exact h.d k e hk
  · rintro (e | e)
    · exact ha.sB e
    · rcases (h.q.blk _ e).1 with e | e
      · exact ha.sB e
      · omega
  · rintro k _ (e | e)
    · exact .inr (.inl e)
    · rcases (h.q.blk _ e).1 with e | e
      · exact .inr (.inl e)
      · exact .inr (.inr (.inr e))
  · intro k hk hv
    rcases hw with e | ⟨k', e, hk'⟩
    · exact h.d k (by rw [← e]; exact hk) hv
    · have : k' = k := by rw [e] at hk; exact Option.some.inj hk
      have := (h.l.blk k hv).2
      omega
/-- A call of follow. -/
theorem Mv.fol (h : Mv b init w0 qv v Wf L Gl w) (ha : Ap b) {v' : Value} {w' : World} {x y : Nat} (hl : LG w' b.base b.Lg v' (i64s Gl ++ [.int .i64 (x : Int), .int .i64 (y : Int)])) (ho : Out (fun k => k = b.Lg ∨ v.ownBlock = some k) w w') (hw : v'.ownBlock = v.ownBlock ∨ ∃ k, v'.ownBlock = some k ∧ w.heap.size ≤ k) :
    Mv b init w0 qv v' Wf L (Gl ++ [x, y]) w' := by
  have hS := ha.lS
  have hB := ha.lB
  have hLg := ha.lL
  refine ⟨h.q.kept ho ?_ ?_, by simpa [i64s] using hl, (ho.block _ (row_lt h.s) ?_).trans h.s, h.o.trans ho ?_, ?_, Nat.le_trans h.z ho.size⟩
  · rintro (e | e)
    · exact ha.bL e
    · have := (h.l.blk _ e).1; omega
  · rintro k hk (e | e)
    · rcases (h.q.blk _ hk).1 with e2 | e2
      · exact ha.bL (by omega)
      · omega
    · exact h.d k hk e
  · rintro (e | e)
    · exact ha.sL e
    · have := (h.l.blk _ e).1; omega
  · rintro k _ (e | e)
    · exact .inr (.inr (.inl e))
    · exact .inr (.inr (.inr (h.l.blk _ e).1))
  · intro k hk hv
    rcases hw with e | ⟨k', e, hk'⟩
    · exact h.d k hk (by rw [← e]; exact hv)
    · have : k' = k := by rw [e] at hv; exact Option.some.inj hv
      have := (h.q.blk k hk).2
      omega
end

end Go.Proofs.Ybulkdxai
