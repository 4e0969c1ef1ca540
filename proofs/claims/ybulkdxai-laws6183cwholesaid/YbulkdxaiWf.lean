/-
  THE CALLS of reach, by what they do to Mv.
-/
import Derived.Test.YbulkdxaiWe
namespace Go.Proofs.Ybulkdxai
open Go.RowKit

/-- The bounds. -/
structure Bd (b : Bk) (R : Rn) : Prop where
  n : b.n < 2 ^ 30
  tot : b.tot < 2 ^ 30
  ns : b.ns < 2 ^ 30
  wn : b.n ≤ b.wn * 64
  W : ∀ j, R.W j < 18446744073709551616
  S : ∀ j, R.S j < b.n
  T : ∀ e, R.T e < b.n
  F : ∀ v, R.F (v + 1) - R.F v ≤ 7
  F1 : ∀ v, v < b.n → R.F v ≤ R.F (v + 1) ∧ R.F (v + 1) ≤ b.tot
  al : b.al < 2 ^ 48

section
variable {b : Bk} {R : Rn} {AB : Nat → Bool} {init : List Value} {w0 : World} {qv v : Value} {L Gl : List Nat} {w : World}

theorem has_m (hd : Bd b R) (h : Mv b init w0 qv v (wL R.W L) L Gl w) (i wc : Nat) (hi : i < b.n) :
    Calls Yba.prog 10 #[.slice (some ⟨b.Sb, 0, none⟩) b.wn wc, .int .i64 i] w fun e w' => e = .returned (.bool (R.sn L i)) ∧ Mv b init w0 qv v (wL R.W L) L Gl w' := by
  have := hd.wn
  have := hd.n
  refine (has_c b.Sb b.wn wc i (wL R.W L (i / 64)) w (by omega) (by omega) (wL_lt L hd.W _) (wd_cell h.s (by omega))).mono ?_
  rintro _ _ ⟨rfl, q, rfl⟩
  exact ⟨by rw [← R.sn_wL L i]; rfl, h.still (out_drewN _ _)⟩

theorem set_m (hd : Bd b R) (ha : Ap b) (h : Mv b init w0 qv v (wL R.W L) L Gl w) (i wc : Nat) (hi : i < b.n) :
    Calls Yba.prog 11 #[.slice (some ⟨b.Sb, 0, none⟩) b.wn wc, .int .i64 i] w fun e w' => e = .returned (.tuple #[]) ∧ Mv b init w0 qv v (wL R.W (L ++ [i])) L Gl w' := by
  have := hd.wn
  have := hd.n
  refine (set_c b.Sb b.wn wc i (wL R.W L (i / 64)) w (by omega) (by omega) (wL_lt L hd.W _) (wd_cell h.s (by omega)) (frozen_of_row w _ _ _ _ h.s)).mono ?_
  rintro _ _ ⟨rfl, q, rfl⟩
  exact ⟨rfl, by rw [wL_snoc]; exact h.set ha (by omega)⟩

theorem edges_m (hd : Bd b R) (ha : Ap b) (he : En b R AB w0) {Wf : Nat → Nat} (h : Mv b init w0 qv v Wf L Gl w) (i : Nat) (hi : i < b.n) :
    Calls Yba.prog 12 #[.pointer (some ⟨b.G, 0, none⟩), .int .i64 i] w fun e w' => e = .returned (.tuple #[.int .i64 (R.F i), .int .i64 (R.F (i + 1))]) ∧ Mv b init w0 qv v Wf L Gl w' := by
  have he' := he.later ha h.o
  obtain ⟨c, hc⟩ := he'.g13
  have := hd.n
  have := hd.tot
  have h1 := hd.F1 i hi
  refine (edges_c b.G b.Fb (b.n + 1) c i (R.F i) (R.F (i + 1)) w (by omega) (by omega) hc (he'.fF i (by omega)) (he'.fF (i + 1) (by omega)) ⟨by omega, by omega⟩ ⟨by omega, by omega⟩).mono ?_
  rintro _ _ ⟨rfl, q, rfl⟩
  exact ⟨rfl, h.still (out_drewN _ _)⟩

theorem target_m (hd : Bd b R) (ha : Ap b) (he : En b R AB w0) {Wf : Nat → Nat} (h : Mv b init w0 qv v Wf L Gl w) (e : Nat) (hi : e < b.tot) :
    Calls Yba.prog 13 #[.pointer (some ⟨b.G, 0, none⟩), .int .i64 e] w fun x w' => x = .returned (.int .i64 (R.T e)) ∧ w = w' := by
  have he' := he.later ha h.o
  obtain ⟨c, hc⟩ := he'.g11
  have := hd.n
  have := hd.T e
  exact target_c b.G b.Tb b.tot c e (R.T e) w hi hc (he'.fT e hi) ⟨by omega, by omega⟩

theorem follow_m (hd : Bd b R) (ha : Ap b) (hA : R.A = AC b.al AB) (he : En b R AB w0) {Wf : Nat → Nat} (h : Mv b init w0 qv v Wf L Gl w) (n e : Nat) (hi : e < b.tot) (hg : Gl.length < 2 ^ 39) :
    Calls Yba.prog 6 #[.int .i64 n, .int .i64 e, .pointer (some ⟨b.Lg, 0, none⟩), .pointer (some ⟨b.Pa, 0, none⟩)] w fun x w' => x = .returned (.bool (R.A e)) ∧ ∃ v', Mv b init w0 qv v' Wf L (Gl ++ [n, e]) w' := by
  have he' := he.later ha h.o
  have := hd.tot
  have h2 := ha.lL
  obtain ⟨va, vc, rfl⟩ := own_slice h.l.2
  have nd : ∀ k, ¬ b.Dyn k → k < b.base ∧ k ≠ b.Lg := fun k hk => by
    unfold Bk.Dyn at hk
    omega
  refine (follow_c b.base b.Lg b.Pa b.P b.aa b.al b.ac AB n e va vc (i64s Gl) w (by omega) hd.al (by simp [i64s]; omega) h.z h.l he'.cPa he'.cP he'.br ⟨(nd _ ha.dPa).1, (nd _ ha.dP).1⟩ (fun ad e => (nd _ (ha.dA ad e)).1) h2 ⟨fun e => (nd _ ha.dPa).2 e.symm, fun e => (nd _ ha.dP).2 e.symm⟩ (fun ad e => (nd _ (ha.dA ad e)).2)).mono ?_
  rintro _ w' ⟨rfl, v', hl, ho, hw⟩
  exact ⟨by rw [hA], v', h.fol ha hl ho hw⟩

theorem wpList_qm {ops : Array Oper} {rest : List Oper} {o : Oper} {a : Act} {Q : Exit → Act → World → Prop} (hgd : o.guard = none) (s x : Operand)
    (ho : o.op = .call { callee := .builtin .append, args := #[s, x], argTypes := #[23, 23] }) (ha : Ap b) {Wf : Nat → Nat} (h : Mv b init w0 qv v Wf L Gl w) (y : Nat) (hs : a.eval s = qv) (hx : a.eval x = .slice (some ⟨w.heap.size, 0, none⟩) 1 1) (hL : L.length < 2 ^ 40)
    (hK : ∀ qv' w', Mv b init w0 qv' v Wf (L ++ [y]) Gl w' → wpList Yba.prog ops Q rest (a.put o.dst qv') w') :
    wpList Yba.prog ops Q (o :: rest) a (w.alloc (.cells #[.int .u32 (y : Int)] 26)) := by
  have h' := h.still (out_alloc w (.cells #[.int .u32 (y : Int)] 26))
  refine wpList_q hgd s x ho b.B b.base init (u32s L) qv hs h'.q ⟨w.heap.size, 0, none⟩ hx (.int .u32 (y : Int)) (cell_one_new _ _ _) rfl h'.z ha.lB (by simp [u32s]; omega) ?_
  intro qv' w' h1 h2 h3
  exact hK qv' w' (h'.app ha h1 h2 h3)
end

end Go.Proofs.Ybulkdxai
