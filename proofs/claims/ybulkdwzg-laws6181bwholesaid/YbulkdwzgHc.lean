/-
  LawS6181BWhole: WALK of the law's weight closure (11).
-/
import Derived.Test.YbulkdwzgRa
namespace Go.Proofs.Ybulkdwzg.lawB
open Go.RowKit

theorem wt_pos (n : Nat) (Z : Nat → Nat) (p : Pr) : 0 < WT n Z p := by unfold WT; split <;> omega
theorem wt_le (n : Nat) (Z : Nat → Nat) (p : Pr) : WT n Z p ≤ 8 := by unfold WT; split <;> omega
/-- What the closure reads: its counter's block, the box of the weights, the weights. -/
structure Wc (CB WSP : Nat) (wa : Option Addr) (nw wc : Nat) (Z : Nat → Nat) (k : Nat) (w : World) : Prop where
  c : RW w CB 3 (fun _ => .int .i64 (k : Nat)) 1
  s : w.cell? ⟨WSP, 0, none⟩ = some (.slice wa nw wc)
  y : BY w wa nw Z
  n : WSP ≠ CB
  a : ∀ ad, wa = some ad → ad.block ≠ CB
theorem BY.out {D : Nat → Prop} {w w' : World} {a : Option Addr} {n : Nat} {Z : Nat → Nat} (h : BY w a n Z) (o : Out D w w') (hd : ∀ ad, a = some ad → ¬ D ad.block) : BY w' a n Z := fun h0 => by
  obtain ⟨b, off, e, hc⟩ := h h0
  exact ⟨b, off, e, fun j hj => o.cell (hc j hj) (hd ⟨b, off, none⟩ e)⟩
theorem out_set (w : World) (a : Addr) (v : Value) : Out (fun k => k = a.block) w (w.setCell a v) := ⟨rfl, rfl, rfl, by simp [World.setCell], fun k _ hk => heap_setCell_other _ _ _ _ hk⟩
theorem out_alloc (D : Nat → Prop) (w : World) (o : Obj) : Out D w (w.alloc o) := ⟨rfl, rfl, rfl, by simp, fun _ hk _ => heap_alloc_old w o hk⟩
theorem out_below {D : Nat → Prop} {w w' : World} (h : Below w.heap.size w w') : Out D w w' := ⟨h.os, h.tape, h.output, h.size, fun k hk _ => h.block k hk⟩
theorem Wc.out {CB WSP : Nat} {wa : Option Addr} {nw wc : Nat} {Z : Nat → Nat} {k : Nat} {w w' : World} {D : Nat → Prop} (h : Wc CB WSP wa nw wc Z k w) (o : Out D w w') (h1 : ¬ D CB) (h2 : ¬ D WSP) (h3 : ∀ ad, wa = some ad → ¬ D ad.block) : Wc CB WSP wa nw wc Z k w' :=
  ⟨(o.block CB h.c.lt h1).trans h.c, o.cell h.s h2, h.y.out o h3, h.n, h.a⟩

set_option maxHeartbeats 2000000 in
theorem wcl_c (p : Pr) (CB WSP : Nat) (wa : Option Addr) (nw wc k : Nat) (Z : Nat → Nat) (w : World) (hk : k < 2 ^ 40) (hnw : nw ≤ 1048576) (hZ : ∀ j, j < nw → Z j < 256) (h : Wc CB WSP wa nw wc Z k w) :
    Calls Yba.prog 11 #[pv p, .pointer (some ⟨CB, 0, none⟩), .pointer (some ⟨WSP, 0, none⟩)] w fun e w' => e = .returned (.int .i64 (WT nw Z p : Nat)) ∧ Wc CB WSP wa nw wc Z (k + 1) w' ∧ Out (fun b => b = CB) w w' := by
  have hcb : CB ≠ w.heap.size := by have := h.c.lt; omega
  have ha := h.c.alloc (.cells #[.int .i64 p.1, .int .i64 p.2] 57)
  have hc := ha.cell (j := 0) (by omega)
  have hf := ha.frozen 0
  have hs1 : Out (fun b => b = CB) w ((w.alloc (.cells #[.int .i64 p.1, .int .i64 p.2] 57)).setCell ⟨CB, 0, none⟩ (.int .i64 ((k : Int) + 1))) := (out_alloc _ w _).trans (out_set _ _ _) (fun i _ h => h)
  have hW1 : Wc CB WSP wa nw wc Z (k + 1) ((w.alloc (.cells #[.int .i64 p.1, .int .i64 p.2] 57)).setCell ⟨CB, 0, none⟩ (.int .i64 ((k : Int) + 1))) := by
    refine ⟨ha.set (j := 0) (by omega) _ _ (fun j hj => ?_), hs1.cell h.s h.n, h.y.out hs1 h.a, h.n, h.a⟩
    rw [if_pos (by omega)]
    congr 1
  have cb0 : ((w.alloc (.cells #[.int .i64 p.1, .int .i64 p.2] 57)).setCell ⟨CB, 0, none⟩ (.int .i64 ((k : Int) + 1))).cell? ⟨w.heap.size, 0, none⟩ = some (.int .i64 p.1) := by
    rw [World.cell?_setCell_other _ _ _ _ (fun e => by simp only [Addr.mk.injEq] at e; omega)]; simp
  have cb1 : ((w.alloc (.cells #[.int .i64 p.1, .int .i64 p.2] 57)).setCell ⟨CB, 0, none⟩ (.int .i64 ((k : Int) + 1))).cell? ⟨w.heap.size, 1, none⟩ = some (.int .i64 p.2) := by
    rw [World.cell?_setCell_other _ _ _ _ (fun e => by simp only [Addr.mk.injEq] at e; omega)]; simp
  have cs := hW1.s
  have hcall := weight_c p wa nw wc Z hnw _ hW1.y hZ
  unfold pv at hcall ⊢
  generalize hw1 : (w.alloc (.cells #[.int .i64 p.1, .int .i64 p.2] 57)).setCell ⟨CB, 0, none⟩ (.int .i64 ((k : Int) + 1)) = w1 at hs1 hW1 cb0 cb1 cs hcall
  have HW1 : Hid (Wc CB WSP wa nw wc Z (k + 1) w1) := hW1
  have HS1 : Hid (Out (fun b => b = CB) w w1) := hs1
  clear h hW1 hs1 ha
  go_enter Yba.func11, Yba.ntmps11
  go_wp2_with (go_at_call 12; refine hcall.mono ?_; rintro e w2 ⟨rfl, hb2⟩)
  go_ret
  exact ⟨rfl, HW1.out.out (out_below (D := fun _ => False) hb2) id id (fun _ _ => id), HS1.out.trans (out_below (D := fun _ => False) hb2) (fun _ _ h => h.elim)⟩
theorem wcl_at (p : Pr) (CB WSP : Nat) (wa : Option Addr) (nw wc k : Nat) (Z : Nat → Nat) (w : World) (q : Nat) (hk : k < 2 ^ 40) (hnw : nw ≤ 1048576) (hZ : ∀ j, j < nw → Z j < 256) (h : Wc CB WSP wa nw wc Z k w) :
    Calls Yba.prog 11 #[.agg #[.int .i64 p.1, .int .i64 p.2], .pointer (some ⟨CB, 0, none⟩), .pointer (some ⟨WSP, 0, none⟩)] (w.drewN q) fun e w' => e = .returned (.int .i64 (WT nw Z p : Nat)) ∧ Wc CB WSP wa nw wc Z (k + 1) w' ∧ Out (fun b => b = CB) w w' := by
  have h' : Wc CB WSP wa nw wc Z k (w.drewN q) := ⟨h.c, h.s, h.y, h.n, h.a⟩
  exact (wcl_c p CB WSP wa nw wc k Z (w.drewN q) hk hnw hZ h').mono fun _ _ ⟨he, hW, ho⟩ => ⟨he, hW, ho.os, ho.tape, ho.output, ho.size, ho.block⟩

end Go.Proofs.Ybulkdwzg.lawB
