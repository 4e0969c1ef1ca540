/-
  LawS6181BWhole: rising (22), ITS GREAT LOOP.
-/
import Derived.Test.YbulkdwzgRt
namespace Go.Proofs.Ybulkdwzg.lawB
open Go.RowKit

theorem and_all : ((List.range 513).all fun v => bits .and .i64 (v : Int) (-(v : Int)) == (low v : Int)) = true := by decide +kernel
theorem and_low {v : Nat} (h : v ≤ 512) : bits .and .i64 (v : Int) (-(v : Int)) = (low v : Int) := by
  have := List.all_eq_true.1 and_all v (List.mem_range.2 (by omega))
  simpa using this

def two (r : Rn) (j : Nat) : Value := if j % 2 = 0 then .int .i64 (r.1 : Int) else .int .i64 (en r.2)

/-- What stands in the great loop: the tree B; ip places of prev; the best of it runs. -/
structure Mn (SB WB P0 BB PB TB n m sc : Nat) (S Wt : Nat → Nat) (B : Nat → Rn) (ip it : Nat) (w : World) : Prop where
  s : RW w SB 3 (fun j => .int .i64 (S j : Nat)) n
  wt : RW w WB 3 (fun j => .int .i64 (Wt j : Nat)) n
  p : RW w P0 26 (fun _ => .slice (some ⟨SB, 0, none⟩) n sc) 1
  b : R2 w BB 85 (fun v => .int .i64 ((B v).1 : Nat)) (fun v => .int .i64 (en (B v).2)) (m + 1)
  pv : RW w PB 3 (fun j => .int .i64 (if j < ip then en (Pv S Wt j) else 0)) n
  t : RW w TB 85 (two (tp S Wt it)) 2
/-- The blocks' order. -/
structure Od (SB WB P0 BB PB TB : Nat) : Prop where
  s : SB < P0
  w : WB < P0
  p : P0 < BB
  b : BB < PB
  t : PB < TB
section
variable {SB WB P0 BB PB TB n m sc : Nat} {S Wt : Nat → Nat} {B : Nat → Rn} {ip it : Nat}
theorem Mn.same {w w' : World} (h : Mn SB WB P0 BB PB TB n m sc S Wt B ip it w) (o : Od SB WB P0 BB PB TB) (k : ∀ b, b ≤ TB → w'.heap[b]? = w.heap[b]?) : Mn SB WB P0 BB PB TB n m sc S Wt B ip it w' := by
  obtain ⟨o1, o2, o3, o4, o5⟩ := o
  exact ⟨(k SB (by omega)).trans h.s, (k WB (by omega)).trans h.wt, (k P0 (by omega)).trans h.p, (k BB (by omega)).trans h.b, (k PB (by omega)).trans h.pv, (k TB (by omega)).trans h.t⟩
theorem Mn.later {w w' : World} (h : Mn SB WB P0 BB PB TB n m sc S Wt B ip it w) (o : Od SB WB P0 BB PB TB) (hb : Below w.heap.size w w') : Mn SB WB P0 BB PB TB n m sc S Wt B ip it w' :=
  h.same o fun b hl => hb.block b (Nat.lt_of_le_of_lt hl h.t.lt)
theorem Mn.set {w : World} (h : Mn SB WB P0 BB PB TB n m sc S Wt B ip it w) (o : Od SB WB P0 BB PB TB) {a : Addr} (ha : TB < a.block) (v : Value) : Mn SB WB P0 BB PB TB n m sc S Wt B ip it (w.setCell a v) :=
  h.same o fun _ hl => heap_setCell_other w a _ v (by omega)
theorem Mn.alloc {w : World} (h : Mn SB WB P0 BB PB TB n m sc S Wt B ip it w) (o : Od SB WB P0 BB PB TB) (x : Obj) : Mn SB WB P0 BB PB TB n m sc S Wt B ip it (w.alloc x) :=
  h.same o fun _ hl => heap_alloc_old w x (Nat.lt_of_le_of_lt hl h.t.lt)
theorem Mn.setPv {w : World} (h : Mn SB WB P0 BB PB TB n m sc S Wt B ip it w) (o : Od SB WB P0 BB PB TB) (hi : ip < n) : Mn SB WB P0 BB PB TB n m sc S Wt B (ip + 1) it (w.setCell ⟨PB, ip, none⟩ (.int .i64 (en (Pv S Wt ip)))) := by
  obtain ⟨o1, o2, o3, o4, o5⟩ := o
  refine ⟨h.s.other (by show SB ≠ PB; omega) _, h.wt.other (by show WB ≠ PB; omega) _, h.p.other (by show P0 ≠ PB; omega) _, RW.other h.b (by show BB ≠ PB; omega) _, h.pv.set hi _ _ (fun j hj => ?_), h.t.other (by show TB ≠ PB; omega) _⟩
  by_cases e : j = ip
  · subst e; rw [if_pos rfl, if_pos (by omega)]
  · rw [if_neg e]
    by_cases e2 : j < ip
    · rw [if_pos e2, if_pos (by omega)]
    · rw [if_neg e2, if_neg (by omega)]
theorem Mn.setB {w : World} (h : Mn SB WB P0 BB PB TB n m sc S Wt B ip it w) (o : Od SB WB P0 BB PB TB) {v : Nat} (hv : v < m + 1) (r : Rn) : Mn SB WB P0 BB PB TB n m sc S Wt (fun t => if t = v then r else B t) ip it ((w.setCell ⟨BB, v * 2, none⟩ (.int .i64 (r.1 : Nat))).setCell ⟨BB, v * 2 + 1, none⟩ (.int .i64 (en r.2))) := by
  obtain ⟨o1, o2, o3, o4, o5⟩ := o
  refine ⟨(h.s.other (by show SB ≠ BB; omega) _).other (by show SB ≠ BB; omega) _, (h.wt.other (by show WB ≠ BB; omega) _).other (by show WB ≠ BB; omega) _, (h.p.other (by show P0 ≠ BB; omega) _).other (by show P0 ≠ BB; omega) _, (h.b.set hv _ _).congr (fun j hj => ?_) (fun j hj => ?_), (h.pv.other (by show PB ≠ BB; omega) _).other (by show PB ≠ BB; omega) _, (h.t.other (by show TB ≠ BB; omega) _).other (by show TB ≠ BB; omega) _⟩
  · split <;> rfl
  · split <;> rfl
theorem Mn.setT {w : World} (h : Mn SB WB P0 BB PB TB n m sc S Wt B ip it w) (o : Od SB WB P0 BB PB TB) {r : Rn} (hr : r = tp S Wt (it + 1)) : Mn SB WB P0 BB PB TB n m sc S Wt B ip (it + 1) ((w.setCell ⟨TB, 0, none⟩ (.int .i64 (r.1 : Nat))).setCell ⟨TB, 1, none⟩ (.int .i64 (en r.2))) := by
  obtain ⟨o1, o2, o3, o4, o5⟩ := o
  refine ⟨(h.s.other (by show SB ≠ TB; omega) _).other (by show SB ≠ TB; omega) _, (h.wt.other (by show WB ≠ TB; omega) _).other (by show WB ≠ TB; omega) _, (h.p.other (by show P0 ≠ TB; omega) _).other (by show P0 ≠ TB; omega) _, RW.other (RW.other h.b (by show BB ≠ TB; omega) _) (by show BB ≠ TB; omega) _, (h.pv.other (by show PB ≠ TB; omega) _).other (by show PB ≠ TB; omega) _, ?_⟩
  have h1 := h.t.set (j := 0) (by omega) (.int .i64 (r.1 : Nat)) (fun j => if j = 0 then .int .i64 (r.1 : Nat) else two (tp S Wt it) j) (fun j _ => rfl)
  refine h1.set (j := 1) (by omega) _ _ (fun j hj => ?_)
  rw [← hr]
  match j, hj with
  | 0, _ => rfl
  | 1, _ => rfl
end
theorem two_set {w : World} {b : Nat} {f : Nat → Value} (h : RW w b 85 f 2) (r : Rn) : RW ((w.setCell ⟨b, 0, none⟩ (.int .i64 (r.1 : Nat))).setCell ⟨b, 1, none⟩ (.int .i64 (en r.2))) b 85 (two r) 2 := by
  have h1 := h.set (j := 0) (by omega) (.int .i64 (r.1 : Nat)) (fun j => if j = 0 then .int .i64 (r.1 : Nat) else f j) (fun j _ => rfl)
  refine h1.set (j := 1) (by omega) _ _ (fun j hj => ?_)
  match j, hj with
  | 0, _ => rfl
  | 1, _ => rfl
theorem below_draw {q : Nat} {w w' : World} (h : Below (w.drewN q).heap.size (w.drewN q) w') : Below w.heap.size w w' := ⟨h.os, h.tape, h.output, h.size, h.block⟩

end Go.Proofs.Ybulkdwzg.lawB
