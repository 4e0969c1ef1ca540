/-
  WALK of ownOn (12).
-/
import Derived.Test.YbulkdxawDoorWb
import Derived.LaidEqlPtr
namespace Go.Proofs.YbulkdxawDoor
open Go.RowKit

/-- The first of the locks in span p of the first queue. -/
def fst (b : Bs) (D : Lk) (n p : Nat) : Option Addr := if p < 4 then hd D b.L false p n else none

theorem lk_at (b : Bs) (D : Lk) (i : Nat) : (b.lk D i)[1]? = some (.pointer (some ⟨if D.K i then b.Q2 else b.Q1, 0, none⟩)) ∧ (b.lk D i)[2]? = some (.pointer (hd D b.L (D.K i) (D.H i / 1024) i)) ∧ (b.lk D i)[4]? = some (.int .u32 ((D.H i / 1024 : Nat) : Int)) ∧ (b.lk D i)[6]? = some (.int .u8 (D.M i)) := ⟨rfl, rfl, rfl, rfl⟩

theorem info31 : (Ybad.prog.info? 31).map (fun i => (i.zero, i.size, i.bytes)) = some (some (.agg #[.nilFunc, .slice none 0 0, .map none, .map none, .int .u64 0]), 5, 56) := by kernel_rfl
theorem same24 (a : Addr) (w : World) : (binOp .eql 24 (.pointer (some a)) (.pointer (some a))).run Ybad.prog w = .ok (.bool true) w := by
  obtain ⟨i0, hi, _⟩ := info_parts info31
  exact run_eql_ptr_same w a Ybad.underlying24 hi
theorem other24 {a b : Nat} (w : World) (hne : a ≠ b) (ha : ∃ cs t, w.heap[a]? = some (.cells cs t (0, 0))) (hb : ∃ cs t, w.heap[b]? = some (.cells cs t (0, 0))) :
    (binOp .eql 24 (.pointer (some ⟨a, 0, none⟩)) (.pointer (some ⟨b, 0, none⟩))).run Ybad.prog w = .ok (.bool false) w := by
  obtain ⟨i0, hi, hz0, hz1, hz2⟩ := info_parts info31
  obtain ⟨cs, t, ha⟩ := ha
  obtain ⟨cs', t', hb⟩ := hb
  exact run_eql_ptr_other w Ybad.underlying24 hi (by rw [hz1]; decide) (fun e => hne (congrArg Addr.block e)) ha hb
theorem later_ex {w w' : World} {a : Nat} (h : ∃ cs t, w.heap[a]? = some (.cells cs t (0, 0))) (ho : Out (fun _ => False) w w') : ∃ cs t, w'.heap[a]? = some (.cells cs t (0, 0)) := by
  obtain ⟨cs, t, hq⟩ := h
  exact ⟨cs, t, (ho.block _ (row_lt hq) (fun f => f)).trans hq⟩

set_option maxRecDepth 100000 in
set_option maxHeartbeats 2000000 in
theorem ownOn_some (b : Bs) (D : Lk) (n : Nat) (of : Bool) (rv : Value) (p : Nat) (j : Nat) (w : World) (he : Ev b D n of w) (hj : j < n) (hK : D.K j = false) (hS : D.H j / 1024 = p) (ht : TR w b rv (some ⟨b.L j, 0, none⟩)) :
    Calls Ybad.prog 12 #[.pointer (some ⟨b.T, 0, none⟩), .pointer (some ⟨b.Q1, 0, none⟩), .int .u32 p] w fun e w' => e = .returned (.pointer (some ⟨b.L j, 0, none⟩)) ∧ w = w' := by
  have c1 := ht.last
  have c2 := he.lk j hj 1 _ (lk_at b D j).1
  have c3 := he.lk j hj 4 _ (lk_at b D j).2.2.1
  rw [hK] at c2
  rw [hS] at c3
  simp only [Bool.false_eq_true, if_false] at c2
  have h24 := same24
  clear ht he hS hK
  go_enter Ybad.func12, Ybad.ntmps12
  go_wp2
  go_ret
  exact ⟨rfl, rfl⟩

set_option maxRecDepth 100000 in
set_option maxHeartbeats 2000000 in
theorem ownOn_f (b : Bs) (D : Lk) (n : Nat) (rv : Value) (p : Nat) (hp : p < 4294967296) (w : World) (he : Ev b D n false w) (ht : TR w b rv none) :
    Calls Ybad.prog 12 #[.pointer (some ⟨b.T, 0, none⟩), .pointer (some ⟨b.Q1, 0, none⟩), .int .u32 p] w fun e w' => e = .returned (.pointer (fst b D n p)) ∧ Out (fun k => k = b.T) w w' ∧ TR w' b rv (fst b D n p) := by
  have HO : Hid (∀ X, Out (fun _ => False) w (w.alloc X)) := fun X => out_alloc w X
  have c1 := ht.last
  have c2 := ht.own
  have o0 := he.o0
  have o1 := he.o1
  have o2 := he.o2
  simp only [Bool.false_eq_true, if_false] at o0 o1
  have h24 := same24
  have HO2 : Hid (∀ X, Out (fun k => k = b.T) w (w.alloc X)) := fun X => (Out.refl _ w).trans (HO.out _) (fun _ _ f => f.elim)
  have HT : Hid (TR w b rv none) := ht
  unfold fst
  by_cases h4 : p < 4
  · have h4I : (p : Int) < 4 := by omega
    have cs : ∀ X, (w.alloc X).cell? ⟨b.S1, p, none⟩ = some (.pointer (hd D b.L false p n)) := fun X => (HO.out _).cell (he.sp p h4) (fun f => f)
    rw [if_pos h4]
    cases hh : hd D b.L false p n with
    | none =>
      rw [hh] at cs
      clear he ht hh
      go_enter Ybad.func12, Ybad.ntmps12
      go_wp2
      refine wp_loop_rounds 1 ?_
      rw [rounds_succ]
      go_wp2
      go_ret
      exact ⟨rfl, HO2.out _, HT.out.later (HO.out _)⟩

    | some ad =>
      rw [hh] at cs
      have f1 : ∀ X, (w.alloc X).frozen? ⟨b.T, 6, none⟩ = false := fun X => frozen_of_row _ _ _ _ _ (ht.later (HO.out _))
      have c3 : ∀ X, (w.alloc X).cell? ⟨b.T, 6, none⟩ = some (.pointer none) := fun X => (ht.later (HO.out _)).last
      clear he ht hh
      go_enter Ybad.func12, Ybad.ntmps12
      go_wp2
      refine wp_loop_rounds 1 ?_
      rw [rounds_succ]
      go_wp2
      go_ret
      refine ⟨rfl, (HO2.out _).trans (out_set _ _ _) (fun _ _ e => e), (HT.out.later (HO.out _)).set _⟩

  · have h4I : (4 : Int) ≤ (p : Int) := by omega
    rw [if_neg h4]
    clear he ht
    go_enter Ybad.func12, Ybad.ntmps12
    go_wp2
    refine wp_loop_rounds 1 ?_
    rw [rounds_succ]
    go_wp2
    go_ret
    exact ⟨rfl, HO2.out _, HT.out.later (HO.out _)⟩

set_option maxRecDepth 100000 in
set_option maxHeartbeats 2000000 in
theorem ownOn_t (b : Bs) (D : Lk) (n : Nat) (rv : Value) (p : Nat) (hp : p < 4294967296) (w : World) (he : Ev b D n true w) (ht : TR w b rv none) :
    Calls Ybad.prog 12 #[.pointer (some ⟨b.T, 0, none⟩), .pointer (some ⟨b.Q1, 0, none⟩), .int .u32 p] w fun e w' => e = .returned (.pointer (fst b D n p)) ∧ Out (fun k => k = b.T) w w' ∧ TR w' b rv (fst b D n p) := by
  have HO : Hid (∀ X Y, Out (fun _ => False) w ((w.alloc X).alloc Y)) := fun X Y => (out_alloc w X).trans (out_alloc _ Y) (fun _ _ f => f)
  have c1 := ht.last
  have c2 := ht.own
  have o0 := he.o0
  have o1 := he.o1
  have o2 := he.o2
  have o3 : ∀ X, (w.alloc X).cell? ⟨b.OB, 3, none⟩ = some (.pointer (some ⟨b.Q1, 0, none⟩)) := fun X => (out_alloc w X).cell he.o3 (fun f => f)
  have o4 : ∀ X, (w.alloc X).cell? ⟨b.OB, 4, none⟩ = some (.slice (some ⟨b.S1, 0, none⟩) 4 4) := fun X => (out_alloc w X).cell he.o4 (fun f => f)
  have o5 : ∀ X, (w.alloc X).cell? ⟨b.OB, 5, none⟩ = some (.slice none 0 0) := fun X => (out_alloc w X).cell he.o5 (fun f => f)
  have hx : ∀ X, (binOp .eql 24 (.pointer (some ⟨b.Q2, 0, none⟩)) (.pointer (some ⟨b.Q1, 0, none⟩))).run Ybad.prog (w.alloc X) = .ok (.bool false) (w.alloc X) := fun X => other24 _ (fun e => he.dq e.symm) (later_ex he.q2 (out_alloc w X)) (later_ex he.q1 (out_alloc w X))
  simp only [if_true] at o0 o1
  have h24 := same24
  have HO2 : Hid (∀ X Y, Out (fun k => k = b.T) w ((w.alloc X).alloc Y)) := fun X Y => (Out.refl _ w).trans (HO.out _ _) (fun _ _ f => f.elim)
  have HT : Hid (TR w b rv none) := ht
  unfold fst
  by_cases h4 : p < 4
  · have h4I : (p : Int) < 4 := by omega
    have cs : ∀ X Y, ((w.alloc X).alloc Y).cell? ⟨b.S1, p, none⟩ = some (.pointer (hd D b.L false p n)) := fun X Y => (HO.out _ _).cell (he.sp p h4) (fun f => f)
    rw [if_pos h4]
    cases hh : hd D b.L false p n with
    | none =>
      rw [hh] at cs
      clear he ht hh
      go_enter Ybad.func12, Ybad.ntmps12
      go_wp2
      refine wp_loop_rounds 2 ?_
      rw [rounds_succ]
      go_wp2
      rw [rounds_succ]
      go_wp2
      go_ret
      exact ⟨rfl, HO2.out _ _, HT.out.later (HO.out _ _)⟩

    | some ad =>
      rw [hh] at cs
      have f1 : ∀ X Y, ((w.alloc X).alloc Y).frozen? ⟨b.T, 6, none⟩ = false := fun X Y => frozen_of_row _ _ _ _ _ (ht.later (HO.out _ _))
      have c3 : ∀ X Y, ((w.alloc X).alloc Y).cell? ⟨b.T, 6, none⟩ = some (.pointer none) := fun X Y => (ht.later (HO.out _ _)).last
      clear he ht hh
      go_enter Ybad.func12, Ybad.ntmps12
      go_wp2
      refine wp_loop_rounds 2 ?_
      rw [rounds_succ]
      go_wp2
      rw [rounds_succ]
      go_wp2
      go_ret
      refine ⟨rfl, (HO2.out _ _).trans (out_set _ _ _) (fun _ _ e => e), (HT.out.later (HO.out _ _)).set _⟩

  · have h4I : (4 : Int) ≤ (p : Int) := by omega
    rw [if_neg h4]
    clear he ht
    go_enter Ybad.func12, Ybad.ntmps12
    go_wp2
    refine wp_loop_rounds 2 ?_
    rw [rounds_succ]
    go_wp2
    rw [rounds_succ]
    go_wp2
    go_ret
    exact ⟨rfl, HO2.out _ _, HT.out.later (HO.out _ _)⟩

theorem ownOn_c (b : Bs) (D : Lk) (n : Nat) (of : Bool) (rv : Value) (p : Nat) (hp : p < 4294967296) (la : Option Addr) (w : World) (he : Ev b D n of w) (hla : la = none ∨ la = fst b D n p) (ht : TR w b rv la) :
    Calls Ybad.prog 12 #[.pointer (some ⟨b.T, 0, none⟩), .pointer (some ⟨b.Q1, 0, none⟩), .int .u32 p] w fun e w' => e = .returned (.pointer (fst b D n p)) ∧ Out (fun k => k = b.T) w w' ∧ TR w' b rv (fst b D n p) := by
  have h0 : TR w b rv none → Calls Ybad.prog 12 #[.pointer (some ⟨b.T, 0, none⟩), .pointer (some ⟨b.Q1, 0, none⟩), .int .u32 p] w fun e w' => e = .returned (.pointer (fst b D n p)) ∧ Out (fun k => k = b.T) w w' ∧ TR w' b rv (fst b D n p) := fun ht => by
    cases of
    · exact ownOn_f b D n rv p hp w he ht
    · exact ownOn_t b D n rv p hp w he ht
  rcases hla with rfl | rfl
  · exact h0 ht
  · cases hf : fst b D n p with
    | none => rw [hf] at ht h0; exact h0 ht
    | some ad =>
      have hf2 := hf
      unfold fst at hf
      split at hf
      · rcases hd_cases D b.L false p n with ⟨h1, _⟩ | ⟨j, h1, h2, h3, h4, _⟩
        · rw [h1] at hf; cases hf
        · rw [h4] at hf
          cases hf
          rw [hf2] at ht
          refine (ownOn_some b D n of rv p j w he h1 h2 h3 ht).mono ?_
          rintro _ _ ⟨rfl, rfl⟩
          exact ⟨rfl, Out.refl _ _, ht⟩
      · cases hf

end Go.Proofs.YbulkdxawDoor
