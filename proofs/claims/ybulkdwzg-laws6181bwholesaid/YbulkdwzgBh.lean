/-
  LawS6181BWhole: WALK of rising's better (28).
-/
import Derived.Test.YbulkdwzgBb
namespace Go.Proofs.Ybulkdwzg.lawB
open Go.RowKit

/-- A run: what it weighs, where it ends. -/
abbrev Rn : Type := Nat × Option Nat
def en : Option Nat → Int
  | none => -1
  | some x => (x : Int)
def rv (r : Rn) : Value := .agg #[.int .i64 (r.1 : Int), .int .i64 (en r.2)]
def rb (S : Nat → Nat) (a b : Rn) : Bool :=
  if a.1 ≠ b.1 then decide (b.1 < a.1) else match a.2, b.2 with
    | some x, some y => if S x ≠ S y then decide (S x < S y) else decide (y < x)
    | _, _ => false

set_option maxHeartbeats 4000000 in
theorem rbet_c (S : Nat → Nat) (a b : Rn) (P SB n c : Nat) (w : World) (hP : w.cell? ⟨P, 0, none⟩ = some (.slice (some ⟨SB, 0, none⟩) n c)) (hS : ∀ k, k < n → w.cell? ⟨SB, k, none⟩ = some (.int .i64 (S k))) (ha : ∀ x, a.2 = some x → x < n) (hb : ∀ x, b.2 = some x → x < n) :
    Calls Yba.prog 28 #[rv a, rv b, .pointer (some ⟨P, 0, none⟩)] w fun e w' => e = .returned (.bool (rb S a b)) ∧ Below w.heap.size w w' := by
  have hw : ∀ X Y q, Below w.heap.size w (((w.alloc X).alloc Y).drewN q) := fun X Y q =>
    have h := ((Below.refl _ w).alloc (Nat.le_refl _) X).alloc (by simp) Y
    ⟨h.os, h.tape, h.output, h.size, h.block⟩
  have hw0 : ∀ X Y, Below w.heap.size w ((w.alloc X).alloc Y) := fun X Y => hw X Y 0
  have hk : ∀ {ad : Addr} {v : Value}, w.cell? ad = some v → ∀ X Y, ((w.alloc X).alloc Y).cell? ad = some v := fun {ad} {v} h X Y => by
    have hl := World.block_lt_of_cell? w ad h
    rw [World.cell?_of_block (heap_alloc_old (w.alloc X) Y (Nat.lt_of_lt_of_le hl (by simp))), World.cell?_of_block (heap_alloc_old w X hl)]
    exact h
  obtain ⟨a1, a2⟩ := a
  obtain ⟨b1, b2⟩ := b
  have cP := hk hP
  unfold rv rb
  simp only at ha hb ⊢
  by_cases h1 : a1 = b1
  · subst h1
    rw [if_neg (by simp)]
    cases a2 with
    | none =>
      generalize en b2 = eb
      rw [show en none = -1 from rfl]
      simp only
      go_enter Yba.func28, Yba.ntmps28
      go_wp2
      go_ret
      exact ⟨rfl, hw0 _ _⟩
    | some x =>
      cases b2 with
      | none =>
        unfold en
        simp only
        go_enter Yba.func28, Yba.ntmps28
        go_wp2
        go_ret
        exact ⟨rfl, hw0 _ _⟩
      | some y =>
        have hx := ha x rfl
        have hy := hb y rfl
        have cx := hk (hS x hx)
        have cy := hk (hS y hy)
        have hxI : (x : Int) < (n : Int) := by omega
        have hyI : (y : Int) < (n : Int) := by omega
        unfold en
        simp only
        clear hS ha hb hP hk
        generalize S x = sx at cx ⊢
        generalize S y = sy at cy ⊢
        by_cases h2 : sx = sy
        · subst h2
          rw [if_neg (by simp)]
          go_enter Yba.func28, Yba.ntmps28
          go_wp2
          go_quiet (fail)
          go_wp2
          go_ret
          exact ⟨by simp, hw _ _ _⟩
        · rw [if_pos h2]
          have h2b : ((sx : Int) == (sy : Int)) = false := by rw [beq_eq_false_iff_ne]; omega
          have h2c : ((sx : Int) != (sy : Int)) = true := by simp [bne, h2b]
          go_enter Yba.func28, Yba.ntmps28
          go_wp2
          go_quiet (fail)
          go_wp2
          go_quiet (fail)
          go_wp2
          go_ret
          exact ⟨by simp, by rw [drewN_add]; exact hw _ _ _⟩
  · rw [if_pos h1]
    have h1b : ((a1 : Int) == (b1 : Int)) = false := by rw [beq_eq_false_iff_ne]; omega
    have h1c : ((a1 : Int) != (b1 : Int)) = true := by simp [bne, h1b]
    generalize en a2 = ea
    generalize en b2 = eb
    go_enter Yba.func28, Yba.ntmps28
    go_wp2
    go_ret
    exact ⟨by simp, hw0 _ _⟩

end Go.Proofs.Ybulkdwzg.lawB
