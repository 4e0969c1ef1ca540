/-
  WALKS of the two closures (5: accept; 6: follow): contracts for LawS6183CWhole.
-/
import Derived.Test.YbulkdxaiWb
import Derived.Maps.AppendAt
import Derived.WalkSmall
namespace Go.Proofs.Ybulkdxai
open Go.RowKit

theorem row_lt {w : World} {b : Nat} {o : Obj} (h : w.heap[b]? = some o) : b < w.heap.size := by
  rcases Nat.lt_or_ge b w.heap.size with h1 | h1
  · exact h1
  · rw [Array.getElem?_eq_none h1] at h; cases h

/-- n bools lie at a. -/
def BR (w : World) (a : Option Addr) (n : Nat) (B : Nat → Bool) : Prop := 0 < n → ∃ b off, a = some ⟨b, off, none⟩ ∧ ∀ j, j < n → w.cell? ⟨b, off + j, none⟩ = some (.bool (B j))

/-- What accept answers. -/
def AC (al : Nat) (B : Nat → Bool) (e : Nat) : Bool := if 0 < al then B (e % al) else e % 2 == 0

theorem acc_c (P : Nat) (aa : Option Addr) (al ac : Nat) (B : Nat → Bool) (e : Nat) (w : World) (he : e < 2 ^ 40) (ha : al < 2 ^ 48) (h0 : w.cell? ⟨P, 0, none⟩ = some (.slice aa al ac)) (hB : BR w aa al B) :
    Calls Yba.prog 5 #[.int .i64 e, .pointer (some ⟨P, 0, none⟩)] w fun x w' => x = .returned (.bool (AC al B e)) ∧ ∃ q, w' = w.drewN q := by
  by_cases hp : 0 < al
  · obtain ⟨b, off, rfl, hc⟩ := hB hp
    have hpI : (0 : Int) < (al : Int) := by omega
    have hm : e % al < al := Nat.mod_lt _ hp
    have c := hc _ hm
    have hmI : (e : Int).tmod (al : Int) = ((e % al : Nat) : Int) := by rw [Int.tmod_eq_emod_of_nonneg (by omega)]; simp
    have hne : (al : Int) ≠ 0 := by omega
    have hA : AC al B e = B (e % al) := by simp [AC, hp]
    clear hc
    go_enter Yba.func5, Yba.ntmps5
    go_wp2
    go_quiet (fail)
    go_wp2
    go_ret
    exact ⟨by rw [hA]; rfl, _, rfl⟩
  · obtain rfl : al = 0 := by omega
    go_enter Yba.func5, Yba.ntmps5
    go_wp2
    go_ret
    have h : ((e : Int) % 2 == 0) = AC 0 B e := by
      simp only [AC, Nat.lt_irrefl, if_false]
      rw [Bool.eq_iff_iff]
      simp only [beq_iff_eq]
      omega
    exact ⟨by rw [← h]; rfl, 0, rfl⟩

theorem info3 : (Yba.prog.info? 3).map (fun i => (i.zero, i.size, i.bytes)) = some (some (.int .i64 0), 1, 8) := by kernel_rfl

/-- What lies outside D is as it was. -/
structure Out (D : Nat → Prop) (w w' : World) : Prop where
  os : w'.os = w.os
  tape : w'.tape = w.tape
  output : w'.output = w.output
  size : w.heap.size ≤ w'.heap.size
  block : ∀ k, k < w.heap.size → ¬ D k → w'.heap[k]? = w.heap[k]?
theorem Out.refl (D : Nat → Prop) (w : World) : Out D w w := ⟨rfl, rfl, rfl, Nat.le_refl _, fun _ _ _ => rfl⟩
theorem Out.trans {D D' : Nat → Prop} {a b c : World} (h : Out D a b) (k : Out D' b c) (hd : ∀ i, i < a.heap.size → D' i → D i) : Out D a c :=
  ⟨k.os.trans h.os, k.tape.trans h.tape, k.output.trans h.output, Nat.le_trans h.size k.size, fun i hi hn => (k.block i (Nat.lt_of_lt_of_le hi h.size) (fun h' => hn (hd i hi h'))).trans (h.block i hi hn)⟩
theorem Out.cell {D : Nat → Prop} {w w' : World} (h : Out D w w') {a : Addr} {v : Value} (hc : w.cell? a = some v) (hn : ¬ D a.block) : w'.cell? a = some v :=
  (World.cell?_of_block (h.block a.block (World.block_lt_of_cell? w a hc) hn)).trans hc

theorem out_append {w w1 : World} {o : Obj} {r : Option Nat} (hg : (w.alloc o).grownBy w1 r) : Out (fun k => r = some k) w w1 :=
  ⟨hg.os, hg.tape, hg.output, Nat.le_trans (by simp) hg.size, fun k hk hn => (hg.block k (Nat.lt_of_lt_of_le hk (by simp)) (fun h => hn h.symm)).trans (heap_alloc_old w o hk)⟩
theorem own_slice {w : World} {b e s n : Nat} {v : Value} {xs : List Value} (h : w.ownsRow b e s v n xs) : ∃ a c, v = .slice a n c := by
  rcases h.2 with ⟨rfl, rfl⟩ | ⟨g, cap, cur, rfl, _⟩
  · exact ⟨none, 0, rfl⟩
  · exact ⟨_, _, rfl⟩
theorem cell1 {w : World} {b t : Nat} {v : Value} (h : w.heap[b]? = some (.cells #[v] t (0, 0))) : w.cell? ⟨b, 0, none⟩ = some v := by
  rw [cell_of_row w _ _ _ _ _ h]; rfl

/-- The log: the variable's cell, and the row that it holds. -/
def LG (w : World) (base Lg : Nat) (v : Value) (xs : List Value) : Prop := w.heap[Lg]? = some (.cells #[v] 54 (0, 0)) ∧ w.ownsRow base 3 1 v xs.length xs

theorem follow_c (base Lg Pa P : Nat) (aa : Option Addr) (al ac : Nat) (B : Nat → Bool) (n e : Nat) (va : Option Addr) (vc : Nat) (xs : List Value) (w : World) (he : e < 2 ^ 40) (ha : al < 2 ^ 48) (hx : xs.length < 2 ^ 40) (hbase : base ≤ w.heap.size)
    (hL : LG w base Lg (.slice va xs.length vc) xs) (hPa : w.cell? ⟨Pa, 0, none⟩ = some (.func (.func 5) #[] #[.pointer (some ⟨P, 0, none⟩)])) (h0 : w.cell? ⟨P, 0, none⟩ = some (.slice aa al ac)) (hB : BR w aa al B) (hlo : Pa < base ∧ P < base) (hab : ∀ ad, aa = some ad → ad.block < base) (hLb : Lg < base) (hne : Lg ≠ Pa ∧ Lg ≠ P) (hne2 : ∀ ad, aa = some ad → ad.block ≠ Lg) :
    Calls Yba.prog 6 #[.int .i64 n, .int .i64 e, .pointer (some ⟨Lg, 0, none⟩), .pointer (some ⟨Pa, 0, none⟩)] w fun x w' => x = .returned (.bool (AC al B e)) ∧ ∃ v', LG w' base Lg v' (xs ++ [.int .i64 n, .int .i64 e]) ∧ Out (fun k => k = Lg ∨ (Value.slice va xs.length vc).ownBlock = some k) w w' ∧ (v'.ownBlock = (Value.slice va xs.length vc).ownBlock ∨ ∃ k, v'.ownBlock = some k ∧ w.heap.size ≤ k) := by
  obtain ⟨hv, hown⟩ := hL
  obtain ⟨i0, hi, hz0, hz1, hz2⟩ := info_parts info3
  have cL : w.cell? ⟨Lg, 0, none⟩ = some (.slice va xs.length vc) := by rw [cell_of_row w _ _ _ _ _ hv]; rfl
  have HV : Hid (w.heap[Lg]? = some (.cells #[.slice va xs.length vc] 54 (0, 0))) := hv
  have hob := hown.lt
  clear hv
  go_enter Yba.func6, Yba.ntmps6
  go_wp2_with (first | (at_builtin; refine wpList_append_own_at _ rfl (.tmp 7) (.tmp 10) 54 rfl base 3 i0 (.int .i64 0) 1 8 Yba.underlying54 hi hz0 hz1 hz2 rfl (by decide) _ _ _ rfl (hown.alloc _) ⟨w.heap.size, 0, none⟩ 2 2 [.int .i64 n, .int .i64 e] rfl rfl (cell_two_new _ _ _ _) (by intro u hu; simp at hu; rcases hu with rfl | rfl <;> rfl) (by unfold maxLen; omega) (by omega) (Nat.le_trans hbase (by simp)) ?_; intro v' w1 hown' hgrow hnil hat; obtain ⟨va', vc', rfl⟩ := own_slice hown'; have hB1 := out_append hgrow; have hv1 : w1.heap[Lg]? = some (.cells #[.slice va xs.length vc] 54 (0, 0)) := (hB1.block Lg (row_lt HV.out) (fun h => by have := (hob Lg h).1; omega)).trans HV.out; have cL1 : w1.cell? ⟨Lg, 0, none⟩ = some (.slice va xs.length vc) := cell1 hv1; have fL1 : w1.frozen? ⟨Lg, 0, none⟩ = false := frozen_of_row w1 _ _ _ _ hv1; have cP1 := hB1.cell hPa (fun h => by have := (hob Pa h).1; omega); have c01 := hB1.cell h0 (fun h => by have := (hob P h).1; omega)))
  have hO2 : Out (fun k => k = Lg ∨ (Value.slice va xs.length vc).ownBlock = some k) w (w1.setCell ⟨Lg, 0, none⟩ (.slice va' (xs.length + 2) vc')) :=
    ⟨hB1.os, hB1.tape, hB1.output, by simpa [World.setCell] using hB1.size, fun k hk hn => by
      rw [heap_setCell_other _ _ _ _ (fun h => hn (.inl h))]
      exact hB1.block k hk (fun h => hn (.inr h))⟩
  refine (acc_c P aa al ac B e _ he ha (hO2.cell h0 ?_) (fun h => ?_)).mono ?_
  · rintro (h | h)
    · exact hne.2 h.symm
    · have := (hob P h).1; omega
  · obtain ⟨b, off, ea, hc⟩ := hB h
    refine ⟨b, off, ea, fun j hj => hO2.cell (hc j hj) ?_⟩
    rintro (h | h)
    · exact hne2 _ ea h
    · have := (hob b h).1
      have := hab _ ea
      simp at this
      omega
  rintro _ w3 ⟨rfl, q, rfl⟩
  go_wp2
  go_ret
  refine ⟨rfl, .slice va' (xs.length + 2) vc', ⟨?_, ?_⟩, ⟨hO2.os, hO2.tape, hO2.output, hO2.size, hO2.block⟩, ?_⟩
  · show (w1.setCell _ _).heap[Lg]? = _
    rw [heap_setCell_same w1 Lg 0 _ _ _ hv1]
    simp
  · have hk : (Value.slice va' (xs.length + 2) vc').ownBlock ≠ some Lg := fun h => by
      have := (hown'.lt Lg h).1; omega
    have h2 : (w1.setCell ⟨Lg, 0, none⟩ (.slice va' (xs.length + 2) vc')).ownsRow base 3 1 (.slice va' (xs.length + 2) vc') (xs.length + 2) (xs ++ [.int .i64 n, .int .i64 e]) :=
      hown'.kept (row := some Lg) ⟨rfl, rfl, rfl, by simp [World.setCell], fun k _ hk => heap_setCell_other _ _ _ _ (fun h => hk (by rw [h]))⟩ (.inr hk)
    have e2 : (xs ++ [Value.int .i64 n, .int .i64 e]).length = xs.length + 2 := by simp
    rw [e2]
    exact h2
  · rcases hat with h | h
    · exact .inl h
    · exact .inr ⟨_, h, by simp⟩

end Go.Proofs.Ybulkdxai
