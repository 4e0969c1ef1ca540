/-
  LawS6181BWhole: the order of the pairs, sorted.
-/
import Derived.Test.YbulkdwzgHa
import Derived.Test.YbulkdwzgSj
namespace Go.Proofs.Ybulkdwzg.lawB
open Go.RowKit Go.Shelf Go.Lib Go.Sort

theorem lt_iff (a b : Pr) : lt a b = true ↔ a.2 < b.2 ∨ (a.2 = b.2 ∧ b.1 < a.1) := by simp [lt]
theorem lt_not (a b : Pr) : lt a b = false ↔ ¬ (a.2 < b.2 ∨ (a.2 = b.2 ∧ b.1 < a.1)) := by rw [← lt_iff]; simp
theorem swo_lt {α : Type} (P : α → Pr) : SWO (fun x y => lt (P x) (P y)) where
  irrefl x := by rw [lt_not]; omega
  trans x y z h1 h2 := by rw [lt_iff] at *; omega
  ntrans x y z h1 h2 := by rw [lt_not] at *; omega
theorem sw_grow {α : Type} [Inhabited α] {enc : α → Value} {w0 W : World} {blk off : Nat} {d : Array α} (h : SW enc w0 blk off d W) (os : Array Obj) : SW enc w0 blk off d (grow W os) := by
  obtain ⟨n, os0, rfl⟩ := h
  exact ⟨n, os0 ++ os, by unfold sortWorld; rw [grow_grow]⟩
theorem kx_grow {x y : Nat} (W : World) (os : Array Obj) : Kx x y W (grow W os) :=
  ⟨by rw [size_grow]; omega, fun b _ _ hl => by unfold grow; simp only; rw [Array.getElem?_append_left hl]⟩
theorem sw_out {α : Type} [Inhabited α] {enc : α → Value} {w W : World} {blk off : Nat} {d : Array α} (h : SW enc w blk off d W) : Out (fun b => b = blk) w W := by
  have k := sw_kx h
  obtain ⟨n, os, rfl⟩ := h
  exact ⟨rfl, rfl, rfl, k.1, fun b hb hn => k.2 b hn hn hb⟩

theorem extract_all {α : Type} (d : Array α) (m : Nat) (h : d.size = m) : d.extract 0 m = d := by subst h; exact Array.extract_size

theorem sort_c (w : World) (PP OP PB OB n pc oc : Nat) (P : Nat → Pr) (hn : n ≤ 4096) (n1 : PP ≠ OB) (n2 : OP ≠ OB) (n3 : PB ≠ OB)
    (hPP : w.cell? ⟨PP, 0, none⟩ = some (.slice (some ⟨PB, 0, none⟩) n pc)) (hOP : w.cell? ⟨OP, 0, none⟩ = some (.slice (some ⟨OB, 0, none⟩) n oc))
    (hP : R2 w PB 57 (fun k => .int .i64 (P k).1) (fun k => .int .i64 (P k).2) n) (hO : RW w OB 3 (fun j => .int .i64 (j : Nat)) n) :
    Calls Yba.prog 20 #[.iface 26 (.slice (some ⟨OB, 0, none⟩) n oc), .func (.func 21) #[] #[.pointer (some ⟨PP, 0, none⟩), .pointer (some ⟨OP, 0, none⟩)]] w fun e w' => e = .returned (.tuple #[]) ∧ ∃ D : Nat → Nat, (∀ k, k < n → D k < n) ∧ (∀ k, k < n → w'.cell? ⟨OB, k, none⟩ = some (.int .i64 (D k : Nat))) ∧ (∀ i j, i < j → j < n → lt (P (D j)) (P (D i)) = false) ∧ ((List.range n).map D).Perm (List.range n) ∧ Out (fun b => b = OB) w w' := by
  by_cases h2 : 2 ≤ n
  · haveI : Inhabited (Fin n) := ⟨⟨0, by omega⟩⟩
    have hH : Holds (fun x : Fin n => Value.int .i64 (x.val : Nat)) w OB 0 (Array.ofFn fun i : Fin n => i) := fun j hj => by
      have hj' : j < n := by simpa using hj
      rw [getElem!_pos _ j hj]
      simp only [Array.getElem_ofFn, Nat.zero_add]
      exact ⟨hO.cell hj', hO.frozen j⟩
    have hs : (Array.ofFn fun i : Fin n => i).size = n := by simp
    have G : Gd (fun x : Fin n => Value.int .i64 (x.val : Nat)) (fun x y => lt (P x.val) (P y.val)) #[.pointer (some ⟨PP, 0, none⟩), .pointer (some ⟨OP, 0, none⟩)] 33 #[.slice (some ⟨OB, 0, none⟩) n oc, typeHandle Yba.prog 3] OB 0 n w := by
      refine ⟨fun W d hW hd i j hi hj => ?_, swap33 _ (fun _ => rfl) OB 0 n oc, ⟨_, hH, hs⟩, hO.lt, by omega⟩
      have k := sw_kx hW
      have hHd := hW.holds hO.lt hH (hd.trans hs.symm)
      have ci := (hHd i (by omega)).1
      have cj := (hHd j (by omega)).1
      rw [Nat.zero_add] at ci cj
      have q1 := World.block_lt_of_cell? w _ hPP
      have q2 := World.block_lt_of_cell? w _ hOP
      have := less21 W PP OP PB OB n pc oc i j d[i]!.val d[j]!.val (P d[i]!.val) (P d[j]!.val) hi hj d[i]!.isLt d[j]!.isLt ((k.cell _ n1 n1 q1).trans hPP) ((k.cell _ n2 n2 q2).trans hOP) ci cj
        ((k.cell ⟨PB, _, none⟩ n3 n3 hP.lt).trans (hP.c0 d[i]!.isLt)) ((k.cell ⟨PB, _, none⟩ n3 n3 hP.lt).trans (hP.c1 d[i]!.isLt)) ((k.cell ⟨PB, _, none⟩ n3 n3 hP.lt).trans (hP.c0 d[j]!.isLt)) ((k.cell ⟨PB, _, none⟩ n3 n3 hP.lt).trans (hP.c1 d[j]!.isLt))
      refine Calls.mono this ?_
      rintro e w' ⟨rfl, q, os, rfl⟩
      exact ⟨rfl, sw_grow (hW.drewN q) os, kx_grow (W.drewN q) os⟩
    refine (slice_c G (swo_lt _) _ hH hs h2).mono ?_
    rintro e w' ⟨rfl, d', hp, hso, hS⟩
    have hds : d'.size = n := by rw [hp.1, hs]
    have hH' := hS.holds hO.lt hH hp.1
    refine ⟨rfl, fun k => d'[k]!.val, fun k _ => d'[k]!.isLt, fun k hk => ?_, fun i j hij hj => ?_, ?_, sw_out hS⟩
    · have := (hH' k (by omega)).1
      rw [Nat.zero_add] at this
      exact this
    · exact hso i j (Nat.zero_le _) hij (by omega)
    · have h3 := hp.2.2
      rw [hs, extract_all d' n hds, extract_all _ n hs] at h3
      have h4 := h3.map Fin.val
      have e1 : d'.toList.map Fin.val = (List.range n).map fun k => d'[k]!.val := by
        apply List.ext_getElem?
        intro k
        by_cases hk : k < n
        · have hk' : k < d'.size := by omega
          simp [hk, hk', getElem!_pos]
        · simp [hk, hds]
      have e2 : (Array.ofFn fun i : Fin n => i).toList.map Fin.val = List.range n := by
        apply List.ext_getElem?
        intro k
        by_cases hk : k < n
        · simp [hk]
        · simp [hk]
      rw [e1, e2] at h4
      exact h4
  · refine (slice_tiny _ n oc (by omega) _ w).mono ?_
    rintro e w' ⟨rfl, os, rfl⟩
    have k := kx_grow (x := OB) (y := OB) w os
    refine ⟨rfl, fun k => k, fun k hk => hk, fun k hk => ?_, fun i j hij hj => by omega, by simp, rfl, rfl, rfl, k.1, fun b hb hn => k.2 b hn hn hb⟩
    have hk0 : OB < w.heap.size := hO.lt
    rw [cell?_grow _ _ _ hk0]
    exact hO.cell hk

end Go.Proofs.Ybulkdwzg.lawB
