/-
  LawS6181BWhole: sort.Slice (20) at []int, less (21) laying new blocks.
-/
import Derived.Test.YbulkdwzgSi
namespace Go.Proofs.Ybulkdwzg.lawB
open Go.RowKit Go.Shelf Go.Lib Go.Sort

theorem type26 : ∃ i, Yba.prog.info? 26 = some i ∧ i.desc = .slice 3 := ⟨(Yba.prog.info? 26).get (by kernel_rfl), by kernel_rfl, by kernel_rfl⟩
theorem type3 : ∃ i, Yba.prog.info? 3 = some i ∧ i.size = 1 ∧ i.hasPointers = false ∧ i.bytes = 8 := ⟨(Yba.prog.info? 3).get (by kernel_rfl), by kernel_rfl, by kernel_rfl, by kernel_rfl, by kernel_rfl⟩
theorem agg3 (w : World) : (isAgg 3).run Yba.prog w = .ok false w := by kernel_rfl
theorem kind3 (w : World) : (Extern.Rtype.kind 3).run Yba.prog w = .ok 2 w := by kernel_rfl

theorem swap33 {α : Type} [Inhabited α] (enc : α → Value) (h1 : ∀ x, (enc x).oneCell' = true) (blk off n c : Nat) : SwapSwaps Yba.prog 33 #[.slice (some ⟨blk, off, none⟩) n c, typeHandle Yba.prog 3] enc blk off n := by
  obtain ⟨ie, hie, hs, -, -⟩ := type3
  exact swapSwaps_of_literal true 33 (fun args W => run_callFunc_extern Yba.func33 (by kernel_rfl) (by kernel_rfl) (by kernel_rfl) (e := Extern.ReflectliteSwapper.swap true) (by kernel_rfl) args W) 3 ie hie hs agg3 enc h1 blk off n c

theorem slice_c {α : Type} [Inhabited α] {enc : α → Value} {lt : α → α → Bool} {lb : Array Value} {blk off N c : Nat} {w0 : World} (G : Gd enc lt lb 33 #[.slice (some ⟨blk, off, none⟩) N c, typeHandle Yba.prog 3] blk off N w0) (hO : SWO lt) (d : Array α) (hH : Holds enc w0 blk off d) (hs : d.size = N) (h2 : 2 ≤ N) :
    Calls Yba.prog 20 #[.iface 26 (.slice (some ⟨blk, off, none⟩) N c), .func (.func 21) #[] lb] w0 fun e w' => e = .returned (.tuple #[]) ∧ ∃ d', PermIn 0 d.size d d' ∧ SortedIn lt 0 d.size d' ∧ SW enc w0 blk off d' w' := by
  obtain ⟨i, hi, hd⟩ := type26
  obtain ⟨ie, hie, -, hp, hb⟩ := type3
  have hk5 : Lib.swapperK N ie 2 = 5 := by
    have c1 : (N == 0) = false := by simp; omega
    have d1 : (N == 1) = false := by simp; omega
    simp [Lib.swapperK, hp, hb, c1, d1]
  have hlim : Lib.bitLen N < 4611686018427387904 := by have hN := G.hN; exact Nat.lt_of_le_of_lt (Lib.bitLen_le N 62 (by omega) (by omega)) (by omega)
  have h := Any.sort_Slice_of_pdq Yba.sa6 26 3 i ie hi hd (by kernel_rfl) hie 2 kind3 (some ⟨blk, off, none⟩) N c G.hN 33 (by rw [hk5]; kernel_rfl) (.func 21) #[] lb w0 (fun w' => ∃ d', PermIn 0 d.size d d' ∧ SortedIn lt 0 d.size d' ∧ SW enc w0 blk off d' w') (by
    have hB : sliceBound Yba.prog 3 ie 2 (some ⟨blk, off, none⟩) N c = #[.slice (some ⟨blk, off, none⟩) N c, typeHandle Yba.prog 3] := by
      unfold sliceBound; rw [if_neg (swapperK_gt _ _ _ h2)]
    rw [hB]
    have hp := pdq_c G hO (N + 1) 0 N (Lib.bitLen N) d (sliceWorld Yba.prog Yba.sa6_ren 26 (some ⟨blk, off, none⟩) N c w0) (by omega) (((SW.start hH).alloc _).alloc _) hs (Nat.zero_le _) (Nat.le_refl _) hlim (Or.inl rfl)
    have hq := pdq_sorts lt hO d 0 N (Lib.bitLen N) true true (Nat.zero_le _) (by omega) (Or.inl rfl)
    exact hp.mono fun _ _ ⟨he, hS, _⟩ => ⟨he, _, by rw [hs]; exact hq.1, by rw [hs]; exact hq.2, hS⟩)
  exact h

theorem slice_tiny (p : Option Addr) (n c : Nat) (h1 : n ≤ 1) (lb : Array Value) (w : World) :
    Calls Yba.prog 20 #[.iface 26 (.slice p n c), .func (.func 21) #[] lb] w fun e w' => e = .returned (.tuple #[]) ∧ ∃ os, w' = grow w os := by
  obtain ⟨i, hi, hd⟩ := type26
  obtain ⟨ie, hie, -, -, -⟩ := type3
  have hK : Lib.swapperK n ie 2 = n + 1 := by
    rcases Nat.eq_zero_or_pos n with h | h
    · subst h; simp [Lib.swapperK]
    · obtain rfl : n = 1 := by omega
      simp [Lib.swapperK]
  exact Any.sort_Slice_tiny Yba.sa6 26 3 i ie hi hd (by kernel_rfl) hie 2 kind3 p n c h1 (29 + n) (by
    rw [hK]
    rcases Nat.eq_zero_or_pos n with h | h
    · subst h; kernel_rfl
    · obtain rfl : n = 1 := by omega
      kernel_rfl) (.func 21) #[] lb w

end Go.Proofs.Ybulkdwzg.lawB
