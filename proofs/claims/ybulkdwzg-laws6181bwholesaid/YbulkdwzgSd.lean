/-
  LawS6181BWhole: WALK of sort.partitionEqual_func (46), less laying new blocks.
-/
import Derived.Test.YbulkdwzgSa
namespace Go.Proofs.Ybulkdwzg.lawB
open Go.RowKit Go.Shelf Go.Lib Go.Sort
variable {α : Type} [Inhabited α] {enc : α → Value} {lt : α → α → Bool} {lb : Array Value} {sf : Nat} {sb : Array Value} {blk off N : Nat} {w0 : World}

/-- The world W' of a sort's function that was entered at W: the row holds d; the box of data stands; what lay elsewhere in W lies there. -/
structure Sn (enc : α → Value) (lb : Array Value) (sf : Nat) (sb : Array Value) (blk off : Nat) (w0 W : World) (d : Array α) (W' : World) : Prop where
  s : SW enc w0 blk off d W'
  k : Kx blk blk W W'
  b : Dt lb sf sb W.heap.size W'
  n : W.heap.size ≠ blk
theorem Gd.start (G : Gd enc lt lb sf sb blk off N w0) {W : World} {d : Array α} (h : SW enc w0 blk off d W) : Sn enc lb sf sb blk off w0 W d (W.alloc (.cells #[.func (.func 21) #[] lb, .func (.func sf) #[] sb] 83)) :=
  ⟨h.alloc _, (Kx.refl _ _ W).alloc _, Dt.new W, by have := h.lt G.hblk; omega⟩
theorem Gd.lessN (G : Gd enc lt lb sf sb blk off N w0) {W W1 : World} {d : Array α} (h : Sn enc lb sf sb blk off w0 W d W1) (hs : d.size = N) (i j : Nat) (hi : i < N) (hj : j < N) :
    Calls Yba.prog 21 (#[.int .i64 i, .int .i64 j] ++ lb) W1 fun e w' => e = .returned (.bool (lt d[i]! d[j]!)) ∧ Sn enc lb sf sb blk off w0 W d w' :=
  (G.hless W1 d h.s hs i j hi hj).mono fun _ _ ⟨he, hS, hK⟩ => ⟨he, hS, h.k.trans hK, h.b.kx hK h.n h.n, h.n⟩
theorem Gd.swapN (G : Gd enc lt lb sf sb blk off N w0) {W W1 : World} {d : Array α} (h : Sn enc lb sf sb blk off w0 W d W1) (hs : d.size = N) (i j : Nat) (hi : i < N) (hj : j < N) :
    ∃ W', (callFunc sf (#[.int .i64 i, .int .i64 j] ++ sb)).run Yba.prog W1 = .ok (.value (.tuple #[])) W' ∧ Sn enc lb sf sb blk off w0 W (swp d i j) W' := by
  obtain ⟨W', hr, hS, hK⟩ := G.swap h.s hs i j hi hj
  exact ⟨W', hr, hS, h.k.trans hK, h.b.kx hK h.n h.n, h.n⟩

set_option maxHeartbeats 6400000 in
set_option maxRecDepth 100000 in
theorem partEq_c (G : Gd enc lt lb sf sb blk off N w0) (a b pivot : Nat) (d : Array α) (W : World) (hW : SW enc w0 blk off d W) (hs : d.size = N) (hap : a ≤ pivot) (hpb : pivot < b) (hb : b ≤ N) :
    Calls Yba.prog 46 #[.agg #[.func (.func 21) #[] lb, .func (.func sf) #[] sb], .int .i64 a, .int .i64 b, .int .i64 pivot] W fun e w' => e = .returned (.int .i64 (Sort.partitionEqual lt d a b pivot).1) ∧ SW enc w0 blk off (Sort.partitionEqual lt d a b pivot).2 w' ∧ Kx blk blk W w' := by
  have hN := G.hN
  have h0 := G.start hW
  obtain ⟨w1, hr1, h1⟩ := G.swapN h0 hs a pivot (by omega) (by omega)
  have H1 : Hid (Sn enc lb sf sb blk off w0 W (swp d a pivot) w1) := h1
  clear h1
  go_enter Yba.func46, Yba.ntmps46
  go_wp2
  go_loopw [9, 10] (fun vi vj wr => ∃ (i j : Nat) (dk : Array α), vi = .int .i64 i ∧ vj = .int .i64 j ∧ a < i ∧ i ≤ j + 1 ∧ j < b ∧ dk.size = N ∧ Sn enc lb sf sb blk off w0 W dk wr ∧
      Hid (Sort.partEqLoop lt a i j dk = Sort.partEqLoop lt a (a + 1) (b - 1) (Sort.swp d a pivot)))
    (fun vi vj _ => (intOf vj).toNat + 1 - (intOf vi).toNat)
  case atStart => exact ⟨a + 1, b - 1, Sort.swp d a pivot, by go_num, by go_num, by omega, by omega, by omega, by rw [size_swp]; exact hs, H1.out, rfl⟩
  case round =>
    clear hr1 H1 h0
    obtain ⟨i, j, dk, rfl, rfl, hai, hij, hjb, hsk, hn, AE⟩ := hrel
    go_wp2
    -- up
    go_loopw [9] (fun vi w1 => ∃ (i' : Nat), vi = .int .i64 i' ∧ i ≤ i' ∧ i' ≤ j + 1 ∧ Sn enc lb sf sb blk off w0 W dk w1 ∧
        Hid (Sort.scanUp (fun x => !lt dk[a]! x) dk j i' = Sort.scanUp (fun x => !lt dk[a]! x) dk j i))
      (fun vi _ => j + 1 - (intOf vi).toNat)
    case atStart => exact ⟨i, rfl, Nat.le_refl _, hij, hn, rfl⟩
    case round =>
      clear hn
      obtain ⟨i', rfl, hii, hij', hn, hsc⟩ := hrel
      have c0 := hn.b.c0
      by_cases hle : i' ≤ j
      · have hl := G.lessN hn hsk a i' (by omega) (by omega)
        cases hlv : lt dk[a]! dk[i']! with
        | false =>
          rw [hlv] at hl
          go_wp2_with (go_at_call 21; refine hl.mono ?_; rintro e w1 ⟨rfl, hn1⟩)
          go_roundw
          case rel => exact ⟨i' + 1, by go_num, by omega, by omega, hn1, (scanUp_go (fun x => !lt dk[a]! x) dk j i' hle (by simp [hlv])).symm.trans hsc.out⟩
          case measure => simp [intOf]; omega
        | true =>
          rw [hlv] at hl
          have hi2 : Hid (i' = Sort.scanUp (fun x => !lt dk[a]! x) dk j i) := (scanUp_end (fun x => !lt dk[a]! x) dk j i' (Or.inr (by simp [hlv]))).symm.trans hsc.out
          go_wp2_with (go_at_call 21; refine hl.mono ?_; rintro e w1 ⟨rfl, hn1⟩)
          clear hl hn hsc c0
          go_loopw [10] (fun vj w2 => ∃ (j' : Nat), vj = .int .i64 j' ∧ j' ≤ j ∧ i' ≤ j' + 1 ∧ Sn enc lb sf sb blk off w0 W dk w2 ∧
              Hid (Sort.scanDown (fun x => lt dk[a]! x) dk i' j' = Sort.scanDown (fun x => lt dk[a]! x) dk i' j))
            (fun vj _ => (intOf vj).toNat)
          case atStart => exact ⟨j, rfl, Nat.le_refl _, hij', hn1, rfl⟩
          case round =>
            clear hn1
            obtain ⟨j', rfl, hjj, hij2, hn1, hsd⟩ := hrel
            have c0 := hn1.b.c0
            by_cases hle2 : i' ≤ j'
            · have hl := G.lessN hn1 hsk a j' (by omega) (by omega)
              cases hlv2 : lt dk[a]! dk[j']! with
              | true =>
                rw [hlv2] at hl
                go_wp2_with (go_at_call 21; refine hl.mono ?_; rintro e w2 ⟨rfl, hn2⟩)
                go_roundw
                case rel => exact ⟨j' - 1, by go_num, by omega, by omega, hn2, (scanDown_go (fun x => lt dk[a]! x) dk i' j' hle2 (by omega) hlv2).symm.trans hsd.out⟩
                case measure => simp [intOf]; omega
              | false =>
                rw [hlv2] at hl
                have hj2 : Hid (j' = Sort.scanDown (fun x => lt dk[a]! x) dk i' j) := (scanDown_end (fun x => lt dk[a]! x) dk i' j' (Or.inr hlv2)).symm.trans hsd.out
                have hlt3 := scans_lt lt a i j dk (by omega) hi2.out hj2.out hle2
                go_wp2_with (go_at_call 21; refine hl.mono ?_; rintro e w2 ⟨rfl, hn2⟩; obtain ⟨y0, y1, hy⟩ := hn2.b; obtain ⟨w3, hr3, hn3⟩ := G.swapN hn2 hsk i' j' (by omega) (by omega))
                go_roundw
                case rel => exact ⟨i' + 1, j' - 1, Sort.swp dk i' j', by go_num, by go_num, by omega, by omega, by omega, by rw [size_swp]; exact hsk, hn3, (show Hid _ from by rw [← AE.out]; exact (partEq_go lt a i j dk hi2.out hj2.out (by omega)).symm)⟩
                case measure => simp [intOf]; omega
            · have hj2 : Hid (j' = Sort.scanDown (fun x => lt dk[a]! x) dk i' j) := (scanDown_end (fun x => lt dk[a]! x) dk i' j' (Or.inl hle2)).symm.trans hsd.out
              clear hsd
              go_wp2
              go_ret
              have e := partEq_break lt a i j dk hi2.out hj2.out (by omega)
              unfold Sort.partitionEqual
              rw [← AE.out, e]
              exact ⟨rfl, hn1.s, hn1.k⟩
      · have hi2 : Hid (i' = Sort.scanUp (fun x => !lt dk[a]! x) dk j i) := (scanUp_end (fun x => !lt dk[a]! x) dk j i' (Or.inl hle)).symm.trans hsc.out
        go_wp2
        clear hsc c0
        have hn1 := hn
        clear hn
        go_loopw [10] (fun vj w2 => ∃ (j' : Nat), vj = .int .i64 j' ∧ j' ≤ j ∧ i' ≤ j' + 1 ∧ Sn enc lb sf sb blk off w0 W dk w2 ∧
            Hid (Sort.scanDown (fun x => lt dk[a]! x) dk i' j' = Sort.scanDown (fun x => lt dk[a]! x) dk i' j))
          (fun vj _ => (intOf vj).toNat)
        case atStart => exact ⟨j, rfl, Nat.le_refl _, hij', hn1, rfl⟩
        case round =>
          clear hn1
          obtain ⟨j', rfl, hjj, hij2, hn1, hsd⟩ := hrel
          have c0 := hn1.b.c0
          by_cases hle2 : i' ≤ j'
          · exfalso; omega
          · have hj2 : Hid (j' = Sort.scanDown (fun x => lt dk[a]! x) dk i' j) := (scanDown_end (fun x => lt dk[a]! x) dk i' j' (Or.inl hle2)).symm.trans hsd.out
            clear hsd
            go_wp2
            go_ret
            have e := partEq_break lt a i j dk hi2.out hj2.out (by omega)
            unfold Sort.partitionEqual
            rw [← AE.out, e]
            exact ⟨rfl, hn1.s, hn1.k⟩

end Go.Proofs.Ybulkdwzg.lawB
