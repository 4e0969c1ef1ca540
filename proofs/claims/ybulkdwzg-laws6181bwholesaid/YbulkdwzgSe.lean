/-
  LawS6181BWhole: WALK of sort.partition_func (47), less laying new blocks.
-/
import Derived.Test.YbulkdwzgSd
namespace Go.Proofs.Ybulkdwzg.lawB
open Go.RowKit Go.Shelf Go.Lib Go.Sort
variable {α : Type} [Inhabited α] {enc : α → Value} {lt : α → α → Bool} {lb : Array Value} {sf : Nat} {sb : Array Value} {blk off N : Nat} {w0 : World}

set_option maxHeartbeats 12800000 in
set_option maxRecDepth 100000 in
theorem part_c (G : Gd enc lt lb sf sb blk off N w0) (a b pivot : Nat) (d : Array α) (W : World) (hW : SW enc w0 blk off d W) (hsd0 : d.size = N) (hap : a ≤ pivot) (hpb : pivot < b) (hb : b ≤ N) :
    Calls Yba.prog 47 #[.agg #[.func (.func 21) #[] lb, .func (.func sf) #[] sb], .int .i64 a, .int .i64 b, .int .i64 pivot] W fun e w' => e = .returned (.tuple #[.int .i64 (Sort.partition lt d a b pivot).1, .bool (Sort.partition lt d a b pivot).2.1]) ∧ SW enc w0 blk off (Sort.partition lt d a b pivot).2.2 w' ∧ Kx blk blk W w' := by
  have hN := G.hN
  have h0 := G.start hW
  obtain ⟨w1, hr1, h1⟩ := G.swapN h0 hsd0 a pivot (by omega) (by omega)
  have hsk : (swp d a pivot).size = N := by rw [size_swp]; exact hsd0
  obtain ⟨i, hi⟩ : ∃ i : Nat, i = a + 1 := ⟨_, rfl⟩
  obtain ⟨j, hj⟩ : ∃ j : Nat, j = b - 1 := ⟨_, rfl⟩
  obtain ⟨dk, hdk⟩ : ∃ dk : Array α, dk = Sort.swp d a pivot := ⟨_, rfl⟩
  rw [← hdk] at hsk h1
  have hai : a < i := by omega
  have hij : i ≤ j + 1 := by omega
  have hjb : j < b := by omega
  have Hi : Hid (i = a + 1) := hi
  have Hj : Hid (j = b - 1) := hj
  have Hdk : Hid (dk = Sort.swp d a pivot) := hdk
  have hn : Hid (Sn enc lb sf sb blk off w0 W dk w1) := h1
  clear hi hj hdk h1 h0
  go_enter Yba.func47, Yba.ntmps47
  go_wp2
  rw [show ((a : Int) + 1) = (i : Int) by have := Hi.out; omega, show ((b : Int) - 1) = (j : Int) by have := Hj.out; omega]
  clear hr1
  go_loopw [10] (fun vi w1 => ∃ (i' : Nat), vi = .int .i64 i' ∧ i ≤ i' ∧ i' ≤ j + 1 ∧ Sn enc lb sf sb blk off w0 W dk w1 ∧
      Hid (Sort.scanUp (fun x => lt x dk[a]!) dk j i' = Sort.scanUp (fun x => lt x dk[a]!) dk j i))
    (fun vi _ => j + 1 - (intOf vi).toNat)
  case atStart => exact ⟨i, rfl, Nat.le_refl _, hij, hn.out, rfl⟩
  case round =>
    clear hn
    obtain ⟨i', rfl, hii, hij', hn, hsc⟩ := hrel
    have c0 := hn.b.c0
    by_cases hle : i' ≤ j
    · have hl := G.lessN hn hsk i' a (by omega) (by omega)
      cases hlv : lt dk[i']! dk[a]! with
      | true =>
        rw [hlv] at hl
        go_wp2_with (go_at_call 21; refine hl.mono ?_; rintro e w1 ⟨rfl, hn1⟩)
        go_roundw
        case rel => exact ⟨i' + 1, by go_num, by omega, by omega, hn1, (scanUp_go (fun x => lt x dk[a]!) dk j i' hle hlv).symm.trans hsc.out⟩
        case measure => simp [intOf]; omega
      | false =>
        rw [hlv] at hl
        have hi2 : Hid (i' = Sort.scanUp (fun x => lt x dk[a]!) dk j i) := (scanUp_end (fun x => lt x dk[a]!) dk j i' (Or.inr hlv)).symm.trans hsc.out
        go_wp2_with (go_at_call 21; refine hl.mono ?_; rintro e w1 ⟨rfl, hn1⟩)
        clear hl hn hsc c0
        go_loopw [11] (fun vj w2 => ∃ (j' : Nat), vj = .int .i64 j' ∧ j' ≤ j ∧ i' ≤ j' + 1 ∧ Sn enc lb sf sb blk off w0 W dk w2 ∧
            Hid (Sort.scanDown (fun x => !lt x dk[a]!) dk i' j' = Sort.scanDown (fun x => !lt x dk[a]!) dk i' j))
          (fun vj _ => (intOf vj).toNat)
        case atStart => exact ⟨j, rfl, Nat.le_refl _, hij', hn1, rfl⟩
        case round =>
          clear hn1
          obtain ⟨j', rfl, hjj, hij2, hn1, hsd⟩ := hrel
          have c0 := hn1.b.c0
          have c1 := hn1.b.c1
          by_cases hle2 : i' ≤ j'
          · have hl := G.lessN hn1 hsk j' a (by omega) (by omega)
            cases hlv2 : lt dk[j']! dk[a]! with
            | false =>
              rw [hlv2] at hl
              go_wp2_with (go_at_call 21; refine hl.mono ?_; rintro e w2 ⟨rfl, hn2⟩)
              go_roundw
              case rel => exact ⟨j' - 1, by go_num, by omega, by omega, hn2, (scanDown_go (fun x => !lt x dk[a]!) dk i' j' hle2 (by omega) (by simp [hlv2])).symm.trans hsd.out⟩
              case measure => simp [intOf]; omega
            | true =>
              rw [hlv2] at hl
              have hj2 : Hid (j' = Sort.scanDown (fun x => !lt x dk[a]!) dk i' j) := (scanDown_end (fun x => !lt x dk[a]!) dk i' j' (Or.inr (by simp [hlv2]))).symm.trans hsd.out
              have hlt3 := part_scans_lt lt a i j dk (by omega) hi2.out hj2.out hle2
              go_wp2_with (go_at_call 21; refine hl.mono ?_; rintro e w2 ⟨rfl, hn2⟩; obtain ⟨y0, y1, hy⟩ := hn2.b; obtain ⟨w3, hr3, hn3⟩ := G.swapN hn2 hsk i' j' (by omega) (by omega))
              rw [decide_eq_false (show ¬ j' < i' by omega)]
              have hsk3 : (Sort.swp dk i' j').size = N := by rw [size_swp]; exact hsk
              obtain ⟨I0, hI0⟩ : ∃ I0 : Nat, I0 = i' + 1 := ⟨_, rfl⟩
              obtain ⟨J0, hJ0⟩ : ∃ J0 : Nat, J0 = j' - 1 := ⟨_, rfl⟩
              obtain ⟨D0, hD0⟩ : ∃ D0 : Array α, D0 = Sort.swp dk i' j' := ⟨_, rfl⟩
              have PF : Hid (Sort.partition lt d a b pivot = ((Sort.partLoop lt a I0 J0 D0).1, false, Sort.swp (Sort.partLoop lt a I0 J0 D0).2 (Sort.partLoop lt a I0 J0 D0).1 a)) := by
                rw [hI0, hJ0, hD0]; exact part_first_go lt d a b pivot Hi.out Hj.out Hdk.out hi2.out hj2.out (by omega)
              go_loopw [10, 11] (fun vi vj wr => ∃ (i j : Nat) (dk : Array α), vi = .int .i64 i ∧ vj = .int .i64 j ∧ a < i ∧ i ≤ j + 1 ∧ j < b ∧ dk.size = N ∧ Sn enc lb sf sb blk off w0 W dk wr ∧
                  Hid (Sort.partLoop lt a i j dk = Sort.partLoop lt a I0 J0 D0))
                (fun vi vj _ => (intOf vj).toNat + 1 - (intOf vi).toNat)
              case atStart => exact ⟨i' + 1, j' - 1, Sort.swp dk i' j', by go_num, by go_num, by omega, by omega, by omega, hsk3, hn3, (show Hid _ from by rw [hI0, hJ0, hD0]; exact rfl)⟩
              case round =>
                clear hI0 hJ0 hD0 hr3 hn3 hn2 hn1 y0 y1 hy hl hlv2 hj2 hi2 hlt3 hsd c0 c1 Hi Hj Hdk hsk hsk3
                obtain ⟨i, j, dk, rfl, rfl, hai, hij, hjb, hsk, hn, AE⟩ := hrel
                go_wp2
                go_loopw [10] (fun vi w1 => ∃ (i' : Nat), vi = .int .i64 i' ∧ i ≤ i' ∧ i' ≤ j + 1 ∧ Sn enc lb sf sb blk off w0 W dk w1 ∧
                    Hid (Sort.scanUp (fun x => lt x dk[a]!) dk j i' = Sort.scanUp (fun x => lt x dk[a]!) dk j i))
                  (fun vi _ => j + 1 - (intOf vi).toNat)
                case atStart => exact ⟨i, rfl, Nat.le_refl _, hij, hn, rfl⟩
                case round =>
                  clear hn
                  obtain ⟨i', rfl, hii, hij', hn, hsc⟩ := hrel
                  have c0 := hn.b.c0
                  by_cases hle : i' ≤ j
                  · have hl := G.lessN hn hsk i' a (by omega) (by omega)
                    cases hlv : lt dk[i']! dk[a]! with
                    | true =>
                      rw [hlv] at hl
                      go_wp2_with (go_at_call 21; refine hl.mono ?_; rintro e w1 ⟨rfl, hn1⟩)
                      go_roundw
                      case rel => exact ⟨i' + 1, by go_num, by omega, by omega, hn1, (scanUp_go (fun x => lt x dk[a]!) dk j i' hle hlv).symm.trans hsc.out⟩
                      case measure => simp [intOf]; omega
                    | false =>
                      rw [hlv] at hl
                      have hi2 : Hid (i' = Sort.scanUp (fun x => lt x dk[a]!) dk j i) := (scanUp_end (fun x => lt x dk[a]!) dk j i' (Or.inr hlv)).symm.trans hsc.out
                      go_wp2_with (go_at_call 21; refine hl.mono ?_; rintro e w1 ⟨rfl, hn1⟩)
                      clear hl hn hsc c0
                      go_loopw [11] (fun vj w2 => ∃ (j' : Nat), vj = .int .i64 j' ∧ j' ≤ j ∧ i' ≤ j' + 1 ∧ Sn enc lb sf sb blk off w0 W dk w2 ∧
                          Hid (Sort.scanDown (fun x => !lt x dk[a]!) dk i' j' = Sort.scanDown (fun x => !lt x dk[a]!) dk i' j))
                        (fun vj _ => (intOf vj).toNat)
                      case atStart => exact ⟨j, rfl, Nat.le_refl _, hij', hn1, rfl⟩
                      case round =>
                        clear hn1
                        obtain ⟨j', rfl, hjj, hij2, hn1, hsd⟩ := hrel
                        have c0 := hn1.b.c0
                        have c1 := hn1.b.c1
                        by_cases hle2 : i' ≤ j'
                        · have hl := G.lessN hn1 hsk j' a (by omega) (by omega)
                          cases hlv2 : lt dk[j']! dk[a]! with
                          | false =>
                            rw [hlv2] at hl
                            go_wp2_with (go_at_call 21; refine hl.mono ?_; rintro e w2 ⟨rfl, hn2⟩)
                            go_roundw
                            case rel => exact ⟨j' - 1, by go_num, by omega, by omega, hn2, (scanDown_go (fun x => !lt x dk[a]!) dk i' j' hle2 (by omega) (by simp [hlv2])).symm.trans hsd.out⟩
                            case measure => simp [intOf]; omega
                          | true =>
                            rw [hlv2] at hl
                            have hj2 : Hid (j' = Sort.scanDown (fun x => !lt x dk[a]!) dk i' j) := (scanDown_end (fun x => !lt x dk[a]!) dk i' j' (Or.inr (by simp [hlv2]))).symm.trans hsd.out
                            have hlt3 := part_scans_lt lt a i j dk (by omega) hi2.out hj2.out hle2
                            go_wp2_with (go_at_call 21; refine hl.mono ?_; rintro e w2 ⟨rfl, hn2⟩; obtain ⟨y0, y1, hy⟩ := hn2.b; obtain ⟨w3, hr3, hn3⟩ := G.swapN hn2 hsk i' j' (by omega) (by omega))
                            go_roundw
                            case rel => exact ⟨i' + 1, j' - 1, Sort.swp dk i' j', by go_num, by go_num, by omega, by omega, by omega, by rw [size_swp]; exact hsk, hn3, (show Hid _ from by rw [← AE.out]; exact (part_go lt a i j dk hi2.out hj2.out (by omega)).symm)⟩
                            case measure => simp [intOf]; omega
                        · have hj2 : Hid (j' = Sort.scanDown (fun x => !lt x dk[a]!) dk i' j) := (scanDown_end (fun x => !lt x dk[a]!) dk i' j' (Or.inl hle2)).symm.trans hsd.out
                          clear hsd
                          obtain ⟨w3, hr3, hn3⟩ := G.swapN hn1 hsk j' a (by omega) (by omega)
                          go_wp2
                          go_ret2
                          have e := part_break lt a i j dk hi2.out hj2.out (by omega)
                          rw [PF.out, ← AE.out, e]
                          exact ⟨rfl, hn3.s, hn3.k⟩
                  · have hi2 : Hid (i' = Sort.scanUp (fun x => lt x dk[a]!) dk j i) := (scanUp_end (fun x => lt x dk[a]!) dk j i' (Or.inl hle)).symm.trans hsc.out
                    go_wp2
                    clear hsc c0
                    have hn1 := hn
                    clear hn
                    go_loopw [11] (fun vj w2 => ∃ (j' : Nat), vj = .int .i64 j' ∧ j' ≤ j ∧ i' ≤ j' + 1 ∧ Sn enc lb sf sb blk off w0 W dk w2 ∧
                        Hid (Sort.scanDown (fun x => !lt x dk[a]!) dk i' j' = Sort.scanDown (fun x => !lt x dk[a]!) dk i' j))
                      (fun vj _ => (intOf vj).toNat)
                    case atStart => exact ⟨j, rfl, Nat.le_refl _, hij', hn1, rfl⟩
                    case round =>
                      clear hn1
                      obtain ⟨j', rfl, hjj, hij2, hn1, hsd⟩ := hrel
                      have c0 := hn1.b.c0
                      have c1 := hn1.b.c1
                      by_cases hle2 : i' ≤ j'
                      · exfalso; omega
                      · have hj2 : Hid (j' = Sort.scanDown (fun x => !lt x dk[a]!) dk i' j) := (scanDown_end (fun x => !lt x dk[a]!) dk i' j' (Or.inl hle2)).symm.trans hsd.out
                        clear hsd
                        obtain ⟨w3, hr3, hn3⟩ := G.swapN hn1 hsk j' a (by omega) (by omega)
                        go_wp2
                        go_ret2
                        have e := part_break lt a i j dk hi2.out hj2.out (by omega)
                        rw [PF.out, ← AE.out, e]
                        exact ⟨rfl, hn3.s, hn3.k⟩
          · have hj2 : Hid (j' = Sort.scanDown (fun x => !lt x dk[a]!) dk i' j) := (scanDown_end (fun x => !lt x dk[a]!) dk i' j' (Or.inl hle2)).symm.trans hsd.out
            clear hsd
            obtain ⟨w3, hr3, hn3⟩ := G.swapN hn1 hsk j' a (by omega) (by omega)
            go_wp2
            go_ret2
            have e := part_first_break lt d a b pivot Hi.out Hj.out Hdk.out hi2.out hj2.out (by omega)
            rw [e]
            exact ⟨rfl, hn3.s, hn3.k⟩
    · have hi2 : Hid (i' = Sort.scanUp (fun x => lt x dk[a]!) dk j i) := (scanUp_end (fun x => lt x dk[a]!) dk j i' (Or.inl hle)).symm.trans hsc.out
      go_wp2
      clear hsc c0
      have hn1 := hn
      clear hn
      go_loopw [11] (fun vj w2 => ∃ (j' : Nat), vj = .int .i64 j' ∧ j' ≤ j ∧ i' ≤ j' + 1 ∧ Sn enc lb sf sb blk off w0 W dk w2 ∧
          Hid (Sort.scanDown (fun x => !lt x dk[a]!) dk i' j' = Sort.scanDown (fun x => !lt x dk[a]!) dk i' j))
        (fun vj _ => (intOf vj).toNat)
      case atStart => exact ⟨j, rfl, Nat.le_refl _, hij', hn1, rfl⟩
      case round =>
        clear hn1
        obtain ⟨j', rfl, hjj, hij2, hn1, hsd⟩ := hrel
        have c0 := hn1.b.c0
        have c1 := hn1.b.c1
        by_cases hle2 : i' ≤ j'
        · exfalso; omega
        · have hj2 : Hid (j' = Sort.scanDown (fun x => !lt x dk[a]!) dk i' j) := (scanDown_end (fun x => !lt x dk[a]!) dk i' j' (Or.inl hle2)).symm.trans hsd.out
          clear hsd
          obtain ⟨w3, hr3, hn3⟩ := G.swapN hn1 hsk j' a (by omega) (by omega)
          go_wp2
          go_ret2
          have e := part_first_break lt d a b pivot Hi.out Hj.out Hdk.out hi2.out hj2.out (by omega)
          rw [e]
          exact ⟨rfl, hn3.s, hn3.k⟩

end Go.Proofs.Ybulkdwzg.lawB
