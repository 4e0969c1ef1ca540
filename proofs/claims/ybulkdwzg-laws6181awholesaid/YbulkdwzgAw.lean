/-
  THE WALK of LawS6181AWhole (3).
-/
import Derived.Test.YbulkdwzgAp
import Derived.Deep.DeepCutAuto
namespace Go.Proofs.Ybulkdwzg
open Go.RowKit Go.Maps Go.WideMaps Go.WideElems

set_option maxRecDepth 100000 in
set_option maxHeartbeats 2000000 in
theorem law_a (b off n cap : Nat) (jr : Int) (ix : Bool) (X : Nat → El) (w : World) (hin : Inp w b off n X) (h0 : 0 < n) (hn : n ≤ 4096) (hjr : 0 ≤ jr) (hjr' : jr ≤ 18446744073709551615) :
    Calls Yba.prog 3 #[.slice (some ⟨b, off, none⟩) n cap, .int .u64 jr, .bool ix] w fun e w' => e = .returned (.bool true) ∧ Below w.heap.size w w' := by
  have hmk := run_make24 n hn
  have hbw : b < w.heap.size := World.block_lt_of_cell? _ _ (inp_cells hin 0 h0).1
  have hI0 : ((n : Int) == 0) = false := by rw [beq_eq_false_iff_ne]; omega
  have hIn : decide ((4096 : Int) < (n : Int)) = false := decide_eq_false (by omega)
  obtain ⟨Z, hZ⟩ : ∃ Z, Z = zeros n := ⟨_, rfl⟩
  rw [← hZ] at hmk
  have HZ : Hid (Z = zeros n) := hZ
  clear hZ
  go_enter Yba.func3, Yba.ntmps3
  go_wp2
  obtain ⟨w1, hw1⟩ : ∃ w1, w1 = w.alloc (.cells Z 32) := ⟨_, rfl⟩
  have hb1 : Below w.heap.size w w1 := by rw [hw1]; exact (Below.refl _ w).alloc (Nat.le_refl _) _
  have hA1 : w1.heap[w.heap.size]? = some (.cells Z.toList.toArray 32 (0, 0)) := by rw [hw1, Array.toArray_toList]; exact heap_alloc_new w _
  have hs1 : w1.heap.size = w.heap.size + 1 := by rw [hw1]; simp
  rw [← hw1]
  clear hw1 hmk
  have hR0 : Row Z.toList X (fun _ => .slice none 0 0) n 0 := by rw [HZ.out]; exact zeros_row X n
  have HR0 : Hid (Row Z.toList X (fun _ => .slice none 0 0) n 0) := hR0
  have HA1 : Hid (w1.heap[w.heap.size]? = some (.cells Z.toList.toArray 32 (0, 0))) := hA1
  have HIN : Hid (Inp w b off n X) := hin
  have HS1 : Hid (w1.heap.size = w.heap.size + 1) := hs1
  clear hR0 hA1 hin HZ hs1
  go_loopw [9] (fun i wr => ∃ (k : Nat) (C : List Value) (Wv : Nat → Value), k ≤ n ∧ i = .int .i64 k ∧ Hid (wr.heap[w.heap.size]? = some (.cells C.toArray 32 (0, 0))) ∧ Row C X Wv n k ∧ Hid (∀ i, i < k → CL wr (w.heap.size + 1) (X i) (Wv i)) ∧ w1.grownBy wr (some w.heap.size)) (fun i _ => n - (intOf i).toNat)
  case atStart => exact ⟨0, Z.toList, fun _ => .slice none 0 0, Nat.zero_le _, rfl, HA1, HR0, fun i hi => absurd hi (Nat.not_lt_zero _), World.grownBy.refl _ _⟩
  case round =>
    obtain ⟨k, C, Wv, hk, rfl, HC, hrow, HCL, hgr⟩ := hrel
    have hbr : Below w.heap.size w wr := hb1.grown hgr hb1.size (fun j hj => by cases hj; exact Nat.le_refl _)
    have hsr : w.heap.size + 1 ≤ wr.heap.size := by rw [← HS1.out]; exact hgr.size
    by_cases hlt : k < n
    · have hkI : (k : Int) < (n : Int) := by omega
      obtain ⟨q0, q1, q2, q3, q4, q5⟩ := inp_cells HIN.out k hlt
      obtain ⟨x, hx⟩ : ∃ x, x = X k := ⟨_, rfl⟩
      rw [← hx] at q0 q1 q2 q3 q4 q5
      have c0 := cell_later hbr q0
      have c1 := cell_later hbr q1
      have c2 := cell_later hbr q2
      have c3 := cell_later hbr q3
      have c4 := cell_later hbr q4
      have c5 := cell_later hbr q5
      have hxs : x.s.size ≤ 140737488355000 := by rw [hx]; exact (HIN.out k hlt).2.1
      have HWx : Hid (WOK wr x) := by rw [hx]; exact (HIN.out k hlt).2.2.later hbr
      have HX : Hid (x = X k) := hx
      clear q0 q1 q2 q3 q4 q5 hx
      clear HIN
      go_wp2
      obtain ⟨wT, hwT⟩ : ∃ wT, wT = wr.alloc (.cells #[.string x.s, .string x.v, .bool x.ab, .int .u32 x.mark, .int .i64 x.fi, .slice x.wa x.wl x.wc] 28) := ⟨_, rfl⟩
      rw [← hwT]
      have hbT : Below wr.heap.size wr wT := by rw [hwT]; exact (Below.refl _ wr).alloc (Nat.le_refl _) _
      have hsT : wr.heap.size < wT.heap.size := by rw [hwT]; simp
      have t0 : wT.cell? ⟨wr.heap.size, 0, none⟩ = some (.string x.s) := by rw [hwT]; simp
      have t1 : wT.cell? ⟨wr.heap.size, 1, none⟩ = some (.string x.v) := by rw [hwT]; simp
      have t2 : wT.cell? ⟨wr.heap.size, 2, none⟩ = some (.bool x.ab) := by rw [hwT]; simp
      have t3 : wT.cell? ⟨wr.heap.size, 3, none⟩ = some (.int .u32 x.mark) := by rw [hwT]; simp
      have t4 : wT.cell? ⟨wr.heap.size, 4, none⟩ = some (.int .i64 x.fi) := by rw [hwT]; simp
      have t5 : wT.cell? ⟨wr.heap.size, 5, none⟩ = some (.slice x.wa x.wl x.wc) := by rw [hwT]; simp
      have HAT : Hid (wT.heap[w.heap.size]? = some (.cells C.toArray 32 (0, 0))) := (hbT.block _ (by omega)).trans HC.out
      have HWT : Hid (WOK wT.drew x) := WOK.later (w' := wT.drew) HWx.out hbT.drew
      have hCl : k * 6 + 6 ≤ C.length := by rw [hrow.1]; omega
      have hTA : wr.heap.size ≠ w.heap.size := by omega
      have hTA' : w.heap.size ≠ wr.heap.size := by omega
      clear hwT c0 c1 c2 c3 c4 c5 HWx
      go_region_held3 (fun w' => w'.cell? ⟨wr.heap.size, 0, none⟩ = some (.string x.s) ∧ w'.cell? ⟨wr.heap.size, 1, none⟩ = some (.string x.v) ∧ w'.cell? ⟨wr.heap.size, 2, none⟩ = some (.bool x.ab) ∧ w'.cell? ⟨wr.heap.size, 3, none⟩ = some (.int .u32 x.mark) ∧ w'.cell? ⟨wr.heap.size, 4, none⟩ = some (.int .i64 x.fi) ∧ w'.cell? ⟨wr.heap.size, 5, none⟩ = some (.slice x.wa x.wl x.wc)) (go_keep)
        ((first | (go_at_call 6; refine (name_any x.s _ _ hxs (by omega) (by omega)).mono ?_; rintro e w2 ⟨rfl, hb2⟩; obtain ⟨s0, s1, s2, s3, s4, s5⟩ := six_later (w := wT.drew) hb2 t0 t1 t2 t3 t4 t5) | (go_at_call 7; refine (clone_any x _ (by exact HWT.out.later hb2)).mono ?_; rintro e w3 ⟨ca, cl, cc, rfl, hcl, hb3⟩; obtain ⟨p0, p1, p2, p3, p4, p5⟩ := six_later hb3 s0 s1 s2 s3 s4 s5; have hA3 : w3.heap[w.heap.size]? = some (.cells C.toArray 32 (0, 0)) := ((hb3.block _ (by have h1 := hb2.size; have h2 : wT.drew.heap.size = wT.heap.size := rfl; omega)).trans (hb2.block _ (by have h2 : wT.drew.heap.size = wT.heap.size := rfl; omega))).trans HAT.out; obtain ⟨v0, v1, v2, v3, v4, v5, ⟨a0, f0⟩, ⟨a1, f1⟩, ⟨a2, f2⟩, ⟨a3, f3⟩, ⟨a4, f4⟩, ⟨a5, f5⟩⟩ := six_there w3 w.heap.size (k * 6) C 32 hA3 hCl; have HA3 : Hid (w3.heap[w.heap.size]? = some (.cells C.toArray 32 (0, 0))) := hA3; clear hA3)))
      clear t0 t1 t2 t3 t4 t5 s0 s1 s2 s3 s4 s5 p0 p1 p2 p3 p4 p5 a0 a1 a2 a3 a4 a5 f0 f1 f2 f3 f4 f5
      go_wp2
      go_roundw
      case rel =>
        obtain ⟨C', Wv', r1, r2, r3, r4⟩ := rel1 HX.out hlt HA3.out hrow HCL.out hgr hsr hbT hb2 hb3 hcl
        exact ⟨k + 1, C', Wv', by omega, by go_num, r1, r2, r3, r4⟩
      case measure => simp [intOf]; omega
    · rename World => wA
      obtain rfl : k = n := by omega
      have hmm := mk33 k
      obtain ⟨G, hGd⟩ : ∃ G : Nat → ByteArray, G = fun i => nameB (X i).s i := ⟨_, rfl⟩
      have HG : Hid (∀ i, i < k → C[i * 6]? = some (.string (G i))) := fun i hi => by rw [hGd]; exact hrow.2.2 i hi 0 (by omega)
      have HGs : Hid (∀ i, i < k → (G i).size ≤ maxLen) := fun i hi => by
        rw [hGd]
        have h1 := (HIN.out i hi).2.1
        have h2 := nameB_size (X i).s i (by omega)
        show (nameB (X i).s i).size ≤ maxLen
        unfold maxLen; omega
      have HGi : Hid (∀ i l, i < k → l < k → G i = G l → i = l) := fun i l _ _ e => by
        rw [hGd] at e
        exact nameB_inj _ _ i l e
      have HGd : Hid (G = fun i => nameB (X i).s i) := hGd
      have HROW : Hid (Row C X Wv k k) := hrow
      have HGR : Hid (w1.grownBy wA (some w.heap.size)) := hgr
      clear hGd hrow hgr
      go_upto_region 11 with (fail)
      go_cut [64] from 22 (fun tv w' => tv = .bool (ix || decide ((16 : Int) ≤ (k : Int))) ∧ wA = w')
      case first =>
        cases ix
        · go_wp2
          go_meet
          case rel => exact ⟨rfl, rfl⟩
        · go_wp2
          go_meet
          case rel => exact ⟨rfl, rfl⟩
      obtain ⟨rfl, rfl⟩ := hcut
      go_upto_if 64 with (fail)
      go_cut [11] from 22 (fun av w' => ∃ mv, av = .map mv ∧ IxOK w' mv k wA.heap.size G ∧ wA.grownBy w' none)
      case first =>
        cases hmap : (ix || decide ((16 : Int) ≤ (k : Int)))
        · have h15 : k ≤ 15 := by simp at hmap; omega
          go_wp2
          go_meet
          case rel => exact ⟨none, rfl, .inl ⟨rfl, h15⟩, World.grownBy.refl _ _⟩
        · go_wp2
          obtain ⟨wM, hwM⟩ : ∃ wM, wM = wA.alloc (.map #[] 0) := ⟨_, rfl⟩
          have hM0 : MI wM wA.heap.size 0 (.map []) := by rw [hwM]; exact World.ownsMap_made wA _ _ _
          have hgM : wA.grownBy wM none := by rw [hwM]; exact World.grownBy_alloc wA _ _
          rw [← hwM]
          clear hwM hmm
          go_loopw [12] (fun i wq => ∃ (m : Nat) (D : DataW Unit), m ≤ k ∧ i = .int .i64 m ∧ MI wq wA.heap.size m D ∧ Hid (Fl D G k m) ∧ wM.grownBy wq (some wA.heap.size)) (fun i _ => k - (intOf i).toNat)
          case atStart => exact ⟨0, .map [], Nat.zero_le _, rfl, hM0, fl_start G k, World.grownBy.refl _ _⟩
          case round =>
            obtain ⟨m, D, hmk', rfl, hMq, HFL, hgq⟩ := hrel
            by_cases hlt2 : m < k
            · have hmI : (m : Int) < (k : Int) := by omega
              have cA : wr.cell? ⟨w.heap.size, m * 6, none⟩ = some (.string (G m)) := hgq.cell (hgM.cell (cell_row wA w.heap.size (m * 6) C 32 _ HC.out (HG.out m hlt2)) (by simp)) (by simp; omega)
              have hwf : plainElem (H := Unit) Yba.prog 3 (.int .i64 (m : Int)) = some (iv m, []) := plainElem_int Yba.underlying3 (WalkArith.wf_i64 ⟨by omega, by omega⟩)
              have HWF : Hid (plainElem (H := Unit) Yba.prog 3 (.int .i64 (m : Int)) = some (iv m, [])) := hwf
              have hkey := key_of (G m) (HGs.out m hlt2)
              have HK : Hid (keyOf Yba.prog 9 (.string (G m)) = some (key (G m))) := hkey
              have HST : Hid (Fl (D.put (key (G m)) (iv m)) G k (m + 1)) := fl_step HFL.out (World.ownsMap.isMap hMq) (World.ownsMap.tidy hMq law9) (key_lit _ (HGs.out m hlt2)) hlt2 HGi.out
              clear hwf hkey
              go_wp2_with (first | (at_mapUpdate; refine wpList_mapUpdate_own _ rfl _ _ _ 33 rfl 9 3 law9 Yba.underlying33 _ wA.heap.size m D rfl hMq (by unfold maxLen; omega) _ _ _ rfl rfl HK.out _ [] HWF.out ?_; intro w5 hM5 hg5))
              go_roundw
              case rel => exact ⟨m + 1, _, by omega, by go_num, hM5, HST, hgq.trans hg5⟩
              case measure => simp [intOf]; omega
            · obtain rfl : m = k := by omega
              go_wp2
              go_meet
              case rel =>
                have hf := HFL.out
                exact ⟨some wA.heap.size, rfl, .inr ⟨wA.heap.size, _, D, rfl, Nat.le_refl _, hMq, hn, hf.1, hf.2.1⟩, hgM.andThen hgq (fun j hj => by cases hj; exact .inl (Nat.le_refl _))⟩
      case rest =>
        obtain ⟨mv, rfl, HIX, hgc⟩ := hcut
        clear hmm HA1 HR0
        obtain ⟨j, hjd, hjk⟩ : ∃ j : Nat, jr % (k : Int) = (j : Int) ∧ j < k := by
          have h1 := Int.emod_nonneg jr (show (k : Int) ≠ 0 by omega)
          have h2 := Int.emod_lt_of_pos jr (show (0 : Int) < (k : Int) by omega)
          exact ⟨(jr % (k : Int)).toNat, by omega, by omega⟩
        go_wp2_with fail
        obtain ⟨N, hN⟩ : ∃ N : List Value, N = [.int .u64 0, .int .u64 0, .string ⟨#[101, 108]⟩, .string ⟨#[118]⟩, .int .u8 0, .bool false, .bool false, .int .u8 0, .int .u32 0, .int .i64 0, .pointer none, .slice none 0 0, .pointer none, .slice (some ⟨w.heap.size, 0, none⟩) k k, .map mv, .string ⟨#[]⟩, .slice none 0 0, .slice none 0 0, .pointer none] := ⟨_, rfl⟩
        obtain ⟨wE, hwE⟩ : ∃ wE, wE = wc.alloc (.cells N.toArray 46) := ⟨_, rfl⟩
        have hEE : wE.heap[wc.heap.size]? = some (.cells N.toArray 46 (0, 0)) := by rw [hwE]; exact heap_alloc_new wc _
        have hbE : Below wc.heap.size wc wE := by rw [hwE]; exact (Below.refl _ wc).alloc (Nat.le_refl _) _
        have hsE : wE.heap.size = wc.heap.size + 1 := by rw [hwE]; simp
        have hwE' : wE = wc.alloc (.cells #[.int .u64 0, .int .u64 0, .string ⟨#[101, 108]⟩, .string ⟨#[118]⟩, .int .u8 0, .bool false, .bool false, .int .u8 0, .int .u32 0, .int .i64 0, .pointer none, .slice none 0 0, .pointer none, .slice (some ⟨w.heap.size, 0, none⟩) k k, .map mv, .string ⟨#[]⟩, .slice none 0 0, .slice none 0 0, .pointer none] 46) := by rw [hwE, hN]
        rw [← hwE']
        clear hwE' hwE
        have hsc := hgc.size
        have hAc : wc.heap[w.heap.size]? = some (.cells C.toArray 32 (0, 0)) := (hgc.block _ (by omega) (by simp)).trans HC.out
        have hAE : wE.heap[w.heap.size]? = some (.cells C.toArray 32 (0, 0)) := (hbE.block _ (by omega)).trans hAc
        have hIXE : IxOK wE mv k w.heap.size G := HIX.later hbE (by omega)
        refine (delAttr_any w.heap.size wc.heap.size w.heap.size k j mv N C G wE hEE (by rw [hN]; rfl) (by rw [hN]; rfl) hAE HROW.out.1 HROW.out.2.1 HG.out HGs.out HGi.out hIXE hn hjk (by omega) (by omega) (Nat.le_refl _) (by omega)).mono ?_
        rintro e w6 ⟨rfl, hE6, hA6, hix6, hb6, hfr6⟩
        -- what is known of w6
        have hs6 : wE.heap.size ≤ w6.heap.size := hb6.size
        have hbc : Below w.heap.size w wc := hbr.grown hgc (by omega) (fun _ hj => by cases hj)
        have hb06 : Below w.heap.size w w6 := (hbc.trans (hbE.mono (by omega))).trans hb6
        have HCL6 : Hid (∀ i, i < k → CL w6 (w.heap.size + 1) (X i) (Wv i)) := fun i hi => by
          refine (HCL.out i hi).stays (by omega) (fun g h1 h2 => ?_)
          rw [hfr6 g (by omega) (by omega) (by omega) (fun e => ?_), hbE.block g (by omega), hgc.block g h2 (by simp)]
          rcases HIX with ⟨h, _⟩ | ⟨M, _, _, h, h3, _⟩
          · rw [h] at e; cases e
          · rw [h] at e; have := Option.some.inj e; omega
        have g2 : w6.cell? ⟨wc.heap.size, 2, none⟩ = some (.string ⟨#[101, 108]⟩) := cell_row w6 _ _ _ 46 _ hE6 (by rw [hN]; rfl)
        have g3 : w6.cell? ⟨wc.heap.size, 3, none⟩ = some (.string ⟨#[118]⟩) := cell_row w6 _ _ _ 46 _ hE6 (by rw [hN]; rfl)
        have g10 : w6.cell? ⟨wc.heap.size, 10, none⟩ = some (.pointer none) := cell_row w6 _ _ _ 46 _ hE6 (by rw [hN]; rfl)
        have g13 : w6.cell? ⟨wc.heap.size, 13, none⟩ = some (.slice (some ⟨w.heap.size, 0, none⟩) (k - 1) k) := cell_row w6 _ _ _ 46 _ hE6 (by rw [hN]; rfl)
        have g14 : w6.cell? ⟨wc.heap.size, 14, none⟩ = some (.map mv) := cell_row w6 _ _ _ 46 _ hE6 (by rw [hN]; rfl)
        have HA6 : Hid (w6.heap[w.heap.size]? = some (.cells (delRow C j).toArray 32 (0, 0))) := hA6
        have HIX6 : Hid (IxPost w6 mv k j G) := hix6
        have HB6 : Hid (Below w.heap.size w w6) := hb06
        have hcn : wc.heap.size < w6.heap.size := by omega
        clear hN hEE hbE hAc hAE hIXE hE6 hA6 hix6 hb6 hfr6 hbc hb06 HIX hgc HCL hsE hs6 HC
        have hk1 : ((k - 1 : Nat) : Int) = (k : Int) - 1 := by omega
        go_wp2
        go_loopw [15] (fun i wq => ∃ m : Nat, m ≤ k - 1 ∧ i = .int .i64 m ∧ Below w6.heap.size w6 wq) (fun i _ => k - (intOf i).toNat)
        case atStart => exact ⟨0, Nat.zero_le _, rfl, Below.refl _ _⟩
        case round =>
          obtain ⟨m, hm, rfl, hbq⟩ := hrel
          have hbw6 : Below w.heap.size w wr := HB6.out.trans (hbq.mono HB6.out.size)
          have e13 := cell_later hbq g13
          have lE : wc.heap.size < wr.heap.size := by have := hbq.size; omega
          have lE1 : wc.heap.size < wr.heap.size + 1 := by omega
          have lA : w.heap.size < wr.heap.size := by omega
          have lA1 : w.heap.size < wr.heap.size + 1 := by omega
          by_cases hmk : m < k - 1
          · have hmI : (m : Int) < (k : Int) - 1 := by omega
            obtain ⟨d0, d1, d2, d3, d4, d5⟩ := del_cells HA6.out HROW.out hjk hmk
            obtain ⟨S, hS⟩ : ∃ S, S = src j m := ⟨_, rfl⟩
            have hSk : S < k := by rw [hS]; exact src_lt hmk
            rw [← hS] at d0 d1 d2 d3 d4 d5
            obtain ⟨q0, q1, q2, q3, q4, q5⟩ := inp_cells HIN.out S hSk
            obtain ⟨x, hx⟩ : ∃ x, x = X S := ⟨_, rfl⟩
            rw [← hx] at q0 q1 q2 q3 q4 q5 d0 d1 d2 d3 d4
            have hcl := HCL6.out S hSk
            rw [← hx] at hcl
            obtain ⟨va, vl, vc, hv, hnn⟩ := hcl.shape
            rw [hv] at hcl d5
            have HCLX : Hid (CL wr (w.heap.size + 1) x (.slice va vl vc)) := hcl.stays hbq.size (fun g _ h2 => hbq.block g h2)
            have HWX : Hid (WOK wr x) := by rw [hx]; exact (HIN.out S hSk).2.2.later hbw6
            have hxs : x.s.size ≤ 140737488355000 := by rw [hx]; exact (HIN.out S hSk).2.1
            replace q0 := cell_later hbw6 q0
            replace q1 := cell_later hbw6 q1
            replace q2 := cell_later hbw6 q2
            replace q3 := cell_later hbw6 q3
            replace q4 := cell_later hbw6 q4
            replace q5 := cell_later hbw6 q5
            replace d0 := cell_later hbq d0
            replace d1 := cell_later hbq d1
            replace d2 := cell_later hbq d2
            replace d3 := cell_later hbq d3
            replace d4 := cell_later hbq d4
            replace d5 := cell_later hbq d5
            clear hcl hv hx g2 g3 g10 g13 g14 HIN HROW HA6 HCL6 HIX6
            have hSI : (S : Int) < (k : Int) := by omega
            have HS : Hid (S = src j m) := hS
            clear hS
            go_upto_if 108 with (fail)
            go_cut [16] from 99 to 171 (fun sv w' => sv = .int .i64 (S : Int) ∧ wr = w')
            case first =>
              by_cases hmj : m < j
              · have hmjI : (m : Int) < (j : Int) := by omega
                have hSm : S = m := by rw [HS.out]; unfold src; rw [if_pos hmj]
                go_wp2
                go_meet
                case rel => exact ⟨by rw [hSm], rfl⟩
              · have hmjI : (j : Int) ≤ (m : Int) := by omega
                have hSm : S = m + 1 := by rw [HS.out]; unfold src; rw [if_neg hmj]
                go_wp2
                go_meet
                case rel => exact ⟨by rw [hSm]; go_num, rfl⟩
            obtain ⟨rfl, rfl⟩ := hcut
            go_wp2
            obtain ⟨wT, hwT⟩ : ∃ wT, wT = (wr.alloc (.cells #[.string x.s, .string x.v, .bool x.ab, .int .u32 x.mark, .int .i64 x.fi, .slice x.wa x.wl x.wc] 28)).alloc (.cells #[.string (nameB x.s S), .string x.v, .bool x.ab, .int .u32 x.mark, .int .i64 x.fi, .slice va vl vc] 32) := ⟨_, rfl⟩
            rw [← hwT]
            have hbT : Below wr.heap.size wr wT := by rw [hwT]; exact ((Below.refl _ wr).alloc (Nat.le_refl _) _).alloc (by simp) _
            have hsT : wr.heap.size + 1 < wT.heap.size := by rw [hwT]; simp
            have t0 : wT.cell? ⟨wr.heap.size, 0, none⟩ = some (.string x.s) := by rw [hwT]; simp
            have t1 : wT.cell? ⟨wr.heap.size, 1, none⟩ = some (.string x.v) := by rw [hwT]; simp
            have t2 : wT.cell? ⟨wr.heap.size, 2, none⟩ = some (.bool x.ab) := by rw [hwT]; simp
            have t3 : wT.cell? ⟨wr.heap.size, 3, none⟩ = some (.int .u32 x.mark) := by rw [hwT]; simp
            have t4 : wT.cell? ⟨wr.heap.size, 4, none⟩ = some (.int .i64 x.fi) := by rw [hwT]; simp
            have t5 : wT.cell? ⟨wr.heap.size, 5, none⟩ = some (.slice x.wa x.wl x.wc) := by rw [hwT]; simp
            have r0 : wT.cell? ⟨wr.heap.size + 1, 0, none⟩ = some (.string (nameB x.s S)) := by rw [hwT]; simp
            have r1 : wT.cell? ⟨wr.heap.size + 1, 1, none⟩ = some (.string x.v) := by rw [hwT]; simp
            have r2 : wT.cell? ⟨wr.heap.size + 1, 2, none⟩ = some (.bool x.ab) := by rw [hwT]; simp
            have r3 : wT.cell? ⟨wr.heap.size + 1, 3, none⟩ = some (.int .u32 x.mark) := by rw [hwT]; simp
            have r4 : wT.cell? ⟨wr.heap.size + 1, 4, none⟩ = some (.int .i64 x.fi) := by rw [hwT]; simp
            have r5 : wT.cell? ⟨wr.heap.size + 1, 5, none⟩ = some (.slice va vl vc) := by rw [hwT]; simp
            clear hwT q0 q1 q2 q3 q4 q5 d0 d1 d2 d3 d4 d5 e13 lE lE1 lA lA1
            go_region_held3 (fun w' => (w'.cell? ⟨wr.heap.size, 0, none⟩ = some (.string x.s) ∧ w'.cell? ⟨wr.heap.size, 1, none⟩ = some (.string x.v) ∧ w'.cell? ⟨wr.heap.size, 2, none⟩ = some (.bool x.ab) ∧ w'.cell? ⟨wr.heap.size, 3, none⟩ = some (.int .u32 x.mark) ∧ w'.cell? ⟨wr.heap.size, 4, none⟩ = some (.int .i64 x.fi) ∧ w'.cell? ⟨wr.heap.size, 5, none⟩ = some (.slice x.wa x.wl x.wc)) ∧ w'.cell? ⟨wr.heap.size + 1, 0, none⟩ = some (.string (nameB x.s S)) ∧ w'.cell? ⟨wr.heap.size + 1, 1, none⟩ = some (.string x.v) ∧ w'.cell? ⟨wr.heap.size + 1, 2, none⟩ = some (.bool x.ab) ∧ w'.cell? ⟨wr.heap.size + 1, 3, none⟩ = some (.int .u32 x.mark) ∧ w'.cell? ⟨wr.heap.size + 1, 4, none⟩ = some (.int .i64 x.fi) ∧ w'.cell? ⟨wr.heap.size + 1, 5, none⟩ = some (.slice va vl vc)) (go_keep)
              ((first | (go_at_call 6; refine (name_any x.s _ _ hxs (by omega) (by omega)).mono ?_; rintro e w2 ⟨rfl, hb2⟩; obtain ⟨s0, s1, s2, s3, s4, s5⟩ := six_later (w := wT.drew) hb2 t0 t1 t2 t3 t4 t5; obtain ⟨p0, p1, p2, p3, p4, p5⟩ := six_later (w := wT.drew) hb2 r0 r1 r2 r3 r4 r5)))
            have hbT2 : Below wr.heap.size wr w2 := below_two hbT hb2
            have HW2 : Hid (WOK w2 x) := HWX.out.later hbT2
            have HCL2 : Hid (CL w2 (w.heap.size + 1) x (.slice va vl vc)) := HCLX.out.stays hbT2.size (fun g _ h2 => hbT2.block g h2)
            have hn26 := nil26
            clear t0 t1 t2 t3 t4 t5 r0 r1 r2 r3 r4 r5 s0 s1 s2 s3 s4 p0 p1 p2 p3 p4
            go_wp2_with (first | (go_at_call 9; refine (equal_cl x _ va vl vc w2 HW2.out HCL2.out).mono ?_; rintro e w8 ⟨rfl, q, rfl⟩))
            have hbq' : Below w6.heap.size w6 (w2.drewN q) := below_drewN (hbq.trans (hbT2.mono hbq.size)) q
            have R : ∃ m' : Nat, m' ≤ k - 1 ∧ Value.int .i64 ((m : Int) + 1) = .int .i64 m' ∧ Below w6.heap.size w6 (w2.drewN q) := ⟨m + 1, by omega, by go_num, hbq'⟩
            go_roundw
            case rel => first | exact R | ((repeat apply Exists.intro); exact ⟨R, rfl⟩)
            case measure => simp [intOf]; omega
          · obtain rfl : m = k - 1 := by omega
            have e2 := cell_later hbq g2
            have e3 := cell_later hbq g3
            have e10 := cell_later hbq g10
            have e14 := cell_later hbq g14
            have hem := eqmap
            have hnm := nemap
            have hmI : ((k - 1 : Nat) : Int) = (k : Int) - 1 := by omega
            rcases HIX6.out with rfl | ⟨M, cnt, D, rfl, hM6, hsz6, hall6⟩
            · clear HIX6
              go_wp2
              go_ret
              exact ⟨rfl, hbw6⟩
            · have hMr : MI wr M cnt D := World.ownsMap.kept (row := none) hM6 ⟨hbq.os, hbq.tape, hbq.output, hbq.size, fun g hg _ => hbq.block g hg⟩ (by simp)
              obtain ⟨es, clock, hobj, hes⟩ := hMr.obj
              have hlen : (es.size : Int) = (k : Int) - 1 := by rw [hes, hsz6]; omega
              have hln : ∀ ty, (Builtin.len_ #[33] ty #[.map (some M)]).run Yba.prog wr = .ok (.int .i64 ((k : Int) - 1)) wr := fun ty => by
                rw [World.ownsMap.len hMr Yba.underlying33 ty, hsz6]
                congr 2
              clear HIX6 g2 g3 g10 g13 g14
              go_wp2
              clear hln hobj hes hlen hem hnm es clock
              rename World => w9
              go_loopw [19] (fun i wq => ∃ (m q : Nat), m ≤ k - 1 ∧ i = .int .i64 m ∧ w9.drewN q = wq) (fun i _ => k - (intOf i).toNat)
              case atStart => exact ⟨0, 0, Nat.zero_le _, rfl, rfl⟩
              case round =>
                obtain ⟨m, q, hm', rfl, rfl⟩ := hrel
                by_cases hmk2 : m < k - 1
                · have hmI2 : (m : Int) < (k : Int) - 1 := by omega
                  have hmI3 : (m : Int) < ((k - 1 : Nat) : Int) := by omega
                  have d0 := cell_later hbq (del_cells HA6.out HROW.out hjk hmk2).1
                  have hlk := look33 hMr (HGs.out _ (src_lt (j := j) hmk2)) (hall6 m hmk2).1 (hall6 m hmk2).2
                  obtain ⟨gs, hgs⟩ : ∃ gs, gs = G (src j m) := ⟨_, rfl⟩
                  have hgs' : nameB (X (src j m)).s (src j m) = gs := by rw [hgs, HGd.out]
                  rw [hgs'] at d0
                  rw [← hgs] at hlk
                  clear hgs hgs' hmk2
                  go_wp2
                  go_quiet (fail)
                  go_wp2
                  go_roundw
                  case rel => exact ⟨m + 1, q + nq, by omega, by go_num, by simp [World.drewN]⟩
                  case measure => simp [intOf]; omega
                · obtain rfl : m = k - 1 := by omega
                  go_wp2
                  go_ret
                  exact ⟨rfl, below_drewN hbw6 _⟩
end Go.Proofs.Ybulkdwzg
