/-
  THE WALK of reach (7).
-/
import Derived.Test.YbulkdxaiWf
import Derived.Deep.DeepCutAuto
namespace Go.Proofs.Ybulkdxai
open Go.RowKit

theorem QI.shape {w : World} {B base : Nat} {init : List Value} {qv : Value} {L : List Value} (h : QI w B base init qv L) : ∃ g c, qv = .slice (some ⟨g, 0, none⟩) L.length c ∧ ∀ j x, L[j]? = some x → w.cell? ⟨g, j, none⟩ = some x := by
  obtain ⟨h1, h2⟩ := h
  rcases h2 with ⟨rfl, hle⟩ | ⟨hge, g, c, rfl, hown⟩
  · refine ⟨B, init.length, rfl, fun j x hj => ?_⟩
    rw [cell_of_row w _ _ _ _ _ h1, List.take_of_length_le hle]
    have : j < L.length := by rcases Nat.lt_or_ge j L.length with h | h; · exact h
                              · rw [List.getElem?_eq_none h] at hj; cases hj
    rw [← hj]
    simp [List.getElem?_append_left this]
  · refine ⟨g, c, rfl, fun j x hj => ?_⟩
    rcases hown.2 with ⟨e, _⟩ | ⟨g', c', cur, e, _, hg, _, _, _, ht⟩
    · cases e
    · cases e
      rw [cell_of_row w _ _ _ _ _ hg]
      have hj2 : j < L.length := by rcases Nat.lt_or_ge j L.length with h | h; · exact h
                                    · rw [List.getElem?_eq_none h] at hj; cases hj
      rw [← ht, List.getElem?_take, if_pos (by omega)] at hj
      simpa using hj

theorem Rn.eN_len (R : Rn) (s : List Nat × List Nat) (v a : Nat) : ∀ m, s.1.length ≤ (R.eN s v a m).1.length
  | 0 => Nat.le_refl _
  | m + 1 => by
    refine Nat.le_trans (Rn.eN_len R s v a m) ?_
    simp only [Rn.eN, Rn.eS]
    split
    · exact Nat.le_refl _
    · split
      · simp
      · exact Nat.le_refl _

theorem u32_at (L : List Nat) (k : Nat) (h : k < L.length) : (u32s L)[k]? = some (.int .u32 ((L.getD k 0 : Nat) : Int)) := by
  simp [u32s, List.getElem?_eq_getElem h, List.getD]

set_option maxRecDepth 100000 in
set_option maxHeartbeats 2000000 in
theorem reach_c (b : Bk) (R : Rn) (AB : Nat → Bool) (init : List Value) (wc sc : Nat) (w : World) (hA : R.A = AC b.al AB) (hd : Bd b R) (ha : Ap b) (he : En b R AB w) (v0 : Value)
    (hl : LG w b.base b.Lg v0 []) (hB : w.heap[b.B]? = some (.cells init.toArray 26 (0, 0))) (hS : w.heap[b.Sb]? = some (.cells (wdL R.W b.wn).toArray 29 (0, 0))) (hz : b.base ≤ w.heap.size) :
    Calls Yba.prog 7 #[.pointer (some ⟨b.G, 0, none⟩), .slice (some ⟨b.B, 0, none⟩) init.length init.length, .slice (some ⟨b.Sx, 0, none⟩) b.ns sc, .slice (some ⟨b.Sb, 0, none⟩) b.wn wc, .func (.func 6) #[] #[.pointer (some ⟨b.Lg, 0, none⟩), .pointer (some ⟨b.Pa, 0, none⟩)]] w
      fun x w' => ∃ qv v K, x = .returned qv ∧ (R.st b.ns K).1.length ≤ K ∧ Mv b init w qv v (wL R.W (R.st b.ns K).1) (R.st b.ns K).1 (R.st b.ns K).2 w' := by
  have HD : Hid (Bd b R) := hd
  have HE : Hid (En b R AB w) := he
  have HAp : Hid (Ap b) := ha
  have HA : Hid (R.A = AC b.al AB) := hA
  have hM0 : Mv b init w (.slice (some ⟨b.B, 0, none⟩) 0 init.length) v0 (wL R.W (R.st0 0)) (R.st0 0) [] w := by
    refine ⟨⟨by simpa [Rn.st0, u32s] using hB, .inl ⟨by simp [Rn.st0, u32s], by simp [Rn.st0, u32s]⟩⟩, hl, by simpa [Rn.st0, wL] using hS, Out.refl _ _, fun k hk hv => ?_, hz⟩
    cases hk
    have := (LG.blk hl b.B hv).1
    have := ha.lB
    omega
  have HM0 : Hid (Mv b init w (.slice (some ⟨b.B, 0, none⟩) 0 init.length) v0 (wL R.W (R.st0 0)) (R.st0 0) [] w) := hM0
  have hn := hd.n
  have hns := hd.ns
  have htot := hd.tot
  clear hM0 hB hl hS he hd hA ha
  go_enter Yba.func7, Yba.ntmps7
  go_wp2
  go_loopw [1, 23] (fun qv i wq => ∃ (j : Nat) (v : Value), j ≤ b.ns ∧ i = .int .i64 j ∧ Hid (Mv b init w qv v (wL R.W (R.st0 j)) (R.st0 j) [] wq)) (fun _ i _ => b.ns - (intOf i).toNat)
  case atStart => exact ⟨0, v0, Nat.zero_le _, rfl, HM0.out⟩
  case round =>
    obtain ⟨j, v, hj, rfl, HM⟩ := hrel
    by_cases hlt : j < b.ns
    · have hjI : (j : Int) < (b.ns : Int) := by omega
      have cS := (HE.out.later HAp.out HM.out.o).fS j hlt
      obtain ⟨s, hs⟩ : ∃ s, s = R.S j := ⟨_, rfl⟩
      have hsn : s < b.n := by rw [hs]; exact HD.out.S j
      rw [← hs] at cS
      have HS : Hid (s = R.S j) := hs
      clear hs
      have hLl : (R.st0 j).length < 2 ^ 40 := by have := (R.st0_ok HD.out.S j).le; omega
      cases hb : R.sn (R.st0 j) s
      · go_wp2_with (first | (go_at_call 10; refine (has_m HD.out HM.out s wc hsn).mono ?_; rintro _ w2 ⟨rfl, hM2⟩; rw [hb]) | (go_at_call 11; refine (set_m HD.out HAp.out hM2 s wc hsn).mono ?_; rintro _ w3 ⟨rfl, hM3⟩) | (at_builtin; refine wpList_qm rfl (.tmp 36) (.tmp 38) rfl HAp.out hM3 s rfl rfl hLl ?_; intro qv' w4 hM4))
        go_roundw
        case rel => exact ⟨j + 1, v, by omega, by go_num, by simp only [Rn.st0, ← HS.out, hb]; exact hM4⟩
        case measure => simp [intOf]; omega
      · go_wp2_with (first | (go_at_call 10; refine (has_m HD.out HM.out s wc hsn).mono ?_; rintro _ w2 ⟨rfl, hM2⟩; rw [hb]))
        go_roundw
        case rel => exact ⟨j + 1, v, by omega, by go_num, by simp only [Rn.st0, ← HS.out, hb, if_true]; exact hM2⟩
        case measure => simp [intOf]; omega
    · obtain rfl : j = b.ns := by omega
      have HM1 : Hid (Mv b init w u1 v (wL R.W (R.st b.ns 0).1) (R.st b.ns 0).1 (R.st b.ns 0).2 wr) := HM
      clear HM HM0
      rename World => wA
      go_wp2
      go_loopw [1, 13] (fun q i wq => ∃ (k : Nat) (u : Value), k ≤ (R.st b.ns k).1.length ∧ i = .int .i64 k ∧ Hid (Mv b init w q u (wL R.W (R.st b.ns k).1) (R.st b.ns k).1 (R.st b.ns k).2 wq)) (fun _ i _ => b.n - (intOf i).toNat)
      case atStart => exact ⟨0, v, Nat.zero_le _, rfl, HM1.out⟩
      case round =>
        obtain ⟨k, u, hk, rfl, HM⟩ := hrel
        have hok := R.st_ok HD.out.S HD.out.T HD.out.F b.ns k
        have hLn := hok.1.le
        obtain ⟨s0, hs0⟩ : ∃ s0, s0 = R.st b.ns k := ⟨_, rfl⟩
        rw [← hs0] at HM hk hok hLn
        obtain ⟨g, c, rfl, hcl⟩ := HM.out.q.shape
        rw [show (u32s s0.1).length = s0.1.length by simp [u32s]] at HM ⊢
        have hkI : (k : Int) ≤ (s0.1.length : Int) := by omega
        by_cases hlt : k < s0.1.length
        · have hltI : (k : Int) < (s0.1.length : Int) := by omega
          have cK := hcl k _ (u32_at s0.1 k hlt)
          obtain ⟨x, hx⟩ : ∃ x, x = s0.1.getD k 0 := ⟨_, rfl⟩
          have hxn : x < b.n := hok.1.2 x (by rw [hx]; simp [List.getD, List.getElem?_eq_getElem hlt])
          rw [← hx] at cK
          have hF1 := HD.out.F1 x hxn
          have HX : Hid (x = s0.1.getD k 0) := hx
          have HS0 : Hid (s0 = R.st b.ns k) := hs0
          clear hx hs0 hcl
          obtain ⟨fa, hfa⟩ : ∃ fa, fa = R.F x := ⟨_, rfl⟩
          obtain ⟨fb, hfb⟩ : ∃ fb, fb = R.F (x + 1) := ⟨_, rfl⟩
          rw [← hfa, ← hfb] at hF1
          have HFa : Hid (fa = R.F x) := hfa
          have HFb : Hid (fb = R.F (x + 1)) := hfb
          clear hfa hfb
          go_wp2_with (first | (go_at_call 12; refine (edges_m HD.out HAp.out HE.out HM.out x hxn).mono ?_; rintro _ w2 ⟨rfl, hM2⟩; rw [← HFa.out, ← HFb.out]))
          go_loopw [1, 17] (fun q i wq => ∃ (m : Nat) (u' : Value), m ≤ fb - fa ∧ i = .int .i64 (fa + m : Nat) ∧ Hid (Mv b init w q u' (wL R.W (R.eN s0 x fa m).1) (R.eN s0 x fa m).1 (R.eN s0 x fa m).2 wq)) (fun _ i _ => fb - (intOf i).toNat)
          case atStart => exact ⟨0, u, Nat.zero_le _, rfl, hM2⟩
          case round =>
            obtain ⟨m, u', hm, rfl, HM3⟩ := hrel
            have hok3 := R.eN_ok HD.out.T hok.1 x fa m
            have hL3 := hok3.1.le
            obtain ⟨s3, hs3⟩ : ∃ s3, s3 = R.eN s0 x fa m := ⟨_, rfl⟩
            rw [← hs3] at HM3 hok3 hL3
            have HS3 : Hid (s3 = R.eN s0 x fa m) := hs3
            clear hs3
            by_cases hme : fa + m < fb
            · have hmeI : ((fa + m : Nat) : Int) < (fb : Int) := by omega
              have hT := HD.out.T (fa + m)
              obtain ⟨t, ht⟩ : ∃ t, t = R.T (fa + m) := ⟨_, rfl⟩
              rw [← ht] at hT
              have HT : Hid (t = R.T (fa + m)) := ht
              clear ht
              cases hb : R.sn s3.1 t
              · cases hacc : R.A (fa + m)
                · go_wp2_with (first | (go_at_call 13; refine (target_m HD.out HAp.out HE.out HM3.out (fa + m) (by omega)).mono ?_; rintro _ w5 ⟨rfl, rfl⟩; rw [← HT.out]) | (go_at_call 10; refine (has_m HD.out HM3.out t wc hT).mono ?_; rintro _ w6 ⟨rfl, hM6⟩; rw [hb]) | (go_at_call 6; refine (follow_m HD.out HAp.out HA.out HE.out hM6 x (fa + m) (by omega) (by omega)).mono ?_; rintro _ w7 ⟨rfl, u7, hM7⟩; rw [hacc]))
                  go_roundw
                  case rel => exact ⟨m + 1, u7, by omega, by go_num, by simp only [Rn.eN, Rn.eS, ← HS3.out, ← HT.out, hb, hacc]; exact hM7⟩
                  case measure => simp [intOf]; omega
                · go_wp2_with (first | (go_at_call 13; refine (target_m HD.out HAp.out HE.out HM3.out (fa + m) (by omega)).mono ?_; rintro _ w5 ⟨rfl, rfl⟩; rw [← HT.out]) | (go_at_call 10; refine (has_m HD.out HM3.out t wc hT).mono ?_; rintro _ w6 ⟨rfl, hM6⟩; rw [hb]) | (go_at_call 6; refine (follow_m HD.out HAp.out HA.out HE.out hM6 x (fa + m) (by omega) (by omega)).mono ?_; rintro _ w7 ⟨rfl, u7, hM7⟩; rw [hacc]) | (go_at_call 11; refine (set_m HD.out HAp.out hM7 t wc hT).mono ?_; rintro _ w8 ⟨rfl, hM8⟩) | (at_builtin; refine wpList_qm rfl (.tmp 80) (.tmp 83) rfl HAp.out hM8 t rfl rfl (by omega) ?_; intro qv' w9 hM9))
                  go_roundw
                  case rel => exact ⟨m + 1, u7, by omega, by go_num, by simp only [Rn.eN, Rn.eS, ← HS3.out, ← HT.out, hb, hacc]; exact hM9⟩
                  case measure => simp [intOf]; omega
              · go_wp2_with (first | (go_at_call 13; refine (target_m HD.out HAp.out HE.out HM3.out (fa + m) (by omega)).mono ?_; rintro _ w5 ⟨rfl, rfl⟩; rw [← HT.out]) | (go_at_call 10; refine (has_m HD.out HM3.out t wc hT).mono ?_; rintro _ w6 ⟨rfl, hM6⟩; rw [hb]))
                go_roundw
                case rel => exact ⟨m + 1, u', by omega, by go_num, by simp only [Rn.eN, Rn.eS, ← HS3.out, ← HT.out, hb, if_true]; exact hM6⟩
                case measure => simp [intOf]; omega
            · obtain rfl : m = fb - fa := by omega
              go_wp2
              go_roundw
              case rel =>
                have es : R.st b.ns (k + 1) = s3 := by
                  rw [HS3.out]
                  show R.nS (R.st b.ns k) k = _
                  rw [← HS0.out]
                  unfold Rn.nS
                  rw [if_pos hlt, ← HX.out, ← HFa.out, ← HFb.out]
                refine ⟨k + 1, u', ?_, by go_num, by rw [es]; exact HM3.out⟩
                rw [es, HS3.out]
                exact Nat.le_trans hlt (R.eN_len s0 x fa _)
              case measure => simp [intOf]; omega
        · have HS0 : Hid (s0 = R.st b.ns k) := hs0
          obtain rfl : k = s0.1.length := by omega
          clear hs0
          go_wp2
          go_ret
          exact ⟨_, u, _, rfl, by rw [← HS0.out]; exact Nat.le_refl _, by rw [← HS0.out]; exact HM.out⟩

end Go.Proofs.Ybulkdxai
