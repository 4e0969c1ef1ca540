/-
  WALKS of Holds (7), need (4), zzs6184bholds (5).
-/
import Derived.Test.YbulkdxawDoorWc
namespace Go.Proofs.YbulkdxawDoor
open Go.RowKit

/-- Does a lock below c cover the request? -/
def fnd (D : Lk) (hp m : Nat) : Nat → Bool
  | 0 => false
  | c + 1 => (decide (D.K c = false ∧ D.H c = hp) && cov (D.M c) m hp) || fnd D hp m c

theorem fnd_skip (D : Lk) (hp m : Nat) (j : Nat) : ∀ c, j ≤ c → (∀ i, j ≤ i → i < c → ¬ (D.K i = false ∧ D.H i / 1024 = hp / 1024)) → fnd D hp m c = fnd D hp m j
  | 0, h, _ => by obtain rfl : j = 0 := by omega
                  rfl
  | c + 1, h, hn => by
    by_cases e : j = c + 1
    · subst e; rfl
    · have hc := hn c (by omega) (by omega)
      have : decide (D.K c = false ∧ D.H c = hp) = false := decide_eq_false (fun h2 => hc ⟨h2.1, by rw [h2.2]⟩)
      simp only [fnd, this, Bool.false_and, Bool.false_or]
      exact fnd_skip D hp m j c (by omega) (fun i h1 h2 => hn i h1 (by omega))

/-- The chain from c on. -/
def cur (b : Bs) (D : Lk) (p c : Nat) : Option Addr := if p < 4 then hd D b.L false p c else none
def ptrM : Value → Nat
  | .pointer (some a) => a.block + 1
  | _ => 0

theorem lk_bit (b : Bs) (D : Lk) (i j : Nat) (hj : j < 16) : (b.lk D i)[7 + j]? = some (.int .u64 ((if j = D.H i % 1024 / 64 then 2 ^ (D.H i % 64) else 0 : Nat) : Int)) := by
  unfold Bs.lk lkC
  rw [List.getElem?_append_right (by simp)]
  simp [hj]

theorem big_false (D : Lk) (hp m : Nat) (h4 : ¬ hp / 1024 < 4) : ∀ c, fnd D hp m c = false
  | 0 => rfl
  | c + 1 => by
    have hh := D.hH c
    have : decide (D.K c = false ∧ D.H c = hp) = false := decide_eq_false (fun h2 => by omega)
    simp only [fnd, this, Bool.false_and, Bool.false_or]
    exact big_false D hp m h4 c

set_option maxRecDepth 100000 in
set_option maxHeartbeats 2000000 in
theorem holds_c (b : Bs) (D : Lk) (n : Nat) (of : Bool) (rv : Value) (hp m : Nat) (hhp : hp < 4294967296) (hm : m < 256) (la : Option Addr) (w : World) (he : Ev b D n of w) (hla : la = none ∨ la = fst b D n (hp / 1024)) (ht : TR w b rv la) :
    Calls Ybad.prog 7 #[.pointer (some ⟨b.T, 0, none⟩), .pointer (some ⟨b.Q1, 0, none⟩), .int .u32 hp, .int .u8 m] w fun e w' => e = .returned (.bool (fnd D hp m n)) ∧ Out (fun k => k = b.T) w w' ∧ TR w' b rv (fst b D n (hp / 1024)) := by
  obtain ⟨p, hpp⟩ : ∃ p, p = hp / 1024 := ⟨_, rfl⟩
  rw [← hpp] at hla ⊢
  have hpI : (hp : Int) / 1024 = (p : Int) := by omega
  have HC := ownOn_c b D n of rv p (by omega) la w he hla ht
  have HE : Hid (Ev b D n of w) := he
  have HP : Hid (p = hp / 1024) := hpp
  have HFB : Hid (∀ c, ¬ p < 4 → fnd D hp m c = false) := fun c h => big_false D hp m (by rw [← hpp]; exact h) c
  have HSK : Hid (∀ j c, j ≤ c → (∀ i, j ≤ i → i < c → ¬ (D.K i = false ∧ D.H i / 1024 = p)) → fnd D hp m c = fnd D hp m j) := fun j c h1 h2 => fnd_skip D hp m j c h1 (by rw [← hpp]; exact h2)
  clear he hla ht hpp
  go_enter Ybad.func7, Ybad.ntmps7
  go_wp2_with (first | (go_at_call 12; refine HC.mono ?_; rintro _ w1 ⟨rfl, ho1, ht1⟩; have HO1 : Hid (Out (fun k => k = b.T) w w1) := ho1; have HT1 : Hid (TR w1 b rv (fst b D n p)) := ht1; clear ho1 ht1))
  go_loopw [9] (fun l wr => ∃ c q, c ≤ n ∧ l = .pointer (cur b D p c) ∧ Hid (fnd D hp m n = fnd D hp m c) ∧ wr = w1.drewN q) (fun l _ => ptrM l)
  case atStart => exact ⟨n, 0, Nat.le_refl _, rfl, rfl, rfl⟩
  case round =>
    obtain ⟨c, q, hc, rfl, HF, rfl⟩ := hrel
    have hE1 := HE.out.later HO1.out
    by_cases h4 : p < 4
    · rcases hd_cases D b.L false p c with ⟨h1, h2⟩ | ⟨j, h1, h2, h3, h5, h6⟩
      · have hcu : cur b D p c = none := by unfold cur; rw [if_pos h4]; exact h1
        rw [hcu]
        clear hE1
        go_wp2
        go_ret
        refine ⟨?_, HO1.out.trans (out_drewN _ _) (fun _ _ f => f.elim), HT1.out⟩
        rw [HF.out, HSK.out 0 c (by omega) (fun i _ hi => h2 i hi)]
        rfl
      · have hcu : cur b D p c = some ⟨b.L j, 0, none⟩ := by unfold cur; rw [if_pos h4]; exact h5
        rw [hcu]
        have hjn : j < n := by omega
        have cb1 : Hid (∀ q, CB (w1.drewN q)) := fun q => hE1.cb
        have c2 := hE1.lk j hjn 2 _ (lk_at b D j).2.1
        have c6 := hE1.lk j hjn 6 _ (lk_at b D j).2.2.2
        have c7 := hE1.lk j hjn (7 + hp % 1024 / 64) _ (lk_bit b D j (hp % 1024 / 64) (by omega))
        rw [h2, h3] at c2
        have hMj := D.hM j
        have hfj : fnd D hp m c = ((decide (D.K j = false ∧ D.H j = hp) && cov (D.M j) m hp) || fnd D hp m j) := by
          rw [HSK.out (j + 1) c (by omega) (fun i hi1 hi2 => h6 i (by omega) hi2)]
          rfl
        have hdec : decide (hp % 1024 = D.H j % 1024) = decide (D.K j = false ∧ D.H j = hp) := by
          have := HP.out
          by_cases e : D.H j = hp
          · rw [decide_eq_true (by rw [e]), decide_eq_true ⟨h2, e⟩]
          · rw [decide_eq_false (by omega), decide_eq_false (fun x => e x.2)]
        have HFj : Hid (fnd D hp m c = ((decide (D.K j = false ∧ D.H j = hp) && cov (D.M j) m hp) || fnd D hp m j)) := hfj
        obtain ⟨mj, hmj⟩ : ∃ mj, mj = D.M j := ⟨_, rfl⟩
        rw [← hmj] at c6 hMj HFj
        clear hfj hmj h5 h6 hE1
        obtain ⟨dd, hdd⟩ : ∃ dd, dd = decide (D.K j = false ∧ D.H j = hp) := ⟨_, rfl⟩
        rw [← hdd] at hdec HFj
        clear hdd
        have hhas := has_c (b.L j) hp (D.H j) (w1.drewN q) hhp c7
        rw [hdec] at hhas
        clear hdec c7
        have hrelj : ∀ q2, Hid (fnd D hp m c = fnd D hp m j) → ∃ c' q', c' ≤ n ∧ Value.pointer (hd D b.L false p j) = .pointer (cur b D p c') ∧ Hid (fnd D hp m n = fnd D hp m c') ∧ w1.drewN q2 = w1.drewN q' := fun q2 h => ⟨j, q2, by omega, by unfold cur; rw [if_pos h4], HF.out.trans h.out, rfl⟩
        have hmeas : ptrM (.pointer (hd D b.L false p j)) < ptrM (.pointer (some ⟨b.L j, 0, none⟩)) := by
          rcases hd_cases D b.L false p j with ⟨g1, _⟩ | ⟨i, g1, _, _, g4, _⟩
          · rw [g1]; simp [ptrM]
          · rw [g4]
            have := HE.out.lm i j g1 hjn
            simp [ptrM]; omega
        replace hrelj : Hid _ := hrelj
        replace hmeas : Hid _ := hmeas
        have hnil : (Option.isNone (some (⟨b.L j, 0, none⟩ : Addr))) = false := rfl
        cases dd
        · clear cb1
          go_wp2_with (first | (go_at_call 13; refine hhas.mono ?_; rintro _ _ ⟨rfl, q1, rfl⟩))
          go_roundw
          case rel => exact hrelj.out _ (by rw [HFj.out]; exact rfl)
          case measure => exact hmeas.out
        · cases hcov : cov mj m hp
          · go_wp2_with (first | (go_at_call 13; refine hhas.mono ?_; rintro _ _ ⟨rfl, q1, rfl⟩) | (go_at_call 14; refine (covers_c mj m hMj hm hp _ (cb1.out _)).mono ?_; rintro _ _ ⟨rfl, q2, rfl⟩; rw [hcov]))
            go_roundw
            case rel => exact hrelj.out _ (by rw [HFj.out, hcov]; exact rfl)
            case measure => exact hmeas.out
          · go_wp2_with (first | (go_at_call 13; refine hhas.mono ?_; rintro _ _ ⟨rfl, q1, rfl⟩) | (go_at_call 14; refine (covers_c mj m hMj hm hp _ (cb1.out _)).mono ?_; rintro _ _ ⟨rfl, q2, rfl⟩; rw [hcov]))
            go_ret
            refine ⟨?_, HO1.out.trans (out_drewN _ _) (fun _ _ f => f.elim), HT1.out⟩
            rw [HF.out, HFj.out, hcov]
            rfl
    · have hcu : cur b D p c = none := by unfold cur; rw [if_neg h4]
      rw [hcu]
      clear hE1
      go_wp2
      go_ret
      refine ⟨?_, HO1.out.trans (out_drewN _ _) (fun _ _ f => f.elim), HT1.out⟩
      rw [HFB.out n h4]
      rfl

theorem ext_one {m hp : Int} (h : ext m hp = 1) : (hp == 0) = false := by
  unfold ext at h
  split at h
  · omega
  · split at h
    · omega
    · rename_i h2
      simp only [Bool.or_eq_true, not_or, Bool.not_eq_true] at h2
      exact h2.2

/-- What need answers. -/
def nd (D : Lk) (n hp m : Nat) : Int × Bool :=
  if fnd D hp m n then ((m : Int), false)
  else if ext m hp = 1 ∧ fnd D hp (bits .or .u8 (an m 3) 8).toNat n = true then (bits .or .u8 (an m 3) 4, true) else ((m : Int), true)

theorem or8 : ∀ n : Fin 256, 0 ≤ bits .or .u8 (an (n.val : Int) 3) 8 ∧ bits .or .u8 (an (n.val : Int) 3) 8 < 256 := by decide +kernel

set_option maxRecDepth 100000 in
set_option maxHeartbeats 2000000 in
theorem need_c (b : Bs) (D : Lk) (n : Nat) (of : Bool) (rv : Value) (hp m : Nat) (hhp : hp < 4294967296) (hm : m < 256) (w : World) (he : Ev b D n of w) (ht : TR w b rv none) :
    Calls Ybad.prog 4 #[.pointer (some ⟨b.T, 0, none⟩), .pointer (some ⟨b.Q1, 0, none⟩), .int .u32 hp, .int .u8 m] w fun e w' => e = .returned (.tuple #[.int .u8 (nd D n hp m).1, .bool (nd D n hp m).2]) ∧ Out (fun k => k = b.T) w w' ∧ TR w' b rv (fst b D n (hp / 1024)) := by
  have H1 := holds_c b D n of rv hp m hhp hm none w he (.inl rfl) ht
  have h8 := or8 ⟨m, hm⟩
  simp only at h8
  obtain ⟨r, hr⟩ : ∃ r : Nat, bits .or .u8 (an m 3) 8 = (r : Int) := ⟨(bits .or .u8 (an m 3) 8).toNat, by omega⟩
  have hr2 : r < 256 := by omega
  have H2 : ∀ w1, Out (fun k => k = b.T) w w1 → TR w1 b rv (fst b D n (hp / 1024)) → Calls Ybad.prog 7 #[.pointer (some ⟨b.T, 0, none⟩), .pointer (some ⟨b.Q1, 0, none⟩), .int .u32 hp, .int .u8 r] w1 fun e w' => e = .returned (.bool (fnd D hp r n)) ∧ Out (fun k => k = b.T) w w' ∧ TR w' b rv (fst b D n (hp / 1024)) := fun w1 ho ht1 => by
    refine (holds_c b D n of rv hp r hhp hr2 _ w1 (he.later ho) (.inr rfl) ht1).mono ?_
    rintro e w' ⟨h1, h2, h3⟩
    exact ⟨h1, ho.trans h2 (fun _ _ e => e), h3⟩
  unfold nd
  rw [hr, Int.toNat_natCast]
  replace H2 : Hid _ := H2
  have HX : Hid (ext m hp = 1 → ((hp : Int) == 0) = false) := ext_one
  clear he ht h8
  cases h1 : fnd D hp m n
  · rw [h1] at H1
    obtain ⟨x, hx⟩ : ∃ x, ext m hp = x := ⟨_, rfl⟩
    rw [hx] at HX ⊢
    replace hx : Hid (ext m hp = x) := hx
    by_cases h2 : x = 1
    · subst h2
      have h0 := HX.out rfl
      cases h3 : fnd D hp r n
      · go_enter Ybad.func4, Ybad.ntmps4
        go_wp2_with (first | (go_at_call 7; refine H1.mono ?_; clear H1; rintro _ w1 ⟨rfl, ho1, ht1⟩) | (go_at_call 8; refine (extentOf_c _ _ _).mono ?_; rintro _ _ ⟨rfl, rfl⟩; rw [hx.out]) | (go_at_call 9; refine (base_c _ _).mono ?_; rintro _ _ ⟨rfl, rfl⟩) | (go_at_call 7; refine (H2.out w1 ho1 ht1).mono ?_; rintro _ w2 ⟨rfl, ho2, ht2⟩; rw [h3]))
        go_ret2
        exact ⟨rfl, ho2, ht2⟩
      · go_enter Ybad.func4, Ybad.ntmps4
        go_wp2_with (first | (go_at_call 7; refine H1.mono ?_; clear H1; rintro _ w1 ⟨rfl, ho1, ht1⟩) | (go_at_call 8; refine (extentOf_c _ _ _).mono ?_; rintro _ _ ⟨rfl, rfl⟩; rw [hx.out]) | (go_at_call 9; refine (base_c _ _).mono ?_; rintro _ _ ⟨rfl, rfl⟩) | (go_at_call 10; refine (gap_c _ _ h0 _).mono ?_; rintro _ _ ⟨rfl, rfl⟩) | (go_at_call 7; refine (H2.out w1 ho1 ht1).mono ?_; rintro _ w2 ⟨rfl, ho2, ht2⟩; rw [h3]))
        go_ret2
        exact ⟨rfl, ho2, ht2⟩
    · have h2b : ((x : Int) == 1) = false := by rw [beq_eq_false_iff_ne]; omega
      rw [if_neg (by simp), if_neg (fun h => h2 h.1)]
      go_enter Ybad.func4, Ybad.ntmps4
      go_wp2_with (first | (go_at_call 7; refine H1.mono ?_; clear H1; rintro _ w1 ⟨rfl, ho1, ht1⟩) | (go_at_call 8; refine (extentOf_c _ _ _).mono ?_; rintro _ _ ⟨rfl, rfl⟩; rw [hx.out]))
      go_ret2
      exact ⟨rfl, ho1, ht1⟩
  · rw [h1] at H1
    go_enter Ybad.func4, Ybad.ntmps4
    go_wp2_with (first | (go_at_call 7; refine H1.mono ?_; clear H1; rintro _ w1 ⟨rfl, ho1, ht1⟩))
    go_ret2
    exact ⟨rfl, ho1, ht1⟩

end Go.Proofs.YbulkdxawDoor
