/-
  WALK of zzs6184bholds (5).
-/
import Derived.Test.YbulkdxawDoorWd
namespace Go.Proofs.YbulkdxawDoor
open Go.RowKit

/-- The argument: n locks as given. -/
def AR (w : World) (a : Option Addr) (n : Nat) (M HH : Nat → Nat) (K : Nat → Bool) : Prop := 0 < n → ∃ b off, a = some ⟨b, off, none⟩ ∧ ∀ j, j < n → w.cell? ⟨b, off + j * 3, none⟩ = some (.int .u8 (M j)) ∧ w.cell? ⟨b, off + j * 3 + 1, none⟩ = some (.int .u32 (HH j)) ∧ w.cell? ⟨b, off + j * 3 + 2, none⟩ = some (.bool (K j))

theorem fnd_true (D : Lk) (hp m : Nat) {i : Nat} (h : (decide (D.K i = false ∧ D.H i = hp) && cov (D.M i) m hp) = true) : ∀ n, i < n → fnd D hp m n = true
  | 0, h0 => absurd h0 (by omega)
  | n + 1, h0 => by
    by_cases e : i = n
    · subst e; simp only [fnd, h, Bool.true_or]
    · simp only [fnd]; rw [fnd_true D hp m h n (by omega), Bool.or_true]

set_option maxRecDepth 100000 in
set_option maxHeartbeats 2000000 in
theorem zzholds_c (D : Lk) (HH : Nat → Nat) (hHH : ∀ i, D.H i = HH i % 4096) (a : Option Addr) (n cap : Nat) (hp m : Nat) (hn : n < 2 ^ 40) (h32 : ∀ i, i < n → HH i < 4294967296) (w : World) (ha : AR w a n D.M HH D.K) :
    Calls Ybad.prog 5 #[.slice a n cap, .int .u32 hp, .int .u8 m] w fun e w' => e = .returned (.bool (fnd D hp m n)) ∧ Out (fun _ => False) w w' := by
  have HAr : Hid (AR w a n D.M HH D.K) := ha
  have HHH : Hid (∀ i, D.H i = HH i % 4096) := hHH
  have H32 : Hid (∀ i, i < n → HH i < 4294967296) := h32
  clear ha hHH h32
  go_enter Ybad.func5, Ybad.ntmps5
  go_wp2
  go_loopw [7] (fun i wr => ∃ k : Nat, k ≤ n ∧ i = .int .i64 k ∧ Hid (fnd D hp m k = false) ∧ Hid (Out (fun _ => False) w wr)) (fun i _ => n - (intOf i).toNat)
  case atStart => exact ⟨0, Nat.zero_le _, rfl, rfl, Out.refl _ _⟩
  case round =>
    obtain ⟨k, hk, rfl, HF, HO⟩ := hrel
    by_cases hlt : k < n
    · have hltI : (k : Int) < (n : Int) := by omega
      obtain ⟨bb, off, rfl, hc⟩ := HAr.out (by omega)
      obtain ⟨c0, c1, c2⟩ := hc k hlt
      replace c0 := HO.out.cell c0 (fun f => f)
      replace c1 := HO.out.cell c1 (fun f => f)
      replace c2 := HO.out.cell c2 (fun f => f)
      have hh := H32.out k hlt
      have hH := HHH.out k
      clear hc
      have HOa : Hid (∀ X, Out (fun _ => False) w (wr.alloc X)) := fun X => HO.out.trans (out_alloc wr X) (fun _ _ f => f)
      have HT : Hid ((decide (D.K k = false ∧ D.H k = hp) && cov (D.M k) m hp) = true → fnd D hp m n = true) := fun h => fnd_true D hp m h n hlt
      have HN : Hid ((decide (D.K k = false ∧ D.H k = hp) && cov (D.M k) m hp) = false → fnd D hp m (k + 1) = false) := fun h => by
        simp only [fnd, h, HF.out, Bool.or_self]
      obtain ⟨x, hx⟩ : ∃ x, x = HH k := ⟨_, rfl⟩
      obtain ⟨mk, hmk⟩ : ∃ mk, mk = D.M k := ⟨_, rfl⟩
      rw [← hx] at c1 hh hH
      rw [← hmk] at c0 HT HN
      rw [hH] at HT HN
      clear hx hmk hH
      have hmod : (x : Int).tmod 4096 = ((x % 4096 : Nat) : Int) := by rw [Int.tmod_eq_emod_of_nonneg (by omega)]; omega
      cases hK : D.K k
      · rw [hK] at c2 HT HN
        by_cases he : x % 4096 = hp
        · have heI : ((x : Int) % 4096 == (hp : Int)) = true := by rw [beq_iff_eq]; omega
          rw [decide_eq_true ⟨rfl, he⟩] at HT HN
          cases hcov : cov mk m hp
          · rw [hcov] at HN
            go_wp2_with (first | (go_at_call 11; refine (zzcovers_c _ _ _ _).mono ?_; rintro _ _ ⟨rfl, rfl⟩; rw [hcov]))
            go_roundw
            case rel => exact ⟨k + 1, by omega, by go_num, HN.out rfl, HOa.out _⟩
            case measure => simp [intOf]; omega
          · rw [hcov] at HT
            go_wp2_with (first | (go_at_call 11; refine (zzcovers_c _ _ _ _).mono ?_; rintro _ _ ⟨rfl, rfl⟩; rw [hcov]))
            go_ret
            exact ⟨by rw [HT.out rfl]; rfl, HOa.out _⟩
        · have heI : ((x : Int) % 4096 == (hp : Int)) = false := by rw [beq_eq_false_iff_ne]; omega
          rw [decide_eq_false (fun h => he h.2)] at HN
          go_wp2
          go_roundw
          case rel => exact ⟨k + 1, by omega, by go_num, HN.out rfl, HOa.out _⟩
          case measure => simp [intOf]; omega
      · rw [hK] at c2 HN
        rw [decide_eq_false (fun h => by cases h.1)] at HN
        go_wp2
        go_roundw
        case rel => exact ⟨k + 1, by omega, by go_num, HN.out rfl, HOa.out _⟩
        case measure => simp [intOf]; omega
    · obtain rfl : k = n := by omega
      go_wp2
      go_ret
      exact ⟨by rw [HF.out]; rfl, HO.out⟩

end Go.Proofs.YbulkdxawDoor
