/-
  WALK of zzs6181aname (6): the name, '#', the index in decimal.
-/
import Derived.Test.YbulkdwzgAb
import Derived.Deep.AppendLies
namespace Go.Proofs.Ybulkdwzg
open Go.RowKit

/-- Decimal digits, the least significant first. -/
def lsd : Nat → Nat → List UInt8
  | 0, _ => []
  | f + 1, k => if k = 0 then [] else UInt8.ofNat (48 + k % 10) :: lsd f (k / 10)
def digs (i : Nat) : List UInt8 := if i = 0 then [48] else (lsd i i).reverse
def nameB (s : ByteArray) (i : Nat) : ByteArray := ⟨(s.data.toList ++ [35] ++ digs i).toArray⟩

theorem lsd_zero (f : Nat) : lsd f 0 = [] := by cases f <;> simp [lsd]
theorem lsd_step (f k : Nat) (hk : 0 < k) (hf : k ≤ f) : lsd f k = UInt8.ofNat (48 + k % 10) :: lsd (f - 1) (k / 10) := by
  match f, hf with
  | 0, h => omega
  | f + 1, _ => simp [lsd, show k ≠ 0 by omega]
theorem lsd_len (f : Nat) : ∀ k, k < 10000 → (lsd f k).length ≤ 4 := by
  have h1 : ∀ f k, k < 10 → (lsd f k).length ≤ 1 := by
    intro f k hk
    by_cases h0 : k = 0
    · subst h0; simp [lsd_zero]
    · match f with
      | 0 => simp [lsd]
      | f + 1 => simp [lsd, h0, show k / 10 = 0 by omega, lsd_zero]
  have h2 : ∀ f k, k < 100 → (lsd f k).length ≤ 2 := by
    intro f k hk
    match f with
    | 0 => simp [lsd]
    | f + 1 =>
      have := h1 f (k / 10) (by omega)
      simp only [lsd]; split
      · simp
      · simp; omega
  have h3 : ∀ f k, k < 1000 → (lsd f k).length ≤ 3 := by
    intro f k hk
    match f with
    | 0 => simp [lsd]
    | f + 1 =>
      have := h2 f (k / 10) (by omega)
      simp only [lsd]; split
      · simp
      · simp; omega
  intro k hk
  match f with
  | 0 => simp [lsd]
  | f + 1 =>
    have := h3 f (k / 10) (by omega)
    simp only [lsd]; split
    · simp
    · simp; omega

theorem digit_val (k : Nat) : ((UInt8.ofNat (48 + k % 10)).toNat : Int) = 48 + (k : Int) % 10 := by
  have : (48 + k % 10) % 256 = 48 + k % 10 := by omega
  simp [UInt8.toNat_ofNat', this]

theorem OB_snoc {w : World} {g c n : Nat} {L : List UInt8} (b : UInt8) (x : Int) (hx : (b.toNat : Int) = x) (h : OB w g c n (bv L ++ [.int .u8 x])) : OB w g c n (bv (L ++ [b])) := by
  rw [bv_snoc, hx]; exact h
theorem ret_s {a b : ByteArray} (h : a = b) : Ending.returned (.string a) = .returned (.string b) := by rw [h]
theorem nameB_eq (s : ByteArray) (i : Nat) : nameB s i = ⟨((s.data.toList ++ [35]) ++ digs i).toArray⟩ := rfl

theorem below_step {B g : Nat} {w w1 w2 : World} {o : Obj} (b1 : Below B w w1) (hB : B ≤ w1.heap.size) (hg : (w1.alloc o).grownBy w2 (some g)) (hBg : B ≤ g) : Below B w w2 :=
  (b1.alloc hB _).grown hg (by simp; omega) (fun k hk => by cases hk; exact hBg)
theorem at_le {B g g' : Nat} {w1 : World} {o : Obj} (h : g' = g ∨ g' = (w1.alloc o).heap.size) (hg : B ≤ g) (hb : B ≤ w1.heap.size) : B ≤ g' := by
  rcases h with h | h
  · rw [h]; exact hg
  · rw [h]; simp; omega

set_option maxHeartbeats 400000 in
theorem name_zero (s : ByteArray) (w : World) (hs : s.size ≤ 140737488355000) :
    Calls Yba.prog 6 #[.string s, .int .i64 0] w fun e w' => e = .returned (.string (nameB s 0)) ∧ Below w.heap.size w w' := by
  go_enter Yba.func6, Yba.ntmps6
  go_wp2_with (first | (refine wpList_toBytes rfl _ rfl s rfl (by unfold maxLen; omega) ?_; intro cap1 w1 hB1 hg1) | (at_builtin; refine wpList_append_B rfl (.tmp 11) (.tmp 12) rfl w.heap.size cap1 s.size (bv s.data.toList) rfl (hB1.alloc _) ⟨w1.heap.size, 0, none⟩ (.int .u8 35) rfl (by simp) rfl (by omega) ?_; intro g2 cap2 w2 hB2 hg2 hat2; replace hB2 := OB_snoc 35 35 rfl hB2) | (at_builtin; refine wpList_append_B rfl (.tmp 16) (.tmp 17) rfl g2 cap2 (s.size + 1) (bv (s.data.toList ++ [35])) rfl (hB2.alloc _) ⟨w2.heap.size, 0, none⟩ (.int .u8 48) rfl (by simp) rfl (by omega) ?_; intro g3 cap3 w3 hB3 hg3 hat3; replace hB3 := OB_snoc 48 48 rfl hB3) | (refine wpList_toString rfl _ rfl g3 cap3 (s.size + 1 + 1) (s.data.toList ++ [35] ++ [48]) rfl hB3 ?_))
  go_ret
  have b1 : Below w.heap.size w w1 := (Below.refl _ w).grown hg1 (Nat.le_refl _) (fun k hk => by cases hk)
  have b2 : Below w.heap.size w w2 := below_step b1 b1.size hg2 (Nat.le_refl _)
  have b3 : Below w.heap.size w w3 := below_step b2 b2.size hg3 (at_le hat2 (Nat.le_refl _) b1.size)
  exact ⟨ret_s (by simp [nameB, digs]), b3⟩

theorem rev_step (D : List UInt8) (m : Nat) (h : m < D.length) : (D.drop m).reverse = (D.drop (m + 1)).reverse ++ [D[m]] := by
  rw [List.drop_eq_getElem_cons h]; simp

set_option maxRecDepth 100000 in
set_option maxHeartbeats 1000000 in
theorem name_pos (s : ByteArray) (i : Nat) (w : World) (hs : s.size ≤ 140737488355000) (hi0 : 0 < i) (hi : i ≤ 4096) :
    Calls Yba.prog 6 #[.string s, .int .i64 i] w fun e w' => e = .returned (.string (nameB s i)) ∧ Below w.heap.size w w' := by
  obtain ⟨i0, hi5, hz0, hz1, hz2⟩ := info_parts info5
  have hI : (0 : Int) < (i : Int) := by omega
  have hd0 : decide (i = 0) = false := decide_eq_false (by omega)
  go_enter Yba.func6, Yba.ntmps6
  go_wp2_with (first | (refine wpList_toBytes rfl _ rfl s rfl (by unfold maxLen; omega) ?_; intro cap1 w1 hB1 hg1) | (at_builtin; refine wpList_append_B rfl (.tmp 11) (.tmp 12) rfl w.heap.size cap1 s.size (bv s.data.toList) rfl (hB1.alloc _) ⟨w1.heap.size, 0, none⟩ (.int .u8 35) rfl (by simp) rfl (by omega) ?_; intro g2 cap2 w2 hB2 hg2 hat2; replace hB2 := OB_snoc 35 35 rfl hB2))
  have b1 : Below w.heap.size w w1 := (Below.refl _ w).grown hg1 (Nat.le_refl _) (fun k hk => by cases hk)
  have b2 : Below w.heap.size w w2 := below_step b1 b1.size hg2 (Nat.le_refl _)
  have l2 : w.heap.size ≤ g2 := at_le hat2 (Nat.le_refl _) b1.size
  have lt2 : g2 < w2.heap.size := hB2.lt
  clear hg1 hg2 hat2 hB1 b1
  go_loopw [6, 7] (fun d k wr => ∃ (L : List UInt8) (f kk : Nat), k = .int .i64 kk ∧ kk ≤ f ∧ kk ≤ i ∧ Hid (lsd i i = L ++ lsd f kk) ∧ wr.ownsRow w2.heap.size 5 1 d L.length (bv L) ∧ OB wr g2 cap2 (s.size + 1) (bv (s.data.toList ++ [35])) ∧ Below w.heap.size w wr ∧ w2.heap.size ≤ wr.heap.size)
    (fun _ k _ => (intOf k).toNat)
  case atStart => exact ⟨[], i, i, rfl, Nat.le_refl _, Nat.le_refl _, rfl, World.ownsRow_nil _ _ _ _, hB2, b2, Nat.le_refl _⟩
  case round =>
    obtain ⟨L, f, kk, rfl, hkf, hki, HL, hown, hBr, hbr, hsr⟩ := hrel
    have hlen : L.length ≤ 4 := by
      have := lsd_len i i (by omega)
      rw [HL.out] at this
      simp at this; omega
    by_cases hk : 0 < kk
    · have hkI : (0 : Int) < (kk : Int) := by omega
      have hn : lsd i i = (L ++ [UInt8.ofNat (48 + kk % 10)]) ++ lsd (f - 1) (kk / 10) := by
        have := HL.out
        rw [lsd_step f kk hk hkf] at this
        rw [this]; simp
      have HN : Hid (lsd i i = (L ++ [UInt8.ofNat (48 + kk % 10)]) ++ lsd (f - 1) (kk / 10)) := hn
      clear hn
      go_wp2_with (first | (at_builtin; refine wpList_append_own _ rfl (.tmp 25) (.tmp 30) 52 rfl w2.heap.size 5 i0 (.int .u8 0) 1 1 Yba.underlying52 hi5 hz0 hz1 hz2 rfl (by decide) _ _ _ rfl (hown.alloc _) ⟨wr.heap.size, 0, none⟩ 1 1 [.int .u8 (48 + (kk : Int) % 10)] rfl rfl (cell_one_new _ _ _) (by intro u hu; simp at hu; subst hu; rfl) (by unfold maxLen; omega) (by omega) (by simp; omega) ?_; intro d' w3 hown3 hg3 _))
      have R : ∃ (L : List UInt8) (f kk' : Nat), Value.int .i64 ((kk : Int) / 10) = .int .i64 kk' ∧ kk' ≤ f ∧ kk' ≤ i ∧ Hid (lsd i i = L ++ lsd f kk') ∧ w3.ownsRow w2.heap.size 5 1 d' L.length (bv L) ∧ OB w3 g2 cap2 (s.size + 1) (bv (s.data.toList ++ [35])) ∧ Below w.heap.size w w3 ∧ w2.heap.size ≤ w3.heap.size := by
        refine ⟨L ++ [UInt8.ofNat (48 + kk % 10)], f - 1, kk / 10, by go_num, by omega, by omega, HN, ?_, ?_, ?_, ?_⟩
        · rw [bv_snoc, digit_val]; simpa using hown3
        · refine (hBr.alloc _).grown hg3 ?_
          intro e
          have := hown.lt g2 e.symm
          omega
        · refine (hbr.alloc hbr.size _).grown hg3 (by have := hbr.size; simp; omega) (fun k hk => ?_)
          have := hown.lt k hk
          omega
        · have := hg3.size; simp at this; omega
      clear hown3 hg3 hown hBr hbr HL HN
      go_roundw
      case rel => first | exact R | ((repeat apply Exists.intro); exact ⟨R, rfl⟩)
      case measure => simp [intOf]; omega
    · have hk0 : kk = 0 := by omega
      subst hk0
      have hD : lsd i i = L := by have := HL.out; rw [lsd_zero] at this; simpa using this
      have hLp : 0 < L.length := by rw [← hD, lsd_step i i hi0 (Nat.le_refl _)]; simp
      obtain ⟨gd, cd, rfl, hgd, hltd⟩ := hown.form hLp
      have HD : Hid (lsd i i = L) := hD
      clear hD HL
      go_wp2
      go_loopw [5, 8] (fun b k wq => ∃ (m g cap : Nat), m ≤ L.length ∧ k = .int .i64 ((m : Int) - 1) ∧ b = .slice (some ⟨g, 0, none⟩) (s.size + 1 + (L.length - m)) cap ∧ OB wq g cap (s.size + 1 + (L.length - m)) (bv (s.data.toList ++ [35] ++ (L.drop m).reverse)) ∧ wq.ownsRow w2.heap.size 5 1 (.slice (some ⟨gd, 0, none⟩) L.length cd) L.length (bv L) ∧ g ≠ gd ∧ gd < wq.heap.size ∧ w.heap.size ≤ g ∧ Below w.heap.size w wq)
        (fun _ k _ => (intOf k + 1).toNat)
      case atStart => exact ⟨L.length, g2, cap2, Nat.le_refl _, rfl, by simp, by simpa using hBr, hown, by omega, hltd, l2, hbr⟩
      case round =>
        obtain ⟨m, g, cap, hm, rfl, rfl, hBq, hownq, hne, hltq, hle, hbq⟩ := hrel
        by_cases hm0 : 0 < m
        · obtain ⟨m, rfl⟩ : ∃ m', m = m' + 1 := ⟨m - 1, by omega⟩
          have hmL : m < L.length := by omega
          have hcell : wr.cell? ⟨gd, m, none⟩ = some (.int .u8 (L[m].toNat : Int)) := by
            rw [hownq.cellAt m (by omega), bv_get L m hmL]
          obtain ⟨c, hc⟩ : ∃ c : Int, c = (L[m].toNat : Int) := ⟨_, rfl⟩
          rw [← hc] at hcell
          have HC : Hid (c = (L[m].toNat : Int)) := hc
          clear hc
          have hmI : (m : Int) < (L.length : Int) := by omega
          have hLI : (L.length : Int) ≤ 4 := by omega
          go_wp2_with (first | (at_builtin; refine wpList_append_B rfl (.tmp 39) (.tmp 44) rfl g cap _ _ rfl (hBq.alloc _) ⟨wr.heap.size, 0, none⟩ (.int .u8 c) rfl (by simp) rfl (by omega) ?_; intro g' cap' w3 hB3 hg3 hat3))
          have R : ∃ (m' gg cc : Nat), m' ≤ L.length ∧ Value.int .i64 ((m : Int) - 1) = .int .i64 ((m' : Int) - 1) ∧ Value.slice (some ⟨g', 0, none⟩) (s.size + 1 + (L.length - (m + 1)) + 1) cap' = .slice (some ⟨gg, 0, none⟩) (s.size + 1 + (L.length - m')) cc ∧ OB w3 gg cc (s.size + 1 + (L.length - m')) (bv (s.data.toList ++ [35] ++ (L.drop m').reverse)) ∧ w3.ownsRow w2.heap.size 5 1 (.slice (some ⟨gd, 0, none⟩) L.length cd) L.length (bv L) ∧ gg ≠ gd ∧ gd < w3.heap.size ∧ w.heap.size ≤ gg ∧ Below w.heap.size w w3 := by
            have e : s.size + 1 + (L.length - (m + 1)) + 1 = s.size + 1 + (L.length - m) := by omega
            refine ⟨m, g', cap', by omega, rfl, by rw [e], ?_, ?_, ?_, ?_, ?_, ?_⟩
            · rw [← e, rev_step L m hmL, ← List.append_assoc]
              exact OB_snoc _ c HC.out.symm hB3
            · exact (hownq.alloc _).kept hg3 (.inr (by simp [Value.ownBlock]; omega))
            · rcases hat3 with h | h
              · omega
              · rw [h]; simp; omega
            · have := hg3.size; simp at this; omega
            · exact at_le hat3 hle hbq.size
            · exact below_step hbq hbq.size hg3 hle
          clear hB3 hg3 hat3 hBq hownq hbq
          go_roundw
          case rel => first | exact R | ((repeat apply Exists.intro); exact ⟨R, rfl⟩)
          case measure => simp [intOf]
        · have e0 : m = 0 := by omega
          subst e0
          go_wp2_with (first | (refine wpList_toString rfl _ rfl g cap _ (s.data.toList ++ [35] ++ (L.drop 0).reverse) rfl hBq ?_))
          go_ret
          exact ⟨ret_s (by rw [nameB_eq, digs, if_neg (by omega), HD.out]; simp), hbq⟩

theorem name_any (s : ByteArray) (i : Int) (w : World) (hs : s.size ≤ 140737488355000) (h0 : 0 ≤ i) (hi : i ≤ 4096) :
    Calls Yba.prog 6 #[.string s, .int .i64 i] w fun e w' => e = .returned (.string (nameB s i.toNat)) ∧ Below w.heap.size w w' := by
  obtain ⟨n, rfl⟩ := Int.eq_ofNat_of_zero_le h0
  rw [Int.toNat_natCast]
  by_cases h : n = 0
  · subst h; exact name_zero s w hs
  · exact name_pos s n w hs (by omega) (by omega)

/-! ### The names part -/
theorem lsd_dig (f : Nat) : ∀ k, ∀ c ∈ lsd f k, 48 ≤ c.toNat ∧ c.toNat ≤ 57 := by
  induction f with
  | zero => intro k c hc; simp [lsd] at hc
  | succ f ih =>
    intro k c hc
    simp only [lsd] at hc
    split at hc
    · simp at hc
    · simp only [List.mem_cons] at hc
      rcases hc with rfl | hc
      · have : (48 + k % 10) % 256 = 48 + k % 10 := by omega
        simp [UInt8.toNat_ofNat', this]; omega
      · exact ih _ c hc
theorem digs_dig (i : Nat) : ∀ c ∈ digs i, c ≠ 35 := by
  intro c hc h
  subst h
  unfold digs at hc
  split at hc
  · simp at hc
  · have := lsd_dig i i 35 (by simpa using hc)
    simp at this
theorem lsd_inj : ∀ f g k l, k ≤ f → l ≤ g → lsd f k = lsd g l → k = l := by
  intro f
  induction f with
  | zero =>
    intro g k l hk hl h
    obtain rfl : k = 0 := by omega
    rw [lsd_zero] at h
    by_cases h0 : l = 0
    · exact h0.symm
    · rw [lsd_step g l (by omega) hl] at h; simp at h
  | succ f ih =>
    intro g k l hk hl h
    by_cases hk0 : k = 0
    · subst hk0
      rw [lsd_zero] at h
      by_cases h0 : l = 0
      · exact h0.symm
      · rw [lsd_step g l (by omega) hl] at h; simp at h
    · by_cases h0 : l = 0
      · subst h0; rw [lsd_zero, lsd_step _ k (by omega) hk] at h; simp at h
      · rw [lsd_step _ k (by omega) hk, lsd_step g l (by omega) hl] at h
        simp only [List.cons.injEq] at h
        obtain ⟨h1, h2⟩ := h
        have e1 : ((UInt8.ofNat (48 + k % 10)).toNat : Int) = ((UInt8.ofNat (48 + l % 10)).toNat : Int) := by rw [h1]
        rw [digit_val, digit_val] at e1
        have e2 := ih (g - 1) (k / 10) (l / 10) (by omega) (by omega) h2
        omega
theorem digs_inj (i j : Nat) (h : digs i = digs j) : i = j := by
  unfold digs at h
  have hz : ∀ k, 0 < k → lsd k k ≠ [48] := by
    intro k hk e
    rw [lsd_step k k hk (Nat.le_refl _)] at e
    simp only [List.cons.injEq] at e
    obtain ⟨e1, e2⟩ := e
    have e1' : ((UInt8.ofNat (48 + k % 10)).toNat : Int) = 48 := by rw [e1]; rfl
    rw [digit_val] at e1'
    by_cases h9 : k / 10 = 0
    · omega
    · rw [lsd_step (k - 1) (k / 10) (by omega) (by omega)] at e2; simp at e2
  split at h <;> split at h
  · omega
  · exact absurd (by have := congrArg List.reverse h; simpa using this.symm) (hz j (by omega))
  · exact absurd (by have := congrArg List.reverse h; simpa using this) (hz i (by omega))
  · have h' : lsd i i = lsd j j := by have := congrArg List.reverse h; simpa using this
    exact lsd_inj i j i j (Nat.le_refl _) (Nat.le_refl _) h'

theorem split_last (a b c d : List UInt8) (hb : ∀ x ∈ b, x ≠ 35) (hd : ∀ x ∈ d, x ≠ 35) (h : a ++ [35] ++ b = c ++ [35] ++ d) : b = d := by
  have h' := congrArg List.reverse h
  simp only [List.reverse_append, List.reverse_cons, List.reverse_nil, List.nil_append, List.singleton_append] at h'
  have key : ∀ (p q r t : List UInt8), (∀ x ∈ p, x ≠ 35) → (∀ x ∈ q, x ≠ 35) → p ++ 35 :: r = q ++ 35 :: t → p = q := by
    intro p
    induction p with
    | nil =>
      intro q r t _ hq e
      cases q with
      | nil => rfl
      | cons x q => simp at e; exact absurd e.1.symm (hq x (by simp))
    | cons y p ih =>
      intro q r t hp hq e
      cases q with
      | nil => simp at e; exact absurd e.1 (hp y (by simp))
      | cons x q =>
        simp only [List.cons_append, List.cons.injEq] at e
        obtain ⟨rfl, e⟩ := e
        rw [ih q r t (fun z hz => hp z (by simp [hz])) (fun z hz => hq z (by simp [hz])) e]
  have := key b.reverse d.reverse a.reverse c.reverse (fun x hx => hb x (by simpa using hx)) (fun x hx => hd x (by simpa using hx)) (by simpa using h')
  simpa using this

/-- Two names are one only at one index. -/
theorem nameB_inj (s t : ByteArray) (i j : Nat) (h : nameB s i = nameB t j) : i = j := by
  have e : s.data.toList ++ [35] ++ digs i = t.data.toList ++ [35] ++ digs j := by
    have := congrArg (fun b : ByteArray => b.data.toList) h
    simpa [nameB] using this
  exact digs_inj i j (split_last _ _ _ _ (digs_dig i) (digs_dig j) e)

end Go.Proofs.Ybulkdwzg
