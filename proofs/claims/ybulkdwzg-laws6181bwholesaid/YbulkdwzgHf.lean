/-
  LawS6181BWhole: WALK of heaviestRun (10).
-/
import Derived.Test.YbulkdwzgHb
import Derived.Test.YbulkdwzgHe
namespace Go.Proofs.Ybulkdwzg.lawB
open Go.RowKit

/-- The run that is found, of the sorted pairs T. -/
def Sx (T : Nat → Pr) (k : Nat) : Nat := (T k).1.toNat
def Wx (nw : Nat) (Z : Nat → Nat) (T : Nat → Pr) (k : Nat) : Nat := WT nw Z (T k)
def CH (nw : Nat) (Z : Nat → Nat) (T : Nat → Pr) (n : Nat) : List Nat := chain (Pv (Sx T) (Wx nw Z T)) n (tp (Sx T) (Wx nw Z T) n).2
/-- T is P, sorted. -/
def Srt (P T : Nat → Pr) (n : Nat) : Prop := ((List.range n).map T).Perm ((List.range n).map P) ∧ ∀ i j, i < j → j < n → lt (T j) (T i) = false

set_option maxRecDepth 1000000 in
set_option maxHeartbeats 8000000 in
theorem heav_c (w : World) (PB CB WSP n pc : Nat) (P : Nat → Pr) (wa : Option Addr) (nw wwc : Nat) (Z : Nat → Nat) (hn : n ≤ 4096) (hnw : nw ≤ 1048576) (hZ : ∀ j, j < nw → Z j < 256)
    (hP : ∀ k, k < n → 0 ≤ (P k).1 ∧ (P k).1 < 512) (o3 : WSP < w.heap.size) (o4 : ∀ ad, wa = some ad → ad.block < w.heap.size) (o10 : CB ≠ PB)
    (hp : R2 w PB 57 (fun k => .int .i64 (P k).1) (fun k => .int .i64 (P k).2) n) (hc : Wc CB WSP wa nw wwc Z 0 w) :
    Calls Yba.prog 10 #[.slice (some ⟨PB, 0, none⟩) n pc, .func (.func 11) #[] #[.pointer (some ⟨CB, 0, none⟩), .pointer (some ⟨WSP, 0, none⟩)]] w fun x w' => ∃ T va vc, Srt P T n ∧ x = .returned (.slice va (CH nw Z T n).length vc) ∧ w'.ownsRow w.heap.size 57 2 (.slice va (CH nw Z T n).length vc) (CH nw Z T n).length (prs ((CH nw Z T n).reverse.map T)) ∧ ((CH nw Z T n).length = 0 → va = none ∧ vc = 0) ∧ Wc CB WSP wa nw wwc Z n w' ∧ Out (fun b => b = CB) w w' := by
  have HP0 : Hid (R2 w PB 57 (fun k => .int .i64 (P k).1) (fun k => .int .i64 (P k).2) n) := hp
  have HC : Hid (Wc CB WSP wa nw wwc Z 0 w) := hc
  have HPn : Hid (∀ k, k < n → 0 ≤ (P k).1 ∧ (P k).1 < 512) := hP
  have HZ : Hid (∀ j, j < nw → Z j < 256) := hZ
  have HO4 : Hid (∀ ad, wa = some ad → ad.block < w.heap.size) := o4
  have hpb := hp.lt
  have hcb := hc.c.lt
  clear hp hc hP hZ o4
  have hmk := mk26 n (by omega)
  go_enter Yba.func10, Yba.ntmps10
  obtain ⟨T, hT⟩ : ∃ T, T = tl 5 (Yba.f10.body.getD .skip) := ⟨_, rfl⟩
  refine split5 T hT.symm ?_
  replace hT : Hid (T = tl 5 (Yba.f10.body.getD .skip)) := hT
  go_wp2
  obtain ⟨w3, hw3⟩ : ∃ w3, w3 = ((w.alloc (.cells #[.slice (some ⟨PB, 0, none⟩) n pc] 53)).alloc (.cells (rowL (fun _ => .int .i64 0) n).toArray 3)).alloc (.cells #[.slice (some ⟨w.heap.size + 1, 0, none⟩) n n] 26) := ⟨_, rfl⟩
  rw [← hw3]
  have hz1 : (w.alloc (.cells #[.slice (some ⟨PB, 0, none⟩) n pc] 53)).heap.size = w.heap.size + 1 := by simp
  have hz2 : ((w.alloc (.cells #[.slice (some ⟨PB, 0, none⟩) n pc] 53)).alloc (.cells (rowL (fun _ => .int .i64 0) n).toArray 3)).heap.size = w.heap.size + 1 + 1 := by simp
  have HPPw : Hid (RW w3 w.heap.size 53 (fun _ => .slice (some ⟨PB, 0, none⟩) n pc) 1) := by rw [hw3]; exact ((rw_one w _ _).alloc _).alloc _
  have HOPw : Hid (RW w3 (w.heap.size + 1 + 1) 26 (fun _ => .slice (some ⟨w.heap.size + 1, 0, none⟩) n n) 1) := by
    have := rw_one ((w.alloc (.cells #[.slice (some ⟨PB, 0, none⟩) n pc] 53)).alloc (.cells (rowL (fun _ => .int .i64 0) n).toArray 3)) (.slice (some ⟨w.heap.size + 1, 0, none⟩) n n) 26
    rw [hz2, ← hw3] at this
    exact this
  have HOBw : Hid (RW w3 (w.heap.size + 1) 3 (fun _ => .int .i64 0) n) := by
    have := rw_new (w.alloc (.cells #[.slice (some ⟨PB, 0, none⟩) n pc] 53)) (fun _ => .int .i64 0) n 3
    rw [hz1] at this
    rw [hw3]
    exact this.alloc _
  have hO3 : Out (fun _ => False) w w3 := by
    rw [hw3]
    exact (((out_alloc _ w _).trans (out_alloc _ _ _) (fun _ _ h => h)).trans (out_alloc _ _ _) (fun _ _ h => h))
  have HPw : Hid (R2 w3 PB 57 (fun k => .int .i64 (P k).1) (fun k => .int .i64 (P k).2) n) := (hO3.block PB hpb id).trans HP0.out
  have HC3 : Hid (Wc CB WSP wa nw wwc Z 0 w3) := HC.out.out hO3 id id (fun _ _ => id)
  have HO3 : Hid (Out (fun _ => False) w w3) := hO3
  clear hw3 hz1 hz2 hO3 HP0 HC
  go_loopw [19] (fun kv wr => ∃ (k : Nat), k ≤ n ∧ kv = .int .i64 k ∧ Hid (RW wr (w.heap.size + 1) 3 (fun j => .int .i64 (if j < k then j else 0 : Nat)) n) ∧ Hid (Out (fun b => b = w.heap.size + 1) w3 wr)) (fun kv _ => n - (intOf kv).toNat)
  case atStart => exact ⟨0, Nat.zero_le _, rfl, HOBw.out.congr (fun j _ => by rw [if_neg (by omega)]; rfl), Out.refl _ _⟩
  case round =>
    clear HOBw
    obtain ⟨k, hk, rfl, HR, HO⟩ := hrel
    have c2 := HO.out.cell (HOPw.out.cell (j := 0) (by omega)) (by show ¬ w.heap.size + 1 + 1 = w.heap.size + 1; omega)
    by_cases hlt : k < n
    · have hltI : (k : Int) < (n : Int) := by omega
      have s1 := HR.out.cell hlt
      have s2 := HR.out.frozen k
      go_wp2
      go_roundw
      case rel =>
        refine ⟨k + 1, by omega, by go_num, HR.out.set hlt _ _ (fun j hj => ?_), HO.out.trans (out_set _ ⟨w.heap.size + 1, k, none⟩ _) (fun _ _ h => h)⟩
        by_cases e : j = k
        · subst e; rw [if_pos rfl, if_pos (by omega)]
        · rw [if_neg e]
          by_cases e2 : j < k
          · rw [if_pos e2, if_pos (by omega)]
          · rw [if_neg e2, if_neg (by omega)]
      case measure => simp [intOf]; omega
    · obtain rfl : k = n := by omega
      rename World => wr
      have hPr : R2 wr PB 57 (fun k => .int .i64 (P k).1) (fun k => .int .i64 (P k).2) k := (HO.out.block PB HPw.out.lt (by omega)).trans HPw.out
      have hPPr : RW wr w.heap.size 53 (fun _ => .slice (some ⟨PB, 0, none⟩) k pc) 1 := (HO.out.block _ HPPw.out.lt (by omega)).trans HPPw.out
      have hcall := sort_c wr w.heap.size (w.heap.size + 1 + 1) PB (w.heap.size + 1) k pc k P hn (by omega) (by omega) (by omega) (hPPr.cell (by omega)) c2 hPr (HR.out.congr (fun j hj => by rw [if_pos hj]))
      have HOPr : Hid (RW wr (w.heap.size + 1 + 1) 26 (fun _ => .slice (some ⟨w.heap.size + 1, 0, none⟩) k k) 1) := (HO.out.block _ HOPw.out.lt (by omega)).trans HOPw.out
      have HPr : Hid (R2 wr PB 57 (fun k => .int .i64 (P k).1) (fun k => .int .i64 (P k).2) k) := hPr
      have HPPr : Hid (RW wr w.heap.size 53 (fun _ => .slice (some ⟨PB, 0, none⟩) k pc) 1) := hPPr
      clear hPr hPPr
      go_wp2_with (go_at_call 20; refine hcall.mono ?_; rintro e w4 ⟨rfl, D, hD1, hD2, hD3, hD4, hO4⟩; have c4 := hO4.cell c2 (by show ¬ w.heap.size + 1 + 1 = w.heap.size + 1; omega))
      have HV4 : Hid (Hv w.heap.size (w.heap.size + 1 + 1) PB (w.heap.size + 1) k pc k P D w4) := ⟨(hO4.block _ HPPr.out.lt (by omega)).trans HPPr.out, (hO4.block _ HOPr.out.lt (by omega)).trans HOPr.out, hD2, (hO4.block PB HPr.out.lt (by omega)).trans HPr.out⟩
      have HO4w : Hid (Out (fun b => b = w.heap.size + 1) w3 w4) := HO.out.trans hO4 (fun _ _ h => h)
      have HD1 : Hid (∀ k_1, k_1 < k → D k_1 < k) := hD1
      have HD3 : Hid (∀ i j, i < j → j < k → lt (P (D j)) (P (D i)) = false) := hD3
      have HD4 : Hid (((List.range k).map D).Perm (List.range k)) := hD4
      clear hD1 hD2 hD3 hD4 hO4 HO HOPr HPr HPPr HR hcall c2
      have hO5 : Out (fun _ => False) w4 ((w4.alloc (.cells (rowL (fun _ => .int .i64 0) k).toArray 3)).alloc (.cells (rowL (fun _ => .int .i64 0) k).toArray 3)).drew := ⟨rfl, rfl, rfl, by show w4.heap.size ≤ ((w4.alloc (.cells (rowL (fun _ => .int .i64 0) k).toArray 3)).alloc (.cells (rowL (fun _ => .int .i64 0) k).toArray 3)).heap.size; simp; omega, fun b hb _ => (heap_alloc_old (w4.alloc (.cells (rowL (fun _ => .int .i64 0) k).toArray 3)) (.cells (rowL (fun _ => .int .i64 0) k).toArray 3) (Nat.lt_of_lt_of_le hb (by simp))).trans (heap_alloc_old w4 _ hb)⟩
      have HV5 : Hid (Hv w.heap.size (w.heap.size + 1 + 1) PB (w.heap.size + 1) k pc k P D ((w4.alloc (.cells (rowL (fun _ => .int .i64 0) k).toArray 3)).alloc (.cells (rowL (fun _ => .int .i64 0) k).toArray 3)).drew) := HV4.out.out hO5 id id id id
      have HR1 : Hid (RW ((w4.alloc (.cells (rowL (fun _ => .int .i64 0) k).toArray 3)).alloc (.cells (rowL (fun _ => .int .i64 0) k).toArray 3)).drew w4.heap.size 3 (fun _ => .int .i64 0) k) := (rw_new w4 (fun _ => .int .i64 0) k 3).alloc _
      have HR2 : Hid (RW ((w4.alloc (.cells (rowL (fun _ => .int .i64 0) k).toArray 3)).alloc (.cells (rowL (fun _ => .int .i64 0) k).toArray 3)).drew (w4.heap.size + 1) 3 (fun _ => .int .i64 0) k) := by
        have := rw_new (w4.alloc (.cells (rowL (fun _ => .int .i64 0) k).toArray 3)) (fun _ => .int .i64 0) k 3
        rw [show (w4.alloc (.cells (rowL (fun _ => .int .i64 0) k).toArray 3)).heap.size = w4.heap.size + 1 by simp] at this
        exact this
      have HO5 : Hid (Out (fun b => b = w.heap.size + 1) w3 ((w4.alloc (.cells (rowL (fun _ => .int .i64 0) k).toArray 3)).alloc (.cells (rowL (fun _ => .int .i64 0) k).toArray 3)).drew) := HO4w.out.trans hO5 (fun _ _ h => h.elim)
      have hw34 := HV4.out.op.lt
      have HC5 : Hid (Wc CB WSP wa nw wwc Z 0 ((w4.alloc (.cells (rowL (fun _ => .int .i64 0) k).toArray 3)).alloc (.cells (rowL (fun _ => .int .i64 0) k).toArray 3)).drew) := HC3.out.out HO5.out (by omega) (by omega) (fun ad had => by have := HO4.out ad had; omega)
      have key : ∀ e w', (∃ va vc, e = Ending.returned (.slice va (CH nw Z (fun k => P (D k)) k).length vc) ∧ w'.ownsRow ((w4.alloc (.cells (rowL (fun _ => .int .i64 0) k).toArray 3)).alloc (.cells (rowL (fun _ => .int .i64 0) k).toArray 3)).drew.heap.size 57 2 (.slice va (CH nw Z (fun k => P (D k)) k).length vc) (CH nw Z (fun k => P (D k)) k).length (prs ((CH nw Z (fun k => P (D k)) k).reverse.map fun x => P (D x))) ∧ ((CH nw Z (fun k => P (D k)) k).length = 0 → va = none ∧ vc = 0) ∧ Wc CB WSP wa nw wwc Z k w' ∧ (Out (fun b => b = CB ∨ b = w4.heap.size ∨ b = w4.heap.size + 1) ((w4.alloc (.cells (rowL (fun _ => .int .i64 0) k).toArray 3)).alloc (.cells (rowL (fun _ => .int .i64 0) k).toArray 3)).drew w')) → ∃ T va vc, Srt P T k ∧ e = .returned (.slice va (CH nw Z T k).length vc) ∧ w'.ownsRow w.heap.size 57 2 (.slice va (CH nw Z T k).length vc) (CH nw Z T k).length (prs ((CH nw Z T k).reverse.map T)) ∧ ((CH nw Z T k).length = 0 → va = none ∧ vc = 0) ∧ Wc CB WSP wa nw wwc Z k w' ∧ Out (fun b => b = CB) w w' := by
        rintro e w' ⟨va, vc, rfl, hown, hva, hC, hO⟩
        have hA : Out (fun b => b = CB) w ((w4.alloc (.cells (rowL (fun _ => .int .i64 0) k).toArray 3)).alloc (.cells (rowL (fun _ => .int .i64 0) k).toArray 3)).drew := (HO3.out.mono (Q := fun b => b = CB) (fun _ h => h.elim)).trans HO5.out (fun i hi h => by omega)
        refine ⟨fun k => P (D k), va, vc, ⟨?_, HD3.out⟩, rfl, own_mono hown hA.size, hva, hC, hA.trans hO (fun i hi h => by omega)⟩
        have := HD4.out.map P
        rw [List.map_map] at this
        exact this
      have KEY : Hid _ := key
      clear key hO5
      go_region_held3 (fun w' => w'.cell? ⟨w.heap.size + 1 + 1, 0, none⟩ = some (.slice (some ⟨w.heap.size + 1, 0, none⟩) k k)) (go_keep) (fail)
      · go_wp2
        rw [hT.out]
        refine Code.wp_mono (body_mono ?_) (heav_l _ w.heap.size (w.heap.size + 1 + 1) PB (w.heap.size + 1) w4.heap.size (w4.heap.size + 1) CB WSP k pc k k k P D (Sx fun k => P (D k)) (Wx nw Z fun k => P (D k)) wa nw wwc Z hn hnw HZ.out HD1.out HPn.out (fun _ => rfl) (fun _ => rfl) hcb hpb o3 HO4.out (by omega) (by omega) (by omega) (by omega) (by omega) o10 HV5.out HR1.out HR2.out HC5.out)
        rintro e w' ⟨va, vc, rfl, hown, hva, hC, hO⟩
        exact KEY.out _ _ ⟨va, vc, rfl, hown, hva, hC, hO.mono (fun b h => by omega)⟩
      · go_wp2
        rw [hT.out]
        refine Code.wp_mono (body_mono ?_) (heav_l _ w.heap.size (w.heap.size + 1 + 1) PB (w.heap.size + 1) (w4.heap.size + 1) w4.heap.size CB WSP k pc k k k P D (Sx fun k => P (D k)) (Wx nw Z fun k => P (D k)) wa nw wwc Z hn hnw HZ.out HD1.out HPn.out (fun _ => rfl) (fun _ => rfl) hcb hpb o3 HO4.out (by omega) (by omega) (by omega) (by omega) (by omega) o10 HV5.out HR2.out HR1.out HC5.out)
        rintro e w' ⟨va, vc, rfl, hown, hva, hC, hO⟩
        exact KEY.out _ _ ⟨va, vc, rfl, hown, hva, hC, hO.mono (fun b h => by omega)⟩

end Go.Proofs.Ybulkdwzg.lawB
