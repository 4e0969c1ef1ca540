/-
  THE WALK of LawS6184AWhole (3).
-/
import Derived.Test.YbulkdxawFmtEq
import Derived.Deep.DeepCutAuto
import Derived.Deep.RegionHeld3
namespace Go.Proofs.YbulkdxawFmt
open Go.RowKit Go.Extern.Stop Go.Stop Go.Extern

theorem ne44 (w : World) (a : Addr) : (binOp .neq 44 (.pointer (some a)) (.pointer (some a))).run Ybaf.prog w = .ok (.bool false) w := by
  obtain ⟨i0, hi, _⟩ := info_parts info33
  exact Lib.run_neq_ptr_same w a Ybaf.underlying44 hi

theorem b_drewN (w : World) (n : Nat) : Below w.heap.size w (w.drewN n) := ⟨rfl, rfl, rfl, Nat.le_refl _, fun _ _ => rfl⟩

theorem b_drewN2 (w : World) (B n m : Nat) : Below B w ((w.drewN n).drewN m) := ⟨rfl, rfl, rfl, Nat.le_refl _, fun _ _ => rfl⟩

/-- n strings lie at a. -/
def CN (w : World) (a : Option Addr) (n : Nat) (N : Nat → ByteArray) : Prop := 0 < n → ∃ b off, a = some ⟨b, off, none⟩ ∧ ∀ j, j < n → w.cell? ⟨b, off + j, none⟩ = some (.string (N j))

/-- The key that the table is made with. -/
def PK (w : World) (hp : Bool) (ka : Option Addr) (kl kc n : Nat) (S : Nat → ByteArray) (I : Nat → Int) : Prop :=
  (hp = false ∧ ka = none ∧ kl = 0 ∧ kc = 0) ∨ (hp = true ∧ kl = n ∧ kc = n ∧ ∃ g, ka = some ⟨g, 0, none⟩ ∧ w.heap[g]? = some (.cells (kpL S I n).toArray 33 (0, 0)))

/-- The table: columns at B, key part, index and table in the three blocks behind. -/
structure Tab (w : World) (B : Nat) (nm : ByteArray) (n : Nat) (ka : Option Addr) (kl kc : Nat) (ai : Int) (C : List Value) : Prop where
  col : w.heap[B]? = some (.cells C.toArray 31 (0, 0))
  kb : w.heap[B + 1]? = some (.cells #[.string nm, .int .i64 3] 33 (0, 0))
  ib : w.heap[B + 1 + 1]? = some (.cells #[.string nm, .slice (some ⟨B + 1, 0, none⟩) 1 1, .bool true] 35 (0, 0))
  tb : w.heap[B + 1 + 1 + 1]? = some (.cells #[.string nm, .slice (some ⟨B, 0, none⟩) n n, .slice ka kl kc, .slice (some ⟨B + 1 + 1, 0, none⟩) 1 1, .int .u64 ai] 39 (0, 0))

theorem row_lt {w : World} {b : Nat} {o : Obj} (h : w.heap[b]? = some o) : b < w.heap.size := by
  rcases Nat.lt_or_ge b w.heap.size with h1 | h1
  · exact h1
  · rw [Array.getElem?_eq_none h1] at h; cases h
theorem row_later {w w' : World} {b : Nat} {o : Obj} (h : w.heap[b]? = some o) (hb : Below w.heap.size w w') : w'.heap[b]? = some o := by
  rw [hb.block b (row_lt h)]; exact h

theorem alloc3 (w : World) (o1 o2 o3 : Obj) : (((w.alloc o1).alloc o2).alloc o3).heap[w.heap.size]? = some o1 ∧ (((w.alloc o1).alloc o2).alloc o3).heap[w.heap.size + 1]? = some o2 ∧ (((w.alloc o1).alloc o2).alloc o3).heap[w.heap.size + 1 + 1]? = some o3 := by
  have h1 := heap_alloc_new w o1
  have s1 : (w.alloc o1).heap.size = w.heap.size + 1 := by simp
  have h2 := heap_alloc_new (w.alloc o1) o2
  have s2 : ((w.alloc o1).alloc o2).heap.size = w.heap.size + 1 + 1 := by simp
  have h3 := heap_alloc_new ((w.alloc o1).alloc o2) o3
  rw [s1] at h2
  rw [s2] at h3
  exact ⟨row_later (row_later h1 ((Below.refl _ _).alloc (Nat.le_refl _) _)) ((Below.refl _ _).alloc (Nat.le_refl _) _), row_later h2 ((Below.refl _ _).alloc (Nat.le_refl _) _), h3⟩
theorem Tab.later {w w' : World} {B : Nat} {nm : ByteArray} {n : Nat} {ka : Option Addr} {kl kc : Nat} {ai : Int} {C : List Value} (h : Tab w B nm n ka kl kc ai C) (hb : Below w.heap.size w w') : Tab w' B nm n ka kl kc ai C :=
  ⟨row_later h.col hb, row_later h.kb hb, row_later h.ib hb, row_later h.tb hb⟩
theorem PK.later {w w' : World} {hp : Bool} {ka : Option Addr} {kl kc n : Nat} {S : Nat → ByteArray} {I : Nat → Int} (h : PK w hp ka kl kc n S I) (hb : Below w.heap.size w w') : PK w' hp ka kl kc n S I := by
  rcases h with h | ⟨h1, h2, h3, g, h4, h5⟩
  · exact .inl h
  · exact .inr ⟨h1, h2, h3, g, h4, row_later h5 hb⟩
/-- The key is laid. -/
theorem Tab.set {w : World} {B : Nat} {nm : ByteArray} {n : Nat} {ka : Option Addr} {kl kc : Nat} {ai : Int} {C : List Value} (h : Tab w B nm n ka kl kc ai C) (pa : Option Addr) (pl pc : Nat) :
    Tab (w.setCell ⟨B + 1 + 1 + 1, 2, none⟩ (.slice pa pl pc)) B nm n pa pl pc ai C := by
  refine ⟨?_, ?_, ?_, ?_⟩
  · rw [heap_setCell_other _ _ _ _ (by simp; omega)]; exact h.col
  · rw [heap_setCell_other _ _ _ _ (by simp)]; exact h.kb
  · rw [heap_setCell_other _ _ _ _ (by simp)]; exact h.ib
  · rw [heap_setCell_same w _ 2 _ _ _ h.tb]; simp
theorem Tab.cells {w : World} {B : Nat} {nm : ByteArray} {n : Nat} {ka : Option Addr} {kl kc : Nat} {ai : Int} {C : List Value} (h : Tab w B nm n ka kl kc ai C) :
    w.cell? ⟨B + 1, 0, none⟩ = some (.string nm) ∧ w.cell? ⟨B + 1, 1, none⟩ = some (.int .i64 3) ∧ w.cell? ⟨B + 1 + 1, 0, none⟩ = some (.string nm) ∧ w.cell? ⟨B + 1 + 1, 1, none⟩ = some (.slice (some ⟨B + 1, 0, none⟩) 1 1) ∧ w.cell? ⟨B + 1 + 1, 2, none⟩ = some (.bool true) ∧
    w.cell? ⟨B + 1 + 1 + 1, 0, none⟩ = some (.string nm) ∧ w.cell? ⟨B + 1 + 1 + 1, 1, none⟩ = some (.slice (some ⟨B, 0, none⟩) n n) ∧ w.cell? ⟨B + 1 + 1 + 1, 2, none⟩ = some (.slice ka kl kc) ∧ w.frozen? ⟨B + 1 + 1 + 1, 2, none⟩ = false ∧ w.cell? ⟨B + 1 + 1 + 1, 3, none⟩ = some (.slice (some ⟨B + 1 + 1, 0, none⟩) 1 1) ∧ w.cell? ⟨B + 1 + 1 + 1, 4, none⟩ = some (.int .u64 ai) := by
  refine ⟨?_, ?_, ?_, ?_, ?_, ?_, ?_, ?_, frozen_of_row w _ _ _ _ h.tb, ?_, ?_⟩
  · rw [cell_of_row w _ _ _ _ _ h.kb]; rfl
  · rw [cell_of_row w _ _ _ _ _ h.kb]; rfl
  · rw [cell_of_row w _ _ _ _ _ h.ib]; rfl
  · rw [cell_of_row w _ _ _ _ _ h.ib]; rfl
  · rw [cell_of_row w _ _ _ _ _ h.ib]; rfl
  · rw [cell_of_row w _ _ _ _ _ h.tb]; rfl
  · rw [cell_of_row w _ _ _ _ _ h.tb]; rfl
  · rw [cell_of_row w _ _ _ _ _ h.tb]; rfl
  · rw [cell_of_row w _ _ _ _ _ h.tb]; rfl
  · rw [cell_of_row w _ _ _ _ _ h.tb]; rfl

set_option maxRecDepth 100000 in
set_option maxHeartbeats 2000000 in
theorem law_a (F : Interp) (nm : ByteArray) (hp : Bool) (oa : Option Addr) (ol oc : Nat) (SO : Nat → ByteArray) (JO : Nat → Int) (na : Option Addr) (nl nc : Nat) (N : Nat → ByteArray) (ai : Int) (pa : Option Addr) (pl pc : Nat) (SP : Nat → ByteArray) (IP : Nat → Int) (w : World)
    (hF : F.answers w.tape) (hO : KP w oa ol SO JO) (hN : CN w na nl N) (hP : KP w pa pl SP IP) (hpn : pa = none → pl = 0 ∧ pc = 0) (hsum : ol + nl + pl ≤ 1048576) :
    Calls Ybaf.prog 3 #[.string nm, .bool hp, .slice oa ol oc, .slice na nl nc, .int .u64 ai, .slice pa pl pc] w fun e w' => e = .returned (.bool true) ∧ Below w.heap.size w w' := by
  have HO : Hid (KP w oa ol SO JO) := hO
  have HN : Hid (CN w na nl N) := hN
  have HP : Hid (KP w pa pl SP IP) := hP
  have HPN : Hid (pa = none → pl = 0 ∧ pc = 0) := hpn
  clear hO hN hP hpn
  have hmk := run_make22 ol (by omega)
  obtain ⟨Z, hZ⟩ : ∃ Z, Z = zk ol := ⟨_, rfl⟩
  rw [← hZ] at hmk
  have HZ : Hid (Z.toList.length = ol * 2) := by rw [hZ]; exact zk_len ol
  clear hZ
  have hs1 : (ol : Int) + (nl : Int) + (pl : Int) ≤ 1048576 := by omega
  go_enter Ybaf.func3, Ybaf.ntmps3
  go_upto_if 30 with (fail)
  go_cut [13] from 21 (fun v w' => ∃ ka kl kc, v = .slice ka kl kc ∧ PK w' hp ka kl kc ol SO JO ∧ Below w.heap.size w w')
  case first =>
    cases hp
    · go_wp2
      go_meet
      case rel => exact ⟨none, 0, 0, rfl, .inl ⟨rfl, rfl, rfl, rfl⟩, Below.refl _ _⟩
    · have hg : (w.alloc (.cells Z 33)).heap[w.heap.size]? = some (.cells Z.toList.toArray 33 (0, 0)) := by rw [Array.toArray_toList]; exact heap_alloc_new w _
      have hb : Below w.heap.size w (w.alloc (.cells Z 33)) := (Below.refl _ w).alloc (Nat.le_refl _) _
      have HG : Hid ((w.alloc (.cells Z 33)).heap[w.heap.size]? = some (.cells Z.toList.toArray 33 (0, 0))) := hg
      clear hg
      go_wp2_with (first | (refine wpList_copy_kp rfl _ _ rfl w.heap.size ol ol rfl oa oc rfl Z.toList HG.out HZ.out SO JO (HO.out.later hb) ?_; intro w1 hw1 hg1 hz1))
      go_meet
      case rel => exact ⟨_, ol, ol, rfl, .inr ⟨rfl, rfl, rfl, w.heap.size, rfl, hw1⟩, hb.grown hg1 (by simp) (fun k hk => by cases hk; exact Nat.le_refl _)⟩
  obtain ⟨ka, kl, kc, rfl, HPK, hbc⟩ := hcut
  clear hmk
  have hmc := run_make25 nl (by omega)
  obtain ⟨Y, hY⟩ : ∃ Y, Y = zc nl := ⟨_, rfl⟩
  rw [← hY] at hmc
  have HY : Hid (Col Y.toList N nl 0) := by rw [hY]; exact col_start N nl
  clear hY
  go_wp2
  obtain ⟨w2, hw2⟩ : ∃ w2, w2 = wc.alloc (.cells Y 31) := ⟨_, rfl⟩
  have hA2 : w2.heap[wc.heap.size]? = some (.cells Y.toList.toArray 31 (0, 0)) := by rw [hw2, Array.toArray_toList]; exact heap_alloc_new wc _
  have hb2 : Below wc.heap.size wc w2 := by rw [hw2]; exact (Below.refl _ wc).alloc (Nat.le_refl _) _
  have hs2 : w2.heap.size = wc.heap.size + 1 := by rw [hw2]; simp
  rw [← hw2]
  have HA2 : Hid (w2.heap[wc.heap.size]? = some (.cells Y.toList.toArray 31 (0, 0))) := hA2
  clear hw2 hmc hA2
  go_loopw [42] (fun i wq => ∃ (k : Nat) (C : List Value), k ≤ nl ∧ i = .int .i64 k ∧ Hid (wq.heap[wc.heap.size]? = some (.cells C.toArray 31 (0, 0))) ∧ Hid (Col C N nl k) ∧ w2.grownBy wq (some wc.heap.size) ∧ wq.heap.size = w2.heap.size) (fun i _ => nl - (intOf i).toNat)
  case atStart => exact ⟨0, Y.toList, Nat.zero_le _, rfl, HA2, HY, World.grownBy.refl _ _, rfl⟩
  case round =>
    obtain ⟨k, C, hk, rfl, HC, HCol, hgr, hszr⟩ := hrel
    by_cases hlt : k < nl
    · obtain ⟨b, off, hna, hcs⟩ := HN.out (by omega)
      have hbw : b < w.heap.size := World.block_lt_of_cell? _ _ (hcs k hlt)
      have h1 := cell_later hbc (hcs k hlt)
      have h2 := cell_later hb2 h1
      have ck : wr.cell? ⟨b, off + k, none⟩ = some (.string (N k)) := hgr.cell h2 (by have := hbc.size; simp; omega)
      have hCl : k * 12 < C.length := by rw [HCol.out.1]; omega
      have ca : wr.cell? ⟨wc.heap.size, k * 12, none⟩ = some (C.getD (k * 12) undef) := by
        rw [cell_of_row wr _ _ _ _ _ HC.out]; simp [hCl]
      have fa : wr.frozen? ⟨wc.heap.size, k * 12, none⟩ = false := frozen_of_row wr _ _ _ _ HC.out
      have hkI : (k : Int) < (nl : Int) := by omega
      subst hna
      clear hcs h1 h2
      go_wp2
      go_roundw
      case rel =>
        refine ⟨k + 1, C.set (k * 12) (.string (N k)), by omega, by go_num, ?_, col_step HCol.out hlt, hgr.trans ⟨rfl, rfl, rfl, by simp [World.setCell], fun j _ hj => heap_setCell_other _ _ _ _ (fun e => hj (by rw [e]))⟩, by simpa [World.setCell] using hszr⟩
        show _ = _
        rw [heap_setCell_same wr wc.heap.size (k * 12) _ _ _ HC.out]
        simp
      case measure => simp [intOf]; omega
    · obtain rfl : k = nl := by omega
      have hmp := run_make22 pl (by omega)
      have hn22 := ne22
      rename World => w3
      go_upto_if 68 with (fail)
      obtain ⟨w4, hw4⟩ : ∃ w4, w4 = ((w3.alloc (Obj.cells #[Value.string nm, Value.int IntKind.i64 3] 33)).alloc (Obj.cells #[Value.string nm, Value.slice (some { block := wc.heap.size + 1, off := 0 }) 1 1, Value.bool true] 35)).alloc (Obj.cells #[Value.string nm, Value.slice (some { block := wc.heap.size, off := 0 }) k k, Value.slice ka kl kc, Value.slice (some { block := wc.heap.size + 1 + 1, off := 0 }) 1 1, Value.int IntKind.u64 ai] 39) := ⟨_, rfl⟩
      rw [← hw4]
      have hb3 : Below wc.heap.size wc w3 := hb2.grown hgr (by omega) (fun k hk => by cases hk; exact Nat.le_refl _)
      have hb4 : Below w3.heap.size w3 w4 := by rw [hw4]; exact (((Below.refl _ w3).alloc (Nat.le_refl _) _).alloc (by simp) _).alloc (by simp; omega) _
      have hb0 : Below w.heap.size w w4 := (hbc.trans (hb3.mono hbc.size)).trans (hb4.mono (by have := hbc.size; omega))
      have HT4 : Hid (Tab w4 wc.heap.size nm k ka kl kc ai C) := by
        have e1 : wc.heap.size + 1 = w3.heap.size := by omega
        obtain ⟨r1, r2, r3⟩ := alloc3 w3 (Obj.cells #[Value.string nm, Value.int IntKind.i64 3] 33) (Obj.cells #[Value.string nm, Value.slice (some { block := wc.heap.size + 1, off := 0 }) 1 1, Value.bool true] 35) (Obj.cells #[Value.string nm, Value.slice (some { block := wc.heap.size, off := 0 }) k k, Value.slice ka kl kc, Value.slice (some { block := wc.heap.size + 1 + 1, off := 0 }) 1 1, Value.int IntKind.u64 ai] 39)
        rw [← hw4, ← e1] at r1 r2 r3
        exact ⟨row_later HC.out hb4, r1, r2, r3⟩
      have HPK4 : Hid (PK w4 hp ka kl kc ol SO JO) := (HPK.later hb3).later hb4
      clear hw4 HC hgr hszr HA2 HPK
      go_cut [18] from 69 (fun v w' => ∃ qa qc, v = .slice qa pl qc ∧ qa.isNone = pa.isNone ∧ Hid (KP w' qa pl SP IP) ∧ Hid (∀ v, KP (w'.setCell ⟨wc.heap.size + 1 + 1 + 1, 2, none⟩ v) qa pl SP IP) ∧ Below w4.heap.size w4 w')
      case first =>
        cases pa with
        | none =>
          obtain ⟨rfl, rfl⟩ := HPN.out rfl
          go_wp2
          go_meet
          case rel => exact ⟨none, 0, rfl, rfl, fun h => absurd h (by omega), fun _ h => absurd h (by omega), Below.refl _ _⟩
        | some pp =>
          obtain ⟨Z, hZ⟩ : ∃ Z, Z = zk pl := ⟨_, rfl⟩
          rw [← hZ] at hmp
          have HZ : Hid (Z.toList.length = pl * 2) := by rw [hZ]; exact zk_len pl
          clear hZ
          have hb : Below w4.heap.size w4 (w4.alloc (.cells Z 33)) := (Below.refl _ w4).alloc (Nat.le_refl _) _
          have HG : Hid ((w4.alloc (.cells Z 33)).heap[w4.heap.size]? = some (.cells Z.toList.toArray 33 (0, 0))) := by
            show _ = _
            rw [Array.toArray_toList]; exact heap_alloc_new w4 _
          go_wp2_with (first | (refine wpList_copy_kp rfl _ _ rfl w4.heap.size pl pl rfl (some pp) pc rfl Z.toList HG.out HZ.out SP IP ((HP.out.later hb0).later hb) ?_; intro w1 hw1 hg1 hz1))
          go_meet
          case rel => exact ⟨_, pl, rfl, rfl, kp_of_row hw1, fun v => kp_of_row (by rw [heap_setCell_other _ _ _ _ (by have := row_lt HT4.out.tb; simp; omega)]; exact hw1), hb.grown hg1 (by simp) (fun k hk => by cases hk; exact Nat.le_refl _)⟩
      obtain ⟨qa, qc, rfl, hqa, HQ, HQ2, hb5⟩ := hcut
      clear hmp hn22
      rename World => w5
      have HT5 : Hid (Tab w5 wc.heap.size nm k ka kl kc ai C) := HT4.out.later hb5
      have HPK5 : Hid (PK w5 hp ka kl kc ol SO JO) := HPK4.out.later hb5
      have hb05 : Below w.heap.size w w5 := hb0.trans (hb5.mono hb0.size)
      clear HT4 HPK4 hb5 hb0
      go_upto_region 19 with (fail)
      go_cut [19] from 75 (fun v w' => ∃ ta tl tc, Hid (Tab w' wc.heap.size nm k ta tl tc ai C) ∧ Hid (KP w' qa pl SP IP) ∧ Below w.heap.size w w' ∧ Hid ((hp = true ∧ (∃ t u, v = .iface t u) ∧ PK w' hp ka kl kc ol SO JO ∧ ta = ka ∧ tl = kl ∧ tc = kc) ∨ (hp = false ∧ v = .nilIface ∧ ta = pa ∧ tl = pl ∧ tc = pc)))
      case first =>
        obtain ⟨c1, c2, c3, c4, c5, c6, c7, c8, c9, c10, c11⟩ := HT5.out.cells
        rcases HPK5.out with ⟨rfl, rfl, rfl, rfl⟩ | ⟨rfl, rfl, rfl, g, rfl, hg⟩
        · go_wp2_with (first | (go_at_call 4; refine (set_yes _ pa pl pc w5 c8 c9).mono ?_; rintro _ _ ⟨rfl, rfl⟩))
          go_meet
          case rel => exact ⟨pa, pl, pc, HT5.out.set _ _ _, HQ2.out _, hb05.trans ⟨rfl, rfl, rfl, by simp [World.setCell], fun j hj => heap_setCell_other _ _ _ _ (by have := hbc.size; simp; omega)⟩, .inr ⟨by simp, by simp, by simp, by simp, by simp⟩⟩
        · go_wp2_with (first | (go_at_call 4; refine (set_no F _ nm _ _ _ _ w5 (by rw [hb05.tape]; exact hF) c6 c8).mono ?_; rintro _ w6 ⟨⟨t, u, rfl⟩, hb6⟩))
          go_meet
          case rel => exact ⟨_, _, _, HT5.out.later hb6, HQ.out.later hb6, hb05.trans (hb6.mono hb05.size), .inl ⟨by simp, ⟨_, _, rfl⟩, HPK5.out.later hb6, by simp, by simp, by simp⟩⟩
      obtain ⟨ta, tl, tc, HT, HQ', hb6, HE⟩ := hcut
      clear HQ HQ2 HT5 HPK5
      rename World => w6
      obtain ⟨c1, c2, c3, c4, c5, c6, c7, c8, c9, c10, c11⟩ := HT.out.cells
      have hq22 := eq22
      have hn33 := ne33 w6 nm 3
      have hI6 : (0 : Int) < 1 := by omega
      go_wp2_with (first | (go_at_call 5; refine (eq_any pa qa pl pc qc SP IP w6 (by omega) (HP.out.later hb6) HQ'.out).mono ?_; rintro _ w7 ⟨rfl, q7, rfl⟩))
      go_loopw [113] (fun i wq => ∃ (j q : Nat), j ≤ k ∧ i = .int .i64 j ∧ wq = w6.drewN q) (fun i _ => k - (intOf i).toNat)
      case atStart => exact ⟨0, _, Nat.zero_le _, rfl, rfl⟩
      case round =>
        obtain ⟨j, q, hj, rfl, rfl⟩ := hrel
        by_cases hjl : j < k
        · obtain ⟨b, off, hna, hcs⟩ := HN.out (by omega)
          have ck := cell_later hb6 (hcs j hjl)
          obtain ⟨d0, d1, d2, d3, d4, d5, d6, d7, d8, d9, d10, d11⟩ := col_cells HT.out.col HCol.out hjl
          have hn31 := fun w => ne31 w (N j)
          unfold colA at hn31
          have hjI : (j : Int) < (k : Int) := by omega
          subst hna
          clear hcs
          go_wp2
          go_quiet (fail)
          go_wp2
          go_roundw
          case rel => exact ⟨j + 1, q + nq, by omega, by go_num, by simp [World.drewN]⟩
          case measure => simp [intOf]; omega
        · obtain rfl : j = k := by omega
          have hn44 := ne44
          rcases HE.out with ⟨rfl, ⟨t, u, rfl⟩, hpk, rfl, rfl, rfl⟩ | ⟨rfl, rfl, rfl, rfl, rfl⟩
          · rcases hpk with ⟨h, _⟩ | ⟨_, rfl, rfl, g, rfl, hg⟩
            · cases h
            · have hk6 : KP w6 (some ⟨g, 0, none⟩) tc SO JO := kp_of_row hg
              have HK : Hid (KP w6 (some ⟨g, 0, none⟩) tc SO JO) := hk6
              have HO6 : Hid (KP w6 oa tc SO JO) := HO.out.later hb6
              clear hk6 hg
              by_cases h0 : 0 < tc
              · have h0I : (0 : Int) < (tc : Int) := by omega
                go_wp2_with (first | (go_at_call 5; refine (eq_any (some ⟨g, 0, none⟩) oa tc tc oc SO JO _ (by omega) (HK.out.later (b_drewN w6 _)) (HO6.out.later (b_drewN w6 _))).mono ?_; rintro _ w7 ⟨rfl, q8, rfl⟩))
                go_quiet (fail)
                go_wp2
                go_ret
                exact ⟨rfl, hb6.trans (b_drewN2 w6 _ _ _)⟩
              · have h0I : ¬ (0 : Int) < (tc : Int) := by omega
                have h0d : decide ((0 : Int) < (tc : Int)) = false := by simp; omega
                go_wp2_with (first | (go_at_call 5; refine (eq_any (some ⟨g, 0, none⟩) oa tc tc oc SO JO _ (by omega) (HK.out.later (b_drewN w6 _)) (HO6.out.later (b_drewN w6 _))).mono ?_; rintro _ w7 ⟨rfl, q8, rfl⟩))
                go_quiet (fail)
                go_wp2
                go_ret
                exact ⟨rfl, hb6.trans (b_drewN2 w6 _ _ _)⟩
          · have HP6 : Hid (KP w6 ta tl SP IP) := HP.out.later hb6
            skip
            · skip
              by_cases h0 : 0 < tl
              · have h0I : (0 : Int) < (tl : Int) := by omega
                obtain ⟨pb, po, rfl, _⟩ := HP6.out h0
                go_wp2_with (first | (go_at_call 5; refine (eq_any _ _ tl tc tc SP IP _ (by omega) (HP6.out.later (b_drewN w6 _)) (HP6.out.later (b_drewN w6 _))).mono ?_; rintro _ w7 ⟨rfl, q8, rfl⟩))
                go_quiet (fail)
                go_wp2
                go_ret
                exact ⟨rfl, hb6.trans (b_drewN2 w6 _ _ _)⟩
              · have h0I : ¬ (0 : Int) < (tl : Int) := by omega
                have h0d : decide ((0 : Int) < (tl : Int)) = false := by simp; omega
                go_wp2_with (first | (go_at_call 5; refine (eq_any _ _ tl tc tc SP IP _ (by omega) (HP6.out.later (b_drewN w6 _)) (HP6.out.later (b_drewN w6 _))).mono ?_; rintro _ w7 ⟨rfl, q8, rfl⟩))
                go_quiet (fail)
                go_wp2
                go_ret
                exact ⟨rfl, hb6.trans (b_drewN2 w6 _ _ _)⟩

end Go.Proofs.YbulkdxawFmt
