/-
  LawS6181BWhole: heaviestRun (10), ITS LAST PART: the run's pairs.
-/
import Derived.Test.YbulkdwzgRh
import Derived.Test.YbulkdwzgHc
import Derived.Deep.AppendLies
import Derived.Deep.RegionHeld3
namespace Go.Proofs.Ybulkdwzg.lawB
open Go.RowKit

theorem chain_lt {P : Nat → Option Nat} {n : Nat} (hP : ∀ x y, P x = some y → y < x) : ∀ f e, (∀ x, e = some x → x < n) → ∀ x, x ∈ chain P f e → x < n
  | 0, _, _, x, h => by simp [chain] at h
  | f + 1, none, _, x, h => by simp [chain] at h
  | f + 1, some y, he, x, h => by
    rw [chain] at h
    rcases List.mem_cons.1 h with rfl | h
    · exact he _ rfl
    · exact chain_lt hP f (P y) (fun z hz => by have := hP y z hz; have := he y rfl; omega) x h
/-- The cells of pairs. -/
def prs (L : List Pr) : List Value := L.flatMap fun p => [.int .i64 p.1, .int .i64 p.2]
theorem prs_len (L : List Pr) : (prs L).length = L.length * 2 := by
  induction L with
  | nil => rfl
  | cons p L ih => simp only [prs, List.flatMap_cons, List.length_append, List.length_cons, List.length_nil] at ih ⊢; omega
theorem prs_append (L M : List Pr) : prs (L ++ M) = prs L ++ prs M := by simp [prs]
/-- The pairs, the order, their boxes. -/
structure Hv (PP OP PB OB n pc oc : Nat) (P : Nat → Pr) (D : Nat → Nat) (w : World) : Prop where
  pp : RW w PP 53 (fun _ => .slice (some ⟨PB, 0, none⟩) n pc) 1
  op : RW w OP 26 (fun _ => .slice (some ⟨OB, 0, none⟩) n oc) 1
  od : ∀ k, k < n → w.cell? ⟨OB, k, none⟩ = some (.int .i64 (D k : Nat))
  pr : R2 w PB 57 (fun k => .int .i64 (P k).1) (fun k => .int .i64 (P k).2) n
theorem Hv.out {PP OP PB OB n pc oc : Nat} {P : Nat → Pr} {D : Nat → Nat} {w w' : World} {X : Nat → Prop} (h : Hv PP OP PB OB n pc oc P D w) (o : Out X w w') (h1 : ¬ X PP) (h2 : ¬ X OP) (h3 : ¬ X OB) (h4 : ¬ X PB) : Hv PP OP PB OB n pc oc P D w' :=
  ⟨(o.block PP h.pp.lt h1).trans h.pp, (o.block OP h.op.lt h2).trans h.op, fun k hk => o.cell (h.od k hk) h3, (o.block PB h.pr.lt h4).trans h.pr⟩
theorem Hv.later {PP OP PB OB n pc oc : Nat} {P : Nat → Pr} {D : Nat → Nat} {w w' : World} (h : Hv PP OP PB OB n pc oc P D w) (o : Below w.heap.size w w') : Hv PP OP PB OB n pc oc P D w' := h.out (out_below (D := fun _ => False) o) id id id id

set_option maxRecDepth 1000000 in
set_option maxHeartbeats 4000000 in
theorem heav_t (w : World) (PP OP PB OB SB WB n pc oc sc wc : Nat) (P : Nat → Pr) (D S Wt : Nat → Nat) (hn : n ≤ 4096) (hS : ∀ i, i < n → S i < 512) (hW1 : ∀ i, 0 < Wt i) (hW8 : ∀ i, Wt i ≤ 8) (hD : ∀ k, k < n → D k < n)
    (h : Hv PP OP PB OB n pc oc P D w) (hs : RW w SB 3 (fun j => .int .i64 (S j : Nat)) n) (hw : RW w WB 3 (fun j => .int .i64 (Wt j : Nat)) n)
    {c0 c1 c3 c4 c6 c9 c10 c11 c12 c13 c14 c15 c16 c17 c18 c19 c20 c21 c22 c23 c24 c25 c26 c27 c28 c29 c30 c31 c32 c33 c34 c35 c36 c37 c38 c39 c40 c41 c42 c43 c44 c45 c46 c47 c48 c49 c50 c51 c52 c53 c54 c55 c56 c57 c58 c59 c60 c61 c62 c63 c64 c65 c66 c67 c68 c69 c70 c71 c72 c73 c74 c75 c76 c77 c78 c79 c80 c81 : Value} :
    Code.wp Yba.prog (tl 6 (Yba.f10.body.getD .skip)) (bodyPost Yba.prog Yba.f10 fun x w' => ∃ va vc, x = .returned (.slice va (chain (Pv S Wt) n (tp S Wt n).2).length vc) ∧ w'.ownsRow w.heap.size 57 2 (.slice va (chain (Pv S Wt) n (tp S Wt n).2).length vc) (chain (Pv S Wt) n (tp S Wt n).2).length (prs ((chain (Pv S Wt) n (tp S Wt n).2).reverse.map fun x => P (D x))) ∧ ((chain (Pv S Wt) n (tp S Wt n).2).length = 0 → va = none ∧ vc = 0) ∧ Below w.heap.size w w') ⟨#[c0, c1, .pointer (some ⟨PP, 0, none⟩), c3, c4, .pointer (some ⟨OP, 0, none⟩), c6, .slice (some ⟨SB, 0, none⟩) n sc, .slice (some ⟨WB, 0, none⟩) n wc, c9, c10, c11, c12, c13, c14, c15, c16, c17, c18, c19, c20, c21, c22, c23, c24, c25, c26, c27, c28, c29, c30, c31, c32, c33, c34, c35, c36, c37, c38, c39, c40, c41, c42, c43, c44, c45, c46, c47, c48, c49, c50, c51, c52, c53, c54, c55, c56, c57, c58, c59, c60, c61, c62, c63, c64, c65, c66, c67, c68, c69, c70, c71, c72, c73, c74, c75, c76, c77, c78, c79, c80, c81], []⟩ w := by
  obtain ⟨i0, hi, hz0, hz1, hz2⟩ := info_parts info57
  conv => arg 2; whnf
  have hcall := rise_c w SB WB n sc wc S Wt hn hS hW1 hW8 hs hw
  have HCn : Hid (∀ x, x ∈ chain (Pv S Wt) n (tp S Wt n).2 → x < n) := chain_lt (fun x y hy => pv_lt S Wt hy) n _ (fun x hx => tp_lt S Wt hx)
  have hlen := chain_len (Pv S Wt) n (tp S Wt n).2
  have HV : Hid (Hv PP OP PB OB n pc oc P D w) := h
  have HD : Hid (∀ k, k < n → D k < n) := hD
  clear h hs hw hS hW1 hW8 hD
  generalize hC : chain (Pv S Wt) n (tp S Wt n).2 = C at hcall HCn hlen ⊢
  clear hC
  go_wp2_with (go_at_call 22; refine hcall.mono ?_; rintro e w1 ⟨QB, rfl, hq, hb⟩; have HQ : Hid (RW w1 QB 3 (fun j => .int .i64 (C.getD (C.length - 1 - j) 0 : Nat)) C.length) := hq; have HB : Hid (Below w.heap.size w w1) := hb; clear hq hb; dsimp only)
  go_loopw [11, 66] (fun rv kv wr => ∃ (k : Nat) (va : Option Addr) (vc : Nat), k ≤ C.length ∧ kv = .int .i64 k ∧ rv = .slice va k vc ∧ Hid (wr.ownsRow w.heap.size 57 2 (.slice va k vc) k (prs ((C.reverse.take k).map fun x => P (D x)))) ∧ Hid (Below w.heap.size w wr) ∧ Hid (RW wr QB 3 (fun j => .int .i64 (C.getD (C.length - 1 - j) 0 : Nat)) C.length) ∧ (∀ g, (Value.slice va k vc).ownBlock = some g → g ≠ QB) ∧ (k = 0 → va = none ∧ vc = 0)) (fun _ kv _ => C.length - (intOf kv).toNat)
  case atStart => exact ⟨0, none, 0, Nat.zero_le _, rfl, rfl, ⟨by simp [prs], .inl ⟨rfl, rfl⟩⟩, HB, HQ, (fun g hg => by cases hg), fun _ => ⟨rfl, rfl⟩⟩
  case round =>
    clear HB HQ
    obtain ⟨k, va, vc, hk, rfl, rfl, HO, HB, HQ, hgq, hva⟩ := hrel
    by_cases hlt : k < C.length
    · clear hva
      have hltI : (k : Int) < (C.length : Int) := by omega
      obtain ⟨x, hx⟩ : ∃ x, C.getD (C.length - 1 - k) 0 = x := ⟨_, rfl⟩
      have hxe : C.reverse[k]? = some x := by
        rw [List.getElem?_reverse hlt, ← hx]
        simp [List.getD, show C.length - 1 - k < C.length by omega]
      have hxn : x < n := HCn.out x (by
        have := List.mem_of_getElem? hxe
        simpa using this)
      have hdn := HD.out x hxn
      have cq := HQ.out.cell hlt
      rw [hx] at cq
      have HXE : Hid (C.reverse[k]? = some x) := hxe
      clear hx hxe
      have hxI : (x : Int) < (n : Int) := by omega
      have hdI : (D x : Int) < (n : Int) := by omega
      have HVr := HV.out.later HB.out
      have c1 := HVr.pp.cell (j := 0) (by omega)
      have c2 := HVr.op.cell (j := 0) (by omega)
      have c3 := HVr.od x hxn
      have c4 := HVr.pr.c0 hdn
      have c5 := HVr.pr.c1 hdn
      have hwz := HB.out.size
      have hob := HO.out.lt
      have hqz := HQ.out.lt
      have hk0 : k ≤ 4096 := by omega
      clear HVr
      go_wp2
      rename World => wr
      have HOa : Hid (∀ (q : Nat) (o : Obj), ((wr.drewN q).alloc o).ownsRow w.heap.size 57 2 (.slice va k vc) k (prs ((C.reverse.take k).map fun x => P (D x)))) := fun q o => own_kept (D := fun _ => False) HO.out ⟨rfl, rfl, rfl, by simp, fun b hb _ => heap_alloc_old (wr.drewN q) o hb⟩ (fun _ _ h => h)
      go_region_held3 (fun w' => w'.cell? ⟨PP, 0, none⟩ = some (.slice (some ⟨PB, 0, none⟩) n pc) ∧ w'.cell? ⟨OP, 0, none⟩ = some (.slice (some ⟨OB, 0, none⟩) n oc) ∧ w'.cell? ⟨OB, x, none⟩ = some (.int .i64 (D x : Nat)) ∧ w'.cell? ⟨PB, D x * 2, none⟩ = some (.int .i64 (P (D x)).1) ∧ w'.cell? ⟨PB, D x * 2 + 1, none⟩ = some (.int .i64 (P (D x)).2)) (first | go_keep | exact ⟨HV1.out.pp.cell (by omega), HV1.out.op.cell (by omega), HV1.out.od x hxn, HV1.out.pr.c0 hdn, HV1.out.pr.c1 hdn⟩) ((refine step_append_lies _ (by rfl) (.tmp 70) (.tmp 78) 53 (by rfl) w.heap.size 57 i0 (.agg #[.int .i64 0, .int .i64 0]) 2 16 Yba.underlying53 hi hz0 hz1 hz2 rfl (by decide) _ _ _ (by rfl) (HOa.out 1 _) ⟨wr.heap.size, 0, none⟩ 1 1 [.int .i64 (P (D x)).1, .int .i64 (P (D x)).2] (by rfl) rfl (by exact cell_two_new (wr.drewN 1) _ _ _) (by intro u hu; simp at hu; rcases hu with rfl | rfl <;> rfl) (by omega) (by unfold maxLen; omega) (by omega) (by show w.heap.size ≤ ((wr.drewN 1).alloc _).heap.size; exact Nat.le_trans hwz (by simp)) _ rfl ?_; intro g cap w1 hown' hgrow hat hg1; have hgr2 : (wr.alloc (.cells #[.int .i64 (P (D x)).1, .int .i64 (P (D x)).2] 57)).grownBy w1 (Value.slice va k vc).ownBlock := ⟨hgrow.os, hgrow.tape, hgrow.output, hgrow.size, hgrow.block⟩; have hb1 : Below w.heap.size w w1 := below_append HB.out hgr2 (fun k h => (hob k h).1) hwz; have HB1 : Hid (Below w.heap.size w w1) := hb1; have HV1 : Hid (Hv PP OP PB OB n pc oc P D w1) := HV.out.later hb1; have HQ1 : Hid (RW w1 QB 3 (fun j => .int .i64 (C.getD (C.length - 1 - j) 0 : Nat)) C.length) := (hgr2.block QB (Nat.lt_of_lt_of_le hqz (by simp)) (fun h => hgq QB h.symm rfl)).trans ((heap_alloc_old wr _ hqz).trans HQ.out); have hgq1 : g ≠ QB := fun e => hat.elim (fun h => hgq g h e) (fun h => absurd (e.symm.trans h) (Nat.ne_of_lt (Nat.lt_of_lt_of_le hqz (by show wr.heap.size ≤ (wr.alloc (.cells #[.int .i64 (P (D x)).1, .int .i64 (P (D x)).2] 57)).heap.size; simp)))); have HO1 : Hid (w1.ownsRow w.heap.size 57 2 (.slice (some ⟨g, 0, none⟩) (k + 1) cap) (k + 1) (prs ((C.reverse.take k).map fun x => P (D x)) ++ [.int .i64 (P (D x)).1, .int .i64 (P (D x)).2])) := hown'; clear hown' hgrow hat hb1 hgr2))
      clear c1 c2 c3 c4 c5
      go_wp2
      go_roundw
      case rel =>
        refine ⟨k + 1, some ⟨g, 0, none⟩, cap, by omega, by go_num, rfl, ?_, HB1, HQ1, (fun g' hg' => by cases hg'; exact hgq1), fun h => absurd h (by omega)⟩
        have h1 := HO1.out
        have e : C.reverse.take (k + 1) = C.reverse.take k ++ [x] := by
          rw [List.take_add_one, HXE.out]; rfl
        rw [e, List.map_append, prs_append]
        exact h1
      case measure => simp [intOf]; omega
    · obtain rfl : k = C.length := by omega
      go_wp2
      go_ret
      refine ⟨va, vc, rfl, ?_, hva, HB.out⟩
      have := HO.out
      rw [List.take_of_length_le (by simp)] at this
      exact this

end Go.Proofs.Ybulkdwzg.lawB
