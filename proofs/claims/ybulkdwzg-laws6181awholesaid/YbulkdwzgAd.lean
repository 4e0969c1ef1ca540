/-
  WALK of slices.Delete at attr (18), an element of six cells: one element is taken out of a row that is known whole.
-/
import Derived.Test.YbulkdwzgRows
import Derived.WalkKit
import Derived.WalkSpells
import Derived.WalkLawsBesides
import Derived.Deep.RegionLaw
import Derived.Deep.RegionHeld3
namespace Go.Proofs.Ybulkdwzg
open Go.RowKit

theorem info32 : (Yba.prog.info? 32).map (fun i => (i.zero, i.size, i.bytes)) = some (some (.agg #[.string ⟨#[]⟩, .string ⟨#[]⟩, .bool false, .int .u32 0, .int .i64 0, .slice none 0 0]), 6, 72) := by kernel_rfl
def zeroAttr : List Value := [.string ⟨#[]⟩, .string ⟨#[]⟩, .bool false, .int .u32 0, .int .i64 0, .slice none 0 0]
theorem zero32 (w : World) : (zeroValue 32).run Yba.prog w = .ok (.agg #[.string ⟨#[]⟩, .string ⟨#[]⟩, .bool false, .int .u32 0, .int .i64 0, .slice none 0 0]) w := by kernel_rfl

theorem step_append_row {ops : Array Oper} {o : Oper} {a : Act} {w : World} {K : Act → World → Prop} {Q : Exit → Act → World → Prop} {E : Prop} (hgd : o.guard = none) (s x : Operand)
    (ho : o.op = .call { callee := .builtin .append, args := #[s, x], argTypes := #[24, 24] })
    (g n cap : Nat) (hs : a.eval s = .slice (some ⟨g, 0, none⟩) n cap) (ad : Addr) (m c : Nat) (hx : a.eval x = .slice (some ad) m c)
    (cur : List Value) (hg : w.heap[g]? = some (.cells cur.toArray 32 (0, 0))) (news : List Value) (hl : news.length = m * 6) (hnews : ∀ j u, news[j]? = some u → w.cell? (ad.add j) = some u) (h1 : ∀ u ∈ news, u.oneCell' = true)
    (hroom : n + m ≤ cap) (hfit : n * 6 + news.length ≤ cur.length)
    (h : ∀ w', w'.heap[g]? = some (.cells (cur.take (n * 6) ++ news ++ cur.drop (n * 6 + news.length)).toArray 32 (0, 0)) → w.grownBy w' (some g) → w'.heap.size = w.heap.size → K (a.put o.dst (.slice (some ⟨g, 0, none⟩) (n + m) cap)) w') :
    if Region.wanted o (yielded ops a.tmps) = true then Oper.wp Yba.prog o a w K Q else E := by
  obtain ⟨i0, hi, hz0, hz1, hz2⟩ := info_parts info32
  have hw : Region.wanted o (yielded ops a.tmps) = true := by simp [Region.wanted, hgd]
  rw [if_pos hw]
  have hr := run_append_room (P := Yba.prog) w 24 o.type 32 i0 Yba.underlying24 hi g n cap cur.toArray hg ad m c news (by rw [hz1]; exact hl) hnews h1 hroom (by rw [hz1]; simpa using hfit)
  rw [hz1] at hr
  unfold Oper.wp execOp
  simp only [ho, resolve, invoke, builtin, Sem.run_bind, Sem.run_pure, Result.andThen_ok, List.map_toArray, List.map_cons, List.map_nil, hs, hx, hr]
  exact h _ (setRow_heap w g _ _ 32 _ hg) ⟨rfl, rfl, rfl, by simp, fun k _ hk => setRow_other w g k _ (fun e => hk (by rw [e]))⟩ (by simp)

theorem wpList_clear_one {w : World} {ops : Array Oper} {rest : List Oper} {o : Oper} {a : Act} {Q : Exit → Act → World → Prop} (hgd : o.guard = none) (x : Operand)
    (ho : o.op = .call { callee := .builtin .clear, args := #[x], argTypes := #[24] }) (g off c : Nat) (hx : a.eval x = .slice (some ⟨g, off, none⟩) 1 c)
    (cur : List Value) (hg : w.heap[g]? = some (.cells cur.toArray 32 (0, 0))) (hfit : off + 6 ≤ cur.length)
    (h : ∀ w', w'.heap[g]? = some (.cells (cur.take off ++ zeroAttr ++ cur.drop (off + 6)).toArray 32 (0, 0)) → w.grownBy w' (some g) → w'.heap.size = w.heap.size → wpList Yba.prog ops Q rest (a.put o.dst (.tuple #[])) w') :
    wpList Yba.prog ops Q (o :: rest) a w := by
  refine wpList_plain hgd fun K hK => ?_
  have hst := run_storeCells_at Yba.prog g off 32 zeroAttr 0 cur.toArray w hg (by simpa [zeroAttr] using hfit) (by intro v hv; simp [zeroAttr] at hv; rcases hv with rfl | rfl | rfl | rfl | rfl | rfl <;> rfl)
  simp only [Nat.add_zero] at hst
  have hz : (Builtin.zeroCells (Value.cells (.agg #[.string ⟨#[]⟩, .string ⟨#[]⟩, .bool false, .int .u32 0, .int .i64 0, .slice none 0 0])) 1).toList = zeroAttr := by kernel_rfl
  have hr : (Builtin.clear_ #[24] o.type #[.slice (some ⟨g, off, none⟩) 1 c]).run Yba.prog w = .ok (.tuple #[]) (w.setRow g (cur.take off ++ zeroAttr ++ cur.drop (off + zeroAttr.length)).toArray) := by
    simp [Builtin.clear_, run_underlying Yba.underlying24, hz]
    rw [hst]; simp
  unfold Oper.wp execOp
  simp only [ho, resolve, invoke, builtin, Sem.run_bind, Sem.run_pure, Result.andThen_ok, List.map_toArray, List.map_cons, List.map_nil, hx, hr]
  exact hK _ _ (h _ (setRow_heap w g _ _ 32 _ hg) ⟨rfl, rfl, rfl, by simp, fun k _ hk => setRow_other w g k _ (fun e => hk (by rw [e]))⟩ (by simp))

theorem news_drop (w : World) (A o : Nat) (C : List Value) (hA : w.heap[A]? = some (.cells C.toArray 32 (0, 0))) : ∀ t u, (C.drop o)[t]? = some u → w.cell? ((⟨A, o, none⟩ : Addr).add t) = some u := by
  intro t u h
  have hadd : (⟨A, o, none⟩ : Addr).add t = ⟨A, o + t, none⟩ := by unfold Addr.add; split <;> simp_all
  rw [hadd, cell_of_row w A _ _ _ _ hA]
  simpa using h

theorem tail_eq (C C1 : List Value) (n j : Nat) (hj : j + 1 ≤ n) (hC : C.length = n * 6) (h : C1 = C.take (j * 6) ++ C.drop ((j + 1) * 6) ++ C.drop (j * 6 + (C.drop ((j + 1) * 6)).length)) :
    C1.take ((n - 1) * 6) ++ zeroAttr ++ C1.drop ((n - 1) * 6 + 6) = C.take (j * 6) ++ C.drop (j * 6 + 6) ++ zeroAttr := by
  have e1 : (C.take (j * 6) ++ C.drop ((j + 1) * 6)).length = (n - 1) * 6 := by
    simp only [List.length_append, List.length_take, List.length_drop, hC]; omega
  have e2 : C1.length = n * 6 := by
    rw [h]; simp only [List.length_append, List.length_take, List.length_drop, hC]; omega
  rw [List.drop_eq_nil_of_le (show C1.length ≤ (n - 1) * 6 + 6 by omega), h, ← e1, List.take_left]
  have e3 : (j + 1) * 6 = j * 6 + 6 := by omega
  rw [e3]; simp

set_option maxRecDepth 100000 in
set_option maxHeartbeats 1000000 in
theorem delete_mid (A n j : Nat) (C : List Value) (w : World) (hj : j + 1 < n) (hn : n ≤ 4096) (hC : C.length = n * 6) (h1 : ∀ u ∈ C, u.oneCell' = true) (hA : w.heap[A]? = some (.cells C.toArray 32 (0, 0))) :
    Calls Yba.prog 18 #[.slice (some ⟨A, 0, none⟩) n n, .int .i64 j, .int .i64 ((j : Int) + 1)] w fun e w' => e = .returned (.slice (some ⟨A, 0, none⟩) (n - 1) n) ∧
      w'.heap[A]? = some (.cells (C.take (j * 6) ++ C.drop (j * 6 + 6) ++ zeroAttr).toArray 32 (0, 0)) ∧ w.grownBy w' (some A) ∧ w'.heap.size = w.heap.size := by
  have hjI : (j : Int) < (n : Int) := by omega
  have hjJ : (j : Int) + 1 < (n : Int) := by omega
  have hN : 0 < n - (j + 1) := by omega
  have HC : Hid (C.length = n * 6) := hC
  have HA : Hid (w.heap[A]? = some (.cells C.toArray 32 (0, 0))) := hA
  have hjne : ((j : Int) == (j : Int) + 1) = false := by rw [beq_eq_false_iff_ne]; omega
  have hjn : j ≤ n := by omega
  have hj1 : j + 1 ≤ n := by omega
  have hne : ¬ n = j + 1 := by omega
  have hj2 : (0 : Int) ≤ (j : Int) + 1 ∧ (j : Int) + 1 ≤ (n : Int) := ⟨by omega, by omega⟩
  clear hC hA
  go_enter Yba.func18, Yba.ntmps18
  go_wp2
  go_region_law (refine step_append_row (by rfl) (.tmp 22) (.tmp 25) (by rfl) A j n (by rfl) ⟨A, (j + 1) * 6, none⟩ (n - (j + 1)) (n - (j + 1)) (by rfl) C (by exact HA.out) (C.drop ((j + 1) * 6)) (by rw [List.length_drop, HC.out]; omega) (news_drop _ A _ C (by exact HA.out)) (fun u hu => h1 u (List.mem_of_mem_drop hu)) (by omega) (by rw [List.length_drop, HC.out]; omega) ?_; intro w1 hA1 hg1 hs1)
  have eL : j + (n - (j + 1)) = n - 1 := by omega
  have eN : n - (n - 1) = 1 := by omega
  have hl1 : (C.take (j * 6) ++ C.drop ((j + 1) * 6) ++ C.drop (j * 6 + (C.drop ((j + 1) * 6)).length)).length = n * 6 := by
    simp only [List.length_append, List.length_take, List.length_drop, HC.out]; omega
  obtain ⟨C1, hC1⟩ : ∃ C1, C1 = C.take (j * 6) ++ C.drop ((j + 1) * 6) ++ C.drop (j * 6 + (C.drop ((j + 1) * 6)).length) := ⟨_, rfl⟩
  rw [← hC1] at hA1 hl1
  have H1 : Hid (C1 = C.take (j * 6) ++ C.drop ((j + 1) * 6) ++ C.drop (j * 6 + (C.drop ((j + 1) * 6)).length)) := hC1
  have HA1 : Hid (w1.heap[A]? = some (.cells C1.toArray 32 (0, 0))) := hA1
  have HL1 : Hid (C1.length = n * 6) := hl1
  have HS1 : Hid (w1.heap.size = w.heap.size) := hs1
  clear hC1 hA1 hl1 hs1
  go_wp2_with (first | (refine wpList_clear_one rfl (.tmp 31) rfl A ((n - 1) * 6) _ rfl C1 HA1.out (by rw [HL1.out]; omega) ?_; intro w2 hA2 hg2 hs2))
  go_ret
  have hg1' : w.grownBy w1 (some A) := ⟨hg1.os, hg1.tape, hg1.output, hg1.size, hg1.block⟩
  refine ⟨rfl, ?_, hg1'.trans hg2, by rw [hs2, HS1.out]⟩
  rw [hA2, tail_eq C C1 n j (by omega) HC.out H1.out]

set_option maxRecDepth 100000 in
set_option maxHeartbeats 1000000 in
theorem delete_end (A j : Nat) (C : List Value) (w : World) (hn : j + 1 ≤ 4096) (hC : C.length = (j + 1) * 6) (hA : w.heap[A]? = some (.cells C.toArray 32 (0, 0))) :
    Calls Yba.prog 18 #[.slice (some ⟨A, 0, none⟩) (j + 1) (j + 1), .int .i64 j, .int .i64 ((j : Int) + 1)] w fun e w' => e = .returned (.slice (some ⟨A, 0, none⟩) j (j + 1)) ∧
      w'.heap[A]? = some (.cells (C.take (j * 6) ++ C.drop (j * 6 + 6) ++ zeroAttr).toArray 32 (0, 0)) ∧ w.grownBy w' (some A) ∧ w'.heap.size = w.heap.size := by
  have HC : Hid (C.length = (j + 1) * 6) := hC
  have HA : Hid (w.heap[A]? = some (.cells C.toArray 32 (0, 0))) := hA
  have hjne : ((j : Int) == (j : Int) + 1) = false := by rw [beq_eq_false_iff_ne]; omega
  have hjn : j ≤ j + 1 := by omega
  have hj2 : (0 : Int) ≤ (j : Int) + 1 := by omega
  have hj3 : (j : Int) ≤ (j : Int) + 1 := by omega
  clear hC hA
  go_enter Yba.func18, Yba.ntmps18
  go_wp2
  go_region_law (refine step_append_row (by rfl) (.tmp 22) (.tmp 25) (by rfl) A j (j + 1) (by rfl) ⟨A, 0, none⟩ 0 0 (by rfl) C (by exact HA.out) [] rfl (by simp) (by simp) (by omega) (by rw [HC.out]; simp; omega) ?_; intro w1 hA1 hg1 hs1)
  have eN : j + 1 - j = 1 := by omega
  obtain ⟨C1, hC1⟩ : ∃ C1, C1 = C.take (j * 6) ++ [] ++ C.drop (j * 6 + ([] : List Value).length) := ⟨_, rfl⟩
  rw [← hC1] at hA1
  have hCC : C1 = C := by rw [hC1]; simp
  rw [hCC] at hA1
  have HA1 : Hid (w1.heap[A]? = some (.cells C.toArray 32 (0, 0))) := hA1
  have HS1 : Hid (w1.heap.size = w.heap.size) := hs1
  clear hC1 hA1 hs1 hCC
  go_wp2_with (first | (refine wpList_clear_one rfl (.tmp 31) rfl A (j * 6) _ rfl C HA1.out (by rw [HC.out]; omega) ?_; intro w2 hA2 hg2 hs2))
  go_ret
  have hg1' : w.grownBy w1 (some A) := ⟨hg1.os, hg1.tape, hg1.output, hg1.size, hg1.block⟩
  refine ⟨rfl, ?_, hg1'.trans hg2, by rw [hs2, HS1.out]⟩
  rw [hA2, List.drop_eq_nil_of_le (by rw [HC.out]; omega)]
  simp

end Go.Proofs.Ybulkdwzg
