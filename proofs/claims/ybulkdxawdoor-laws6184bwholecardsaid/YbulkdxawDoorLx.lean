/-
  THE LAW (3), WHOLE.
-/
import Derived.Test.YbulkdxawDoorLw
namespace Go.Proofs.YbulkdxawDoor
open Go.RowKit

theorem alloc_keeps {w : World} {b : Nat} {o : Obj} (h : w.heap[b]? = some o) (x : Obj) : (w.alloc x).heap[b]? = some o := (heap_alloc_old w x (row_lt h)).trans h

theorem iv0 (w : World) (D : Lk) (n : Nat) (L0 : Nat → Nat) (cb : CB w) : Iv w w.heap.size n D 0 (.slice none 0 0) L0 (((((w.alloc (.cells QC.toArray 31)).alloc (.cells QC.toArray 31)).alloc (.cells (TC (.slice none 0 0) (.slice none 0 0) none).toArray 41)).alloc (.cells (rowL (fun _ => .pointer none) 8).toArray 43)).alloc (.cells (rowL (fun _ => .pointer none) n).toArray 37)) := by
  have h0 : 0 < w.heap.size := World.block_lt_of_cell? w _ (cb 0 (by omega))
  obtain ⟨w1, h1⟩ : ∃ w1, w1 = w.alloc (.cells QC.toArray 31) := ⟨_, rfl⟩
  have z1 : w1.heap.size = w.heap.size + 1 := by rw [h1]; simp
  have a1 : w1.heap[w.heap.size]? = some (.cells QC.toArray 31 (0, 0)) := by rw [h1]; exact heap_alloc_new w _
  have b1 : Below w.heap.size w w1 := by rw [h1]; exact below_new w _
  rw [← h1]
  clear h1
  obtain ⟨w2, h2⟩ : ∃ w2, w2 = w1.alloc (.cells QC.toArray 31) := ⟨_, rfl⟩
  have z2 : w2.heap.size = w.heap.size + 2 := by rw [h2]; simp [z1]
  have a2 : w2.heap[w.heap.size + 1]? = some (.cells QC.toArray 31 (0, 0)) := by rw [h2, ← z1]; exact heap_alloc_new w1 _
  have a1 : w2.heap[w.heap.size]? = some (.cells QC.toArray 31 (0, 0)) := by rw [h2]; exact alloc_keeps a1 _
  have b2 : Below w.heap.size w w2 := by rw [h2]; exact b1.alloc (by omega) _
  rw [← h2]
  clear h2 b1
  obtain ⟨w3, h3⟩ : ∃ w3, w3 = w2.alloc (.cells (TC (.slice none 0 0) (.slice none 0 0) none).toArray 41) := ⟨_, rfl⟩
  have z3 : w3.heap.size = w.heap.size + 3 := by rw [h3]; simp [z2]
  have a3 : w3.heap[w.heap.size + 2]? = some (.cells (TC (.slice none 0 0) (.slice none 0 0) none).toArray 41 (0, 0)) := by rw [h3, ← z2]; exact heap_alloc_new w2 _
  have a2 : w3.heap[w.heap.size + 1]? = some (.cells QC.toArray 31 (0, 0)) := by rw [h3]; exact alloc_keeps a2 _
  have a1 : w3.heap[w.heap.size]? = some (.cells QC.toArray 31 (0, 0)) := by rw [h3]; exact alloc_keeps a1 _
  have b3 : Below w.heap.size w w3 := by rw [h3]; exact b2.alloc (by omega) _
  rw [← h3]
  clear h3 b2
  obtain ⟨w4, h4⟩ : ∃ w4, w4 = w3.alloc (.cells (rowL (fun _ => .pointer none) 8).toArray 43) := ⟨_, rfl⟩
  have z4 : w4.heap.size = w.heap.size + 4 := by rw [h4]; simp [z3]
  have a4 : RW w4 (w.heap.size + 3) 43 (fun _ => .pointer none) 8 := by rw [h4, ← z3]; exact rw_new w3 _ _ _
  have a3 : w4.heap[w.heap.size + 2]? = some (.cells (TC (.slice none 0 0) (.slice none 0 0) none).toArray 41 (0, 0)) := by rw [h4]; exact alloc_keeps a3 _
  have a2 : w4.heap[w.heap.size + 1]? = some (.cells QC.toArray 31 (0, 0)) := by rw [h4]; exact alloc_keeps a2 _
  have a1 : w4.heap[w.heap.size]? = some (.cells QC.toArray 31 (0, 0)) := by rw [h4]; exact alloc_keeps a1 _
  have b4 : Below w.heap.size w w4 := by rw [h4]; exact b3.alloc (by omega) _
  rw [← h4]
  clear h4 b3
  have a5 : RW (w4.alloc (.cells (rowL (fun _ => .pointer none) n).toArray 37)) (w.heap.size + 4) 37 (fun _ => .pointer none) n := by rw [← z4]; exact rw_new w4 _ _ _
  have b5 : Below w.heap.size w (w4.alloc (.cells (rowL (fun _ => .pointer none) n).toArray 37)) := b4.alloc (by omega) _
  have a4' : RW (w4.alloc (.cells (rowL (fun _ => .pointer none) n).toArray 37)) (w.heap.size + 3) 43 (fun _ => .pointer none) 8 := alloc_keeps a4 _
  refine ⟨fun j hj => (out_below b5).cell (cb j hj) (fun f => f), fun i hi => absurd hi (by omega), a5.congr (fun j _ => by simp), a4'.congr (fun j _ => by simp [hd]), alloc_keeps a3 _, alloc_keeps a1 _, alloc_keeps a2 _, fun i j _ hj => absurd hj (by omega), fun i hi => absurd hi (by omega), ⟨rfl, .inl ⟨rfl, rfl⟩⟩, fun i hi => absurd hi (by omega), b5, by simp [z4], h0⟩

set_option maxRecDepth 1000000 in
set_option maxHeartbeats 4000000 in
theorem law_long (hp m : Int) (a : Option Addr) (n cap : Nat) (of : Bool) (w : World) (hn : 65536 < n) (hn2 : n < 2 ^ 60) :
    Calls Ybad.prog 3 #[.int .u32 hp, .int .u8 m, .slice a n cap, .bool of] w fun e w' => e = .returned (.bool true) ∧ Below w.heap.size w w' := by
  have h1 : (65536 : Int) < (n : Int) := by omega
  go_enter Ybad.func3, Ybad.ntmps3
  go_wp2
  go_ret
  exact ⟨rfl, Below.refl _ _⟩

set_option maxRecDepth 1000000 in
set_option maxHeartbeats 4000000 in
theorem law_b (w : World) (D : Lk) (HH : Nat → Nat) (hHH : ∀ i, D.H i = HH i % 4096) (of : Bool) (a : Option Addr) (n cap hp m : Nat) (hn : n ≤ 65536) (hhp : hp < 4294967296) (hm : m < 256) (h32 : ∀ i, i < n → HH i < 4294967296)
    (cb : CB w) (ha : AR w a n D.M HH D.K) (haN : ∀ ad, a = some ad → ad.block < w.heap.size) :
    Calls Ybad.prog 3 #[.int .u32 hp, .int .u8 m, .slice a n cap, .bool of] w fun e w' => e = .returned (.bool true) ∧ Below w.heap.size w w' := by
  obtain ⟨TT, hT⟩ : ∃ TT, TT = tl 7 (Ybad.f3.body.getD .skip) := ⟨_, rfl⟩
  have HIV : Hid (Iv w w.heap.size n D 0 (.slice none 0 0) (fun _ => 0) (((((w.alloc (.cells QC.toArray 31)).alloc (.cells QC.toArray 31)).alloc (.cells (TC (.slice none 0 0) (.slice none 0 0) none).toArray 41)).alloc (.cells (rowL (fun _ => .pointer none) 8).toArray 43)).alloc (.cells (rowL (fun _ => .pointer none) n).toArray 37))) := iv0 w D n _ cb
  have hnI : (n : Int) ≤ 65536 := by omega
  have hmk := mk33 n (by omega)
  have HA : Hid (AR w a n D.M HH D.K) := ha
  have H1 : Hid (∀ i, D.H i = HH i % 4096) := hHH
  have H2 : Hid (∀ i, i < n → HH i < 4294967296) := h32
  have H3 : Hid (∀ ad, a = some ad → ad.block < w.heap.size) := haN
  clear cb ha haN hHH h32
  go_enter Ybad.func3, Ybad.ntmps3
  refine split7 TT hT.symm ?_
  replace hT : Hid (TT = tl 7 (Ybad.f3.body.getD .skip)) := hT
  go_wp2
  rw [hT.out]
  exact tail_a w _ w.heap.size D HH H1.out of a n cap hp m (fun _ => 0) rfl (by omega) hhp hm H2.out HIV.out HA.out H3.out

end Go.Proofs.YbulkdxawDoor
