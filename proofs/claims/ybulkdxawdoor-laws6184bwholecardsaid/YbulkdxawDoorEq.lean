/-
  A lock is equal to itself; a pointer to a lock is equal to itself.
-/
import Derived.Test.YbulkdxawDoorWe
import Derived.Laws.StructEq
import Derived.ChangeKeysEq
import Derived.Deep.MidRow
namespace Go.Proofs.YbulkdxawDoor
open Go.RowKit

theorem info49 : (Ybad.prog.info? 49).map (·.size) = some 23 := by kernel_rfl
theorem eqPtr (d : Nat) (t te : TypeId) (hp : Ybad.prog.underlying t = some (.pointer te)) (hte : (Ybad.prog.info? te).isSome = true) (p : Option Addr) (w : World) : (Op.equalIn (d + 1) t (.pointer p) (.pointer p)).run Ybad.prog w = .ok true w := by
  obtain ⟨j, hj⟩ := Option.isSome_iff_exists.1 hte
  cases p with
  | none => simp [Op.equalIn, run_underlying hp]
  | some a => simp [Op.equalIn, run_underlying hp, sizeOf, typeInfo, hj, run_sameAddr_same]
theorem i49 : (Ybad.prog.info? 49).isSome = true := by kernel_rfl
theorem i31 : (Ybad.prog.info? 31).isSome = true := by kernel_rfl
theorem i41 : (Ybad.prog.info? 41).isSome = true := by kernel_rfl
theorem neq37 (p : Option Addr) (w : World) : (binOp .neq 37 (.pointer p) (.pointer p)).run Ybad.prog w = .ok (.bool false) w := by
  simp only [binOp]
  simp [Op.equal, Op.maxDepth, eqPtr 9999 37 49 Ybad.underlying37 i49]

theorem eqItems_same (d : Nat) (e : TypeId) (c : Nat) (xs : Array Value) (w : World) : ∀ is : List Nat, (∀ i ∈ is, ∃ v, (part e xs (i * c)).run Ybad.prog w = .ok v w ∧ (Op.equalIn d e v v).run Ybad.prog w = .ok true w) → (Op.eqItems d e c xs xs is).run Ybad.prog w = .ok true w
  | [], _ => by simp [Op.eqItems]
  | i :: is, h => by
    obtain ⟨v, h1, h2⟩ := h i (by simp)
    have ih := eqItems_same d e c xs w is (fun j hj => h j (by simp [hj]))
    simp [Op.eqItems, h1, h2, ih]

theorem eqF_nil (w : World) (d : Nat) (xs : Array Value) : (Op.eqFields d xs xs []).run Ybad.prog w = .ok true w := by simp [Op.eqFields]
theorem eqF_step (w : World) {d : Nat} {xs : Array Value} {f : Field} {fs : List Field} {v : Value} (hn : f.name ≠ "_") (h1 : (part f.type xs f.offset).run Ybad.prog w = .ok v w) (h2 : (Op.equalIn d f.type v v).run Ybad.prog w = .ok true w) (h3 : (Op.eqFields d xs xs fs).run Ybad.prog w = .ok true w) : (Op.eqFields d xs xs (f :: fs)).run Ybad.prog w = .ok true w := by
  simp [Op.eqFields, hn, h1, h2, h3]
theorem len8 {α : Type} {l : List α} (h : l.length = 8) : ∃ a b c d e f g i, l = [a, b, c, d, e, f, g, i] := by
  match l, h with
  | [a, b, c, d, e, f, g, i], _ => exact ⟨a, b, c, d, e, f, g, i, rfl⟩

theorem eqArr (d : Nat) (f : Nat → Int) (w : World) : (Op.equalIn (d + 1 + 1) 47 (.agg ((List.range 16).map fun j => .int .u64 (f j)).toArray) (.agg ((List.range 16).map fun j => .int .u64 (f j)).toArray)).run Ybad.prog w = .ok true w := by
  have hu : Ybad.prog.underlying 47 = some (.array 16 29) := by kernel_rfl
  obtain ⟨i, hi⟩ := Option.isSome_iff_exists.1 (show (Ybad.prog.info? 29).isSome = true by kernel_rfl)
  have hc : Ybad.prog.cellsOf 29 = 1 := by kernel_rfl
  rw [run_equalIn_array w (d + 1) _ _ hu hi, hc]
  refine eqItems_same (d + 1) 29 1 _ w _ fun j hj => ?_
  have hj' := List.mem_range.1 hj
  refine ⟨.int .u64 (f j), run_part_plain w (show Ybad.prog.plainKey 29 = true by kernel_rfl) (by simp [hj']), ?_⟩
  rw [run_equalIn_int w d 29 .u64 .u64 _ _ Ybad.underlying29]
  simp

theorem ne49 (T Q : Nat) (nx : Option Addr) (i h m : Nat) (w : World) : (binOp .neq 49 (.agg (lkC T Q nx i h m).toArray) (.agg (lkC T Q nx i h m).toArray)).run Ybad.prog w = .ok (.bool false) w := by
  have hS : Ybad.prog.underlying 49 = some (.struct (Ybad.prog.fieldsOf 49)) := by kernel_rfl
  have hp : Ybad.prog.stoodInHeld 49 = false := by kernel_rfl
  obtain ⟨X, hX⟩ : ∃ X, X = (lkC T Q nx i h m).toArray := ⟨_, rfl⟩
  have p0 : (part 32 (lkC T Q nx i h m).toArray 0).run Ybad.prog w = .ok (.pointer (some ⟨T, 0, none⟩)) w := by kernel_rfl
  have p1 : (part 24 (lkC T Q nx i h m).toArray 1).run Ybad.prog w = .ok (.pointer (some ⟨Q, 0, none⟩)) w := by kernel_rfl
  have p2 : (part 37 (lkC T Q nx i h m).toArray 2).run Ybad.prog w = .ok (.pointer nx) w := by kernel_rfl
  have p3 : (part 29 (lkC T Q nx i h m).toArray 3).run Ybad.prog w = .ok (.int .u64 (i : Int)) w := by kernel_rfl
  have p4 : (part 22 (lkC T Q nx i h m).toArray 4).run Ybad.prog w = .ok (.int .u32 ((h / 1024 : Nat) : Int)) w := by kernel_rfl
  have p5 : (part 22 (lkC T Q nx i h m).toArray 5).run Ybad.prog w = .ok (.int .u32 0) w := by kernel_rfl
  have p6 : (part 46 (lkC T Q nx i h m).toArray 6).run Ybad.prog w = .ok (.int .u8 (m : Int)) w := by kernel_rfl
  have p7 : (part 47 (lkC T Q nx i h m).toArray 7).run Ybad.prog w = .ok (.agg ((List.range 16).map fun j => .int .u64 ((if j = h % 1024 / 64 then 2 ^ (h % 64) else 0 : Nat) : Int)).toArray) w := by kernel_rfl
  have e7 : (Op.equalIn 9999 47 (.agg ((List.range 16).map fun j => .int .u64 ((if j = h % 1024 / 64 then 2 ^ (h % 64) else 0 : Nat) : Int)).toArray) (.agg ((List.range 16).map fun j => .int .u64 ((if j = h % 1024 / 64 then 2 ^ (h % 64) else 0 : Nat) : Int)).toArray)).run Ybad.prog w = .ok true w := eqArr 9997 (fun j => ((if j = h % 1024 / 64 then 2 ^ (h % 64) else 0 : Nat) : Int)) w
  have e0 : (Op.equalIn 9999 32 (.pointer (some ⟨T, 0, none⟩)) (.pointer (some ⟨T, 0, none⟩))).run Ybad.prog w = .ok true w := eqPtr 9998 32 41 Ybad.underlying32 i41 (some ⟨T, 0, none⟩) w
  have e1 : (Op.equalIn 9999 24 (.pointer (some ⟨Q, 0, none⟩)) (.pointer (some ⟨Q, 0, none⟩))).run Ybad.prog w = .ok true w := eqPtr 9998 24 31 Ybad.underlying24 i31 (some ⟨Q, 0, none⟩) w
  have e2 : (Op.equalIn 9999 37 (.pointer nx) (.pointer nx)).run Ybad.prog w = .ok true w := eqPtr 9998 37 49 Ybad.underlying37 i49 nx w
  have e3 : (Op.equalIn 9999 29 (.int .u64 (i : Int)) (.int .u64 (i : Int))).run Ybad.prog w = .ok true w := by rw [run_equalIn_int w 9998 29 .u64 .u64 _ _ Ybad.underlying29]; simp
  have e4 : ∀ z : Int, (Op.equalIn 9999 22 (.int .u32 z) (.int .u32 z)).run Ybad.prog w = .ok true w := fun z => by rw [run_equalIn_int w 9998 22 .u32 .u32 _ _ Ybad.underlying22]; simp
  have e6 : (Op.equalIn 9999 46 (.int .u8 (m : Int)) (.int .u8 (m : Int))).run Ybad.prog w = .ok true w := by rw [run_equalIn_int w 9998 46 .u8 .u8 _ _ Ybad.underlying46]; simp
  rw [← hX] at p0 p1 p2 p3 p4 p5 p6 p7 ⊢
  clear hX
  rw [run_neq_struct, show (10000 : Nat) = 9999 + 1 from rfl, run_equalIn_agg w 9999 49 _ _ hS hp]
  have hf : (Ybad.prog.fieldsOf 49).toList.map (fun f => (f.name != "_", f.type, f.offset)) = [(true, 32, 0), (true, 24, 1), (true, 37, 2), (true, 29, 3), (true, 22, 4), (true, 22, 5), (true, 46, 6), (true, 47, 7)] := by kernel_rfl
  generalize (Ybad.prog.fieldsOf 49).toList = fs at hf
  obtain ⟨f0, f1, f2, f3, f4, f5, f6, f7, rfl⟩ := len8 (by have := congrArg List.length hf; simpa using this)
  generalize hA : ((List.range 16).map fun j => Value.int .u64 ((if j = h % 1024 / 64 then 2 ^ (h % 64) else 0 : Nat) : Int)).toArray = A at p7 e7
  simp only [List.map_cons, List.map_nil, List.cons.injEq, Prod.mk.injEq, bne_iff_ne, ne_eq, and_true] at hf
  obtain ⟨⟨n0, t0, o0⟩, ⟨n1, t1, o1⟩, ⟨n2, t2, o2⟩, ⟨n3, t3, o3⟩, ⟨n4, t4, o4⟩, ⟨n5, t5, o5⟩, ⟨n6, t6, o6⟩, ⟨n7, t7, o7⟩⟩ := hf
  have hall : (Op.eqFields 9999 X X [f0, f1, f2, f3, f4, f5, f6, f7]).run Ybad.prog w = .ok true w := by
    refine eqF_step w n0 (by rw [t0, o0]; exact p0) (by rw [t0]; exact e0) ?_
    refine eqF_step w n1 (by rw [t1, o1]; exact p1) (by rw [t1]; exact e1) ?_
    refine eqF_step w n2 (by rw [t2, o2]; exact p2) (by rw [t2]; exact e2) ?_
    refine eqF_step w n3 (by rw [t3, o3]; exact p3) (by rw [t3]; exact e3) ?_
    refine eqF_step w n4 (by rw [t4, o4]; exact p4) (by rw [t4]; exact e4 _) ?_
    refine eqF_step w n5 (by rw [t5, o5]; exact p5) (by rw [t5]; exact e4 _) ?_
    refine eqF_step w n6 (by rw [t6, o6]; exact p6) (by rw [t6]; exact e6) ?_
    refine eqF_step w n7 (by rw [t7, o7]; exact p7) (by rw [t7]; exact e7) ?_
    exact eqF_nil w 9999 X
  rw [hall]
  rfl

end Go.Proofs.YbulkdxawDoor
