/-
  LawS6184AWhole (3): two columns that bear one name alone are one.
-/
import Derived.Test.YbulkdxawFmtParts
namespace Go.Proofs.YbulkdxawFmt
open Go.RowKit Go.Extern.Stop Go.Stop Go.Extern

/-- A column that bears a name alone. -/
def colA (s : ByteArray) : Array Value := #[.string s, .int .u8 0, .bool false, .int .i64 0, .int .i64 0, .int .i64 0, .int .i64 0, .bool false, .bool false, .pointer none, .bool false, .bool false]

theorem eqStr (d : Nat) (w : World) (s : ByteArray) : (Op.equalIn (d + 1) 9 (.string s) (.string s)).run Ybaf.prog w = .ok true w := by
  simp [Op.equalIn, run_underlying Ybaf.underlying9]
  rw [beq_toListBytes]; simp

theorem len7 {α : Type} {l : List α} (h : l.length = 7) : ∃ a b c d e f g, l = [a, b, c, d, e, f, g] := by
  match l, h with
  | [a, b, c, d, e, f, g], _ => exact ⟨a, b, c, d, e, f, g, rfl⟩

theorem ne31 (w : World) (s : ByteArray) : (binOp .neq 31 (.agg (colA s)) (.agg (colA s))).run Ybaf.prog w = .ok (.bool false) w := by
  have hS : Ybaf.prog.underlying 31 = some (.struct (Ybaf.prog.fieldsOf 31)) := by kernel_rfl
  have hp : Ybaf.prog.stoodInHeld 31 = false := by kernel_rfl
  have p0 : (part 9 (colA s) 0).run Ybaf.prog w = .ok (.string s) w := by kernel_rfl
  have p1 : (part 28 (colA s) 1).run Ybaf.prog w = .ok (.agg #[.int .u8 0, .bool false, .int .i64 0, .int .i64 0, .int .i64 0, .int .i64 0]) w := by kernel_rfl
  have p7 : (part 4 (colA s) 7).run Ybaf.prog w = .ok (.bool false) w := by kernel_rfl
  have p8 : (part 4 (colA s) 8).run Ybaf.prog w = .ok (.bool false) w := by kernel_rfl
  have p9 : (part 29 (colA s) 9).run Ybaf.prog w = .ok (.pointer none) w := by kernel_rfl
  have p10 : (part 4 (colA s) 10).run Ybaf.prog w = .ok (.bool false) w := by kernel_rfl
  have p11 : (part 4 (colA s) 11).run Ybaf.prog w = .ok (.bool false) w := by kernel_rfl
  have e0 : (Op.equalIn 9999 9 (.string s) (.string s)).run Ybaf.prog w = .ok true w := eqStr 9998 w s
  have e1 : (Op.equalIn 9999 28 (.agg #[.int .u8 0, .bool false, .int .i64 0, .int .i64 0, .int .i64 0, .int .i64 0]) (.agg #[.int .u8 0, .bool false, .int .i64 0, .int .i64 0, .int .i64 0, .int .i64 0])).run Ybaf.prog w = .ok true w := by kernel_rfl
  have e4 : (Op.equalIn 9999 4 (.bool false) (.bool false)).run Ybaf.prog w = .ok true w := by kernel_rfl
  have e9 : (Op.equalIn 9999 29 (.pointer none) (.pointer none)).run Ybaf.prog w = .ok true w := by kernel_rfl
  rw [run_neq_struct, show (10000 : Nat) = 9999 + 1 from rfl, run_equalIn_agg w 9999 31 _ _ hS hp]
  have hf : (Ybaf.prog.fieldsOf 31).toList.map (fun f => (f.name != "_", f.type, f.offset)) = [(true, 9, 0), (true, 28, 1), (true, 4, 7), (true, 4, 8), (true, 29, 9), (true, 4, 10), (true, 4, 11)] := by kernel_rfl
  generalize (Ybaf.prog.fieldsOf 31).toList = fs at hf
  obtain ⟨f0, f1, f2, f3, f4, f5, f6, rfl⟩ := len7 (by have := congrArg List.length hf; simpa using this)
  · simp only [List.map_cons, List.map_nil, List.cons.injEq, Prod.mk.injEq, bne_iff_ne, ne_eq, and_true] at hf
    obtain ⟨⟨n0, t0, o0⟩, ⟨n1, t1, o1⟩, ⟨n2, t2, o2⟩, ⟨n3, t3, o3⟩, ⟨n4, t4, o4⟩, ⟨n5, t5, o5⟩, ⟨n6, t6, o6⟩⟩ := hf
    simp [Op.eqFields, n0, n1, n2, n3, n4, n5, n6, t0, t1, t2, t3, t4, t5, t6, o0, o1, o2, o3, o4, o5, o6, p0, p1, p7, p8, p9, p10, p11, e0, e1, e4, e9]

end Go.Proofs.YbulkdxawFmt
