/-
  WALKS of setPrimaryKey (4) and zzs6184aeq (5): contracts for LawS6184AWhole.
-/
import Derived.Test.YbulkdxawFmtRows
import Derived.Test.YbulkdxawFmtFmt
import Derived.WalkKit
import Derived.WalkSpells
import Derived.WalkLawsBesides
import Derived.Deep.QuietTactic
import Derived.BigQuiet
import Derived.Laws.StructEq
namespace Go.Proofs.YbulkdxawFmt
open Go.RowKit Go.Extern.Stop Go.Stop Go.Extern

theorem eq22 (w : World) (a : Option Addr) (n c : Nat) : (binOp .eql 22 (.slice a n c) (.slice none 0 0)).run Ybaf.prog w = .ok (.bool a.isNone) w :=
  Lib.run_eql_slice_nil w 22 33 a n c 0 0 Ybaf.underlying22
theorem ne22 (w : World) (a : Option Addr) (n c : Nat) : (binOp .neq 22 (.slice a n c) (.slice none 0 0)).run Ybaf.prog w = .ok (.bool (!a.isNone)) w :=
  run_neq_slice_nil_any w 22 33 a n c 0 0 Ybaf.underlying22

/-- setPrimaryKey where there is a key: an error, the table as it was. -/
theorem set_no (F : Interp) (E : Nat) (nm : ByteArray) (ka : Addr) (kl kc : Nat) (pv : Value) (w : World) (hF : F.answers w.tape) (h0 : w.cell? ⟨E, 0, none⟩ = some (.string nm)) (h2 : w.cell? ⟨E, 2, none⟩ = some (.slice (some ka) kl kc)) :
    Calls Ybaf.prog 4 #[.pointer (some ⟨E, 0, none⟩), pv] w fun e w' => (∃ t v, e = .returned (.iface t v)) ∧ Below w.heap.size w w' := by
  have hF' := answers_open hF
  have hn := ne22
  go_enter Ybaf.func4, Ybaf.ntmps4
  go_wp2
  go_ret
  exact ⟨⟨_, _, rfl⟩, (((Below.refl _ w).alloc (Nat.le_refl _) _).alloc (by simp) _).drew⟩

/-- .. where there is none: nil; the table holds the very slice. -/
theorem set_yes (E : Nat) (pa : Option Addr) (pl pc : Nat) (w : World) (h2 : w.cell? ⟨E, 2, none⟩ = some (.slice none 0 0)) (f2 : w.frozen? ⟨E, 2, none⟩ = false) :
    Calls Ybaf.prog 4 #[.pointer (some ⟨E, 0, none⟩), .slice pa pl pc] w fun e w' => e = .returned .nilIface ∧ w' = w.setCell ⟨E, 2, none⟩ (.slice pa pl pc) := by
  have hn := ne22
  go_enter Ybaf.func4, Ybaf.ntmps4
  go_wp2
  go_ret
  exact ⟨rfl, rfl⟩

theorem ne33 (w : World) (s : ByteArray) (i : Int) : (binOp .neq 33 (.agg #[.string s, .int .i64 i]) (.agg #[.string s, .int .i64 i])).run Ybaf.prog w = .ok (.bool false) w := by
  have hS : Ybaf.prog.underlying 33 = some (.struct (Ybaf.prog.fieldsOf 33)) := by kernel_rfl
  have hp : Ybaf.prog.stoodInHeld 33 = false := by kernel_rfl
  have u3 := Ybaf.underlying3
  have u9 := Ybaf.underlying9
  rw [run_neq_struct, show (10000 : Nat) = 9999 + 1 from rfl, run_equalIn_agg w 9999 33 _ _ hS hp]
  simp only [Program.fieldsOf, Ybaf.underlying33]
  go_simp

set_option maxHeartbeats 400000 in
theorem eq_zero (a b : Option Addr) (c d : Nat) (w : World) : Calls Ybaf.prog 5 #[.slice a 0 c, .slice b 0 d] w fun e w' => e = .returned (.bool true) ∧ ∃ q, w' = w.drewN q := by
  go_enter Ybaf.func5, Ybaf.ntmps5
  go_wp2
  refine wp_loop_rounds 1 ?_
  rw [rounds_succ]
  go_wp2
  go_ret
  exact ⟨rfl, 0, rfl⟩

set_option maxHeartbeats 400000 in
theorem eq_pos (b off b' off' len cap cap' : Nat) (S : Nat → ByteArray) (I : Nat → Int) (w : World) (hlen : len ≤ 1048576)
    (hc : ∀ j, j < len → w.cell? ⟨b, off + j * 2, none⟩ = some (.string (S j)) ∧ w.cell? ⟨b, off + j * 2 + 1, none⟩ = some (.int .i64 (I j)))
    (hc' : ∀ j, j < len → w.cell? ⟨b', off' + j * 2, none⟩ = some (.string (S j)) ∧ w.cell? ⟨b', off' + j * 2 + 1, none⟩ = some (.int .i64 (I j))) :
    Calls Ybaf.prog 5 #[.slice (some ⟨b, off, none⟩) len cap, .slice (some ⟨b', off', none⟩) len cap'] w fun e w' => e = .returned (.bool true) ∧ ∃ q, w' = w.drewN q := by
  have hne := ne33
  go_enter Ybaf.func5, Ybaf.ntmps5
  go_wp2
  go_loopw [13] (fun i wr => ∃ k : Nat, k ≤ len ∧ i = .int .i64 k ∧ ∃ q, wr = w.drewN q) (fun i _ => len - (intOf i).toNat)
  case atStart => exact ⟨0, Nat.zero_le _, rfl, 0, rfl⟩
  case round =>
    obtain ⟨k, hk, rfl, q, rfl⟩ := hrel
    by_cases hlt : k < len
    · obtain ⟨g1, g2⟩ := hc k hlt
      obtain ⟨g3, g4⟩ := hc' k hlt
      have hI : (k : Int) < (len : Int) := by omega
      clear hc hc'
      go_wp2
      go_quiet (fail)
      go_wp2
      go_roundw
      case rel => exact ⟨k + 1, by omega, by go_num, q + nq, by simp [World.drewN]⟩
      case measure => simp [intOf]; omega
    · go_wp2
      go_ret
      exact ⟨rfl, q, rfl⟩

/-- n key parts lie at a. -/
def KP (w : World) (a : Option Addr) (n : Nat) (S : Nat → ByteArray) (I : Nat → Int) : Prop :=
  0 < n → ∃ b off, a = some ⟨b, off, none⟩ ∧ ∀ j, j < n → w.cell? ⟨b, off + j * 2, none⟩ = some (.string (S j)) ∧ w.cell? ⟨b, off + j * 2 + 1, none⟩ = some (.int .i64 (I j))

theorem KP.later {w w' : World} {a : Option Addr} {n : Nat} {S : Nat → ByteArray} {I : Nat → Int} (h : KP w a n S I) (hb : Below w.heap.size w w') : KP w' a n S I := fun h0 => by
  obtain ⟨b, off, h1, h2⟩ := h h0
  exact ⟨b, off, h1, fun j hj => ⟨cell_later hb (h2 j hj).1, cell_later hb (h2 j hj).2⟩⟩

theorem eq_any (a b : Option Addr) (n c d : Nat) (S : Nat → ByteArray) (I : Nat → Int) (w : World) (hn : n ≤ 1048576) (ha : KP w a n S I) (hb : KP w b n S I) :
    Calls Ybaf.prog 5 #[.slice a n c, .slice b n d] w fun e w' => e = .returned (.bool true) ∧ ∃ q, w' = w.drewN q := by
  by_cases h0 : 0 < n
  · obtain ⟨b1, o1, rfl, h1⟩ := ha h0
    obtain ⟨b2, o2, rfl, h2⟩ := hb h0
    exact eq_pos b1 o1 b2 o2 n c d S I w hn h1 h2
  · obtain rfl : n = 0 := by omega
    exact eq_zero a b c d w

end Go.Proofs.YbulkdxawFmt
