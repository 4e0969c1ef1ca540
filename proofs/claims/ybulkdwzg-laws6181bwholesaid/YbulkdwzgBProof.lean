/-
  'Rows.LawS6181BWholeSaid', from the walk (YbulkdwzgLe): the arguments opened.
-/
import Derived.Test.YbulkdwzgLe
import Derived.ProofKit
import Derived.OpenShut
import Derived.SizedLaws
import Derived.Carry
import Derived.Deep.Slices
namespace Go.Proofs.Ybulkdwzg.lawB
open Go.ChangeShapes Go.WideShapes Go.ChangeAt Go.RowKit Go.Deep

theorem own : ownKnob Yba.prog.godebug = none := by kernel_rfl
theorem laidOut : laidOutB Yba.prog = true := by kernel_rfl
theorem cells55 : Yba.prog.cellsOf 55 = 2 := by kernel_rfl
theorem cells3 : Yba.prog.cellsOf 3 = 1 := by kernel_rfl
theorem cells5 : Yba.prog.cellsOf 5 = 1 := by kernel_rfl

theorem addp (b off j : Nat) : (⟨b, off, none⟩ : Addr).add j = ⟨b, off + j, none⟩ := by unfold Addr.add; split <;> simp_all

set_option maxRecDepth 100000 in
set_option maxHeartbeats 400000 in
theorem law_out (ia wa : Option Addr) (n ic nw wwc : Nat) (w : World) (h : 4096 < n ∨ 1048576 < nw) :
    Calls Yba.prog 4 #[.slice ia n ic, .slice wa nw wwc] w fun e w' => e = .returned (.bool true) ∧ Below w.heap.size w w' := by
  by_cases h1 : 4096 < n
  · have h2 : (4096 : Int) < (n : Int) := by omega
    go_enter Yba.func4, Yba.ntmps4
    go_wp2
    go_ret
    exact ⟨rfl, (Below.refl _ w).alloc (Nat.le_refl _) _⟩
  · have h2 : ¬ (4096 : Int) < (n : Int) := by omega
    have h3 : (1048576 : Int) < (nw : Int) := by omega
    go_enter Yba.func4, Yba.ntmps4
    go_wp2
    go_ret
    exact ⟨rfl, (Below.refl _ w).alloc (Nat.le_refl _) _⟩

set_option maxRecDepth 1000000 in
/-- The block of a slice is there. -/
theorem slice_at {W : World} {base t e : Nat} {a : Addr} {len cap : Nat} (ht : Yba.prog.underlying t = some (.slice e)) (h : Value.okWide Yba.prog W .any base t (.slice (some a) len cap)) : a.block < W.heap.size := by
  simp only [Value.okWide, ht, Cell.okWide, Cell.ok] at h
  obtain ⟨_, _, row, n, hsh, _⟩ := h.2.2
  rcases Nat.lt_or_ge a.block W.heap.size with h1 | h1
  · exact h1
  · simp [World.shape?, Array.getElem?_eq_none h1] at hsh

/-- What the bytes' slice holds. -/
theorem open_by {H : Type} {enc : TypeId × Value → H} {W : World} {a0 : Option Addr} {len cap : Nat} {d : DataW H} {p : List MemPlace} (h : DataW.Trod enc Yba.prog W 0 (fun _ => true) true 52 (.slice a0 len cap) d p) :
    ∃ Z : Nat → Nat, BY W a0 len Z ∧ ∀ j, j < len → Z j < 256 := by
  obtain ⟨fuel, hf⟩ := h
  rcases open_ints Yba.underlying52 Yba.underlying5 cells5 hf with ⟨hcs, hx⟩ | ⟨a, len', cap', zs, hcs, _, hl, hm2, hz, hx, hcell, hwf⟩
  · simp [Value.cells] at hcs
    obtain ⟨rfl, rfl, rfl⟩ := hcs
    exact ⟨fun _ => 0, fun h => absurd h (by omega), fun j hj => absurd hj (by omega)⟩
  · simp [Value.cells] at hcs
    obtain ⟨rfl, rfl, rfl⟩ := hcs
    simp only [if_true] at hz
    have hb8 : ∀ j, j < len → 0 ≤ zs.getD j 0 ∧ zs.getD j 0 < 256 := fun j hj => by
      have := bounds_u8 (hwf (zs.getD j 0) (by
        have : j < zs.length := by omega
        simp [List.getD, List.getElem?_eq_getElem this]))
      omega
    refine ⟨fun j => (zs.getD j 0).toNat, fun h0 => ?_, fun j hj => ?_⟩
    · obtain ⟨b, off, spot⟩ := a
      have hspot : spot = none := by simpa [Addr.add] using World.cell?_spot (hcell 0 (by omega))
      subst hspot
      refine ⟨b, off, rfl, fun j hj => ?_⟩
      rw [← addp, hcell j (by omega)]
      show some (Value.int .u8 (zs.getD j 0)) = some (Value.int .u8 (((zs.getD j 0).toNat : Nat) : Int))
      rw [Int.toNat_of_nonneg (hb8 j hj).1]
    · have := hb8 j hj
      show (zs.getD j 0).toNat < 256
      omega

theorem len2 {α : Type} {l : List α} (h : l.length = 2) : ∃ a b, l = [a, b] := by
  match l, h with
  | [a, b], _ => exact ⟨a, b, rfl⟩

/-- One pair, opened. -/
theorem open_pr {H : Type} {enc : TypeId × Value → H} {W : World} {n : Nat} {cs : List Value} {D : DataW H} {Pl : List MemPlace} (h : DataW.trod enc Yba.prog W 0 (fun _ => true) true n 55 cs = some (D, Pl)) :
    ∃ x : Pr, cs = [.int .i64 x.1, .int .i64 x.2] := by
  obtain ⟨xs, m, _, hx, hl, hxl, hf⟩ := DataW.trod_struct Yba.underlying55 h
  rw [cells55] at hl
  obtain ⟨y0, y1, rfl⟩ := len2 hxl
  obtain ⟨v0, v1, rfl⟩ := len2 hl
  have g0 : DataW.trod enc Yba.prog W 0 (fun _ => true) true m 3 (([v0, v1].drop 0).take (Yba.prog.cellsOf 3)) = some y0 := hf 0 _ rfl
  have g1 : DataW.trod enc Yba.prog W 0 (fun _ => true) true m 3 (([v0, v1].drop 1).take (Yba.prog.cellsOf 3)) = some y1 := hf 1 _ rfl
  rw [cells3] at g0 g1
  replace g0 : DataW.trod enc Yba.prog W 0 (fun _ => true) true m 3 [v0] = some y0 := g0
  replace g1 : DataW.trod enc Yba.prog W 0 (fun _ => true) true m 3 [v1] = some y1 := g1
  obtain ⟨a, e0, rfl, _⟩ := DataW.trod_int Yba.underlying3 g0
  obtain ⟨b, e1, rfl, _⟩ := DataW.trod_int Yba.underlying3 g1
  simp only [List.cons.injEq, and_true] at e0 e1
  subst e0 e1
  exact ⟨(a, b), rfl⟩

/-- What the pairs' slice holds. -/
theorem open_in {H : Type} {enc : TypeId × Value → H} {W : World} {a0 : Option Addr} {len cap : Nat} {d : DataW H} {p : List MemPlace} (h : DataW.Trod enc Yba.prog W 0 (fun _ => true) true 51 (.slice a0 len cap) d p) :
    ∃ I J : Nat → Int, IN W a0 len I J := by
  obtain ⟨fuel, hf⟩ := h
  rcases open_slice Yba.underlying51 hf with ⟨hcs, hx⟩ | ⟨a, len', cap', m, n, D, Pl, hcs, _, hl, hm, hmm, hx, hcell⟩
  · simp [Value.cells] at hcs
    obtain ⟨rfl, rfl, rfl⟩ := hcs
    exact ⟨fun _ => 0, fun _ => 0, fun h => absurd h (by omega)⟩
  · simp [Value.cells] at hcs
    obtain ⟨rfl, rfl, rfl⟩ := hcs
    simp only [if_true] at hmm
    subst hmm
    rw [cells55] at hcell
    have each : ∀ i, i < len → ∃ x : Pr, W.cell? ((a.add (i * 2)).add 0) = some (.int .i64 x.1) ∧ W.cell? ((a.add (i * 2)).add 1) = some (.int .i64 x.2) := by
      intro i hi
      obtain ⟨cs', c1, c2⟩ := hcell i (by omega)
      obtain ⟨_, hlen2, hcc⟩ := World.cells?_some c1
      obtain ⟨x, rfl⟩ := open_pr c2
      exact ⟨x, by rw [hcc 0 (by omega)]; rfl, by rw [hcc 1 (by omega)]; rfl⟩
    obtain ⟨X, hX⟩ := choose_lt (α := Pr) each
    refine ⟨fun k => (X k).1, fun k => (X k).2, fun h0 => ?_⟩
    obtain ⟨b, off, spot⟩ := a
    have hspot : spot = none := by
      have := (hX 0 h0).1
      simpa [Addr.add] using World.cell?_spot this
    subst hspot
    refine ⟨b, off, rfl, ?_, fun k hk => ?_⟩
    · have := (hX 0 h0).1
      rw [addp, addp] at this
      exact World.block_lt_of_cell? W _ this
    · have := hX k hk
      rw [addp, addp, addp] at this
      exact this

set_option maxHeartbeats 1000000 in
set_option maxRecDepth 100000 in
theorem lifted (os : Os) (started : os.Started) (H : Type) (enc : TypeId × Value → H) :
    ReturnsInHanded {} Yba.checked os 4 .any (Rows.lawS6181BWholeSpec.pre6 enc Yba.prog Yba.f4 Rows.lawS6181BWholeRow.domain false) (Rows.lawS6181BWholeSpec.post enc Yba.prog Yba.f4 false true false false) := by
  refine returnsInHanded_of_change (C := Yba.checked) own started (by kernel_rfl) Yba.func4
    (ChangeSpec.witness6 (enc := enc) (C := Yba.checked) false ⟨#[], #[.slice none 0 0, .slice none 0 0], []⟩ 8 (by kernel_rfl) (by kernel_rfl) (by kernel_rfl) (by kernel_rfl)) ?_
  intro W base args ds gs before hval0 hW _ _
  have hval : ∀ (j : Nat) t v, Yba.f4.params[j]? = some t → args[j]? = some v → Value.okWide Yba.prog W .any base t v := hval0
  have hW' := hW
  obtain ⟨p, q, hA0, hV, rfl, hfz, hnd⟩ := hW
  have hA : DataW.TrodAll enc Yba.prog W 0 (fun _ => true) true Yba.f4.params.toList args.toList ds p := hA0
  rw [Yba.params4] at hA hval
  obtain ⟨v0, v1, d0, d1, p0, p1, rfl, rfl, rfl, h0, h1⟩ := trodAll_two hA
  obtain ⟨rfl, rfl⟩ := trodVars_none hV
  obtain ⟨ia, n, ic, rfl⟩ := okWide_slice Yba.underlying51 (hval 0 51 v0 rfl rfl)
  obtain ⟨wa, nw, wc, rfl⟩ := okWide_slice Yba.underlying52 (hval 1 52 v1 rfl rfl)
  have hwa : ∀ ad, wa = some ad → ad.block < W.heap.size := fun ad e => slice_at Yba.underlying52 (e ▸ hval 1 52 _ rfl rfl)
  clear hA0 hval0
  have hlt : ∀ x ∈ p0 ++ p1, x.block < W.heap.size := fun x hx => hW'.lt x (by simpa using hx)
  have fin : ∀ (e : Ending) (W' : World), (e = .returned (.bool true) ∧ Below W.heap.size W W') → ∃ v, e = .returned v ∧
      Rows.lawS6181BWholeSpec.post enc Yba.prog Yba.f4 false true false false W #[.slice ia n ic, .slice wa nw wc] v W' := by
    rintro e W' ⟨rfl, hb⟩
    refine ⟨_, rfl, _, _, _, [], p0 ++ p1, [], hW', ?_, ?_, rfl, hb.frame _, fun h => by cases h⟩
    · exact trodAll_mk1 (shut_bool Yba.underlying4 _)
    · exact trodAll_mk2 (Below.trod laidOut (by kernel_rfl) (of_decide_eq_true (by kernel_rfl)) h0 hb (fun x hx => hlt x (by simp [hx]))) (Below.trod laidOut (by kernel_rfl) (of_decide_eq_true (by kernel_rfl)) h1 hb (fun x hx => hlt x (by simp [hx])))
  by_cases hL : 4096 < n ∨ 1048576 < nw
  · exact (law_out ia wa n ic nw wc W hL).mono fin
  · obtain ⟨I, J, hin⟩ := open_in h0
    obtain ⟨Z, hby, hZ⟩ := open_by h1
    exact (law_h W ia wa n ic nw wc I J Z hin hby hZ hwa (by omega) (by omega)).mono fin

theorem over : Rows.lawS6181BWholeRow.holds Yba.pinned (OpenSpec.ofChange Rows.lawS6181BWholeSpec) :=
  OpenClaim.holds_of_wide 4 Yba.f4 rfl rfl rfl rfl rfl rfl rfl ⟨rfl, rfl, rfl, rfl, rfl⟩ rfl rfl rfl rfl rfl (by kernel_rfl) Yba.func4 (by kernel_rfl)
    (of_decide_eq_true (by kernel_rfl)) (by unfold Func.isWrapper; first | (rw [if_pos (by decide +kernel)]; kernel_rfl) | (rw [if_neg (by decide +kernel)]; exact ⟨rfl, rfl⟩))
    (fun os started H enc _ => lifted os started H enc)

theorem proved : Rows.LawS6181BWholeSaid := over
#print axioms proved

end Go.Proofs.Ybulkdwzg.lawB
