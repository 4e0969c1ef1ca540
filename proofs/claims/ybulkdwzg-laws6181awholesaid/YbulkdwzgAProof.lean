/-
  'Rows.LawS6181AWholeSaid', from the walk (YbulkdwzgAw): the argument opened, element by element.
-/
import Derived.Test.YbulkdwzgAw
import Derived.ProofKit
import Derived.OpenShut
import Derived.SizedLaws
import Derived.Carry
import Derived.Deep.Slices
namespace Go.Proofs.Ybulkdwzg.lawA
open Go.ChangeShapes Go.WideShapes Go.ChangeAt Go.RowKit Go.Deep

theorem own : ownKnob Yba.prog.godebug = none := by kernel_rfl
theorem laidOut : laidOutB Yba.prog = true := by kernel_rfl
theorem cells28 : Yba.prog.cellsOf 28 = 6 := by kernel_rfl
theorem cells9 : Yba.prog.cellsOf 9 = 1 := by kernel_rfl
theorem cells4 : Yba.prog.cellsOf 4 = 1 := by kernel_rfl
theorem cells25 : Yba.prog.cellsOf 25 = 1 := by kernel_rfl
theorem cells3 : Yba.prog.cellsOf 3 = 1 := by kernel_rfl
theorem cells26 : Yba.prog.cellsOf 26 = 1 := by kernel_rfl
theorem bytes3 : Yba.prog.bytesOf 3 = 8 := by kernel_rfl

/-- The reach of one datum. -/
def Sz {H : Type} (t : TypeId) (d : DataW H) : Prop := ∀ n ∈ d.weights Yba.prog t, n ≤ reachBytes

theorem addp (b off j : Nat) : (⟨b, off, none⟩ : Addr).add j = ⟨b, off + j, none⟩ := by unfold Addr.add; split <;> simp_all

theorem weights_mem_all {H : Type} {e : TypeId} {n : Nat} : ∀ {l : List (DataW H)} {d : DataW H}, d ∈ l → n ∈ d.weights Yba.prog e → n ∈ DataW.weightsAll Yba.prog e l
  | [], _, h, _ => by simp at h
  | x :: l, d, h, hn => by
    simp only [DataW.weightsAll, List.mem_append]
    simp only [List.mem_cons] at h
    rcases h with rfl | h
    · exact .inl hn
    · exact .inr (weights_mem_all h hn)

set_option maxRecDepth 100000 in
set_option maxHeartbeats 400000 in
theorem law_out (a : Option Addr) (len cap : Nat) (jr : Int) (ix : Bool) (w : World) (h : len = 0 ∨ 4096 < len) :
    Calls Yba.prog 3 #[.slice a len cap, .int .u64 jr, .bool ix] w fun e w' => e = .returned (.bool true) ∧ Below w.heap.size w w' := by
  rcases h with rfl | h
  · go_enter Yba.func3, Yba.ntmps3
    go_wp2
    go_ret
    exact ⟨rfl, Below.refl _ _⟩
  · have h1 : ((len : Int) == 0) = false := by rw [beq_eq_false_iff_ne]; omega
    have h2 : (4096 : Int) < (len : Int) := by omega
    go_enter Yba.func3, Yba.ntmps3
    go_wp2
    go_ret
    exact ⟨rfl, Below.refl _ _⟩

theorem len6 {α : Type} {l : List α} (h : l.length = 6) : ∃ a b c d e f, l = [a, b, c, d, e, f] := by
  match l, h with
  | [a, b, c, d, e, f], _ => exact ⟨a, b, c, d, e, f, rfl⟩

/-- One element, opened. -/
theorem open_el {H : Type} {enc : TypeId × Value → H} {W : World} {n : Nat} {cs : List Value} {D : DataW H} {Pl : List MemPlace} (h : DataW.trod enc Yba.prog W 0 (fun _ => true) true n 28 cs = some (D, Pl)) (hs : Sz 28 D) :
    ∃ x : El, cs = x.cells ∧ x.s.size ≤ 140737488355000 ∧ WOK W x := by
  obtain ⟨xs, m, _, hx, hl, hxl, hf⟩ := DataW.trod_struct Yba.underlying28 h
  rw [cells28] at hl
  obtain ⟨y0, y1, y2, y3, y4, y5, rfl⟩ := len6 hxl
  obtain ⟨v0, v1, v2, v3, v4, v5, rfl⟩ := len6 hl
  · have g0 : DataW.trod enc Yba.prog W 0 (fun _ => true) true m 9 (([v0, v1, v2, v3, v4, v5].drop 0).take (Yba.prog.cellsOf 9)) = some y0 := hf 0 _ rfl
    have g1 : DataW.trod enc Yba.prog W 0 (fun _ => true) true m 9 (([v0, v1, v2, v3, v4, v5].drop 1).take (Yba.prog.cellsOf 9)) = some y1 := hf 1 _ rfl
    have g2 : DataW.trod enc Yba.prog W 0 (fun _ => true) true m 4 (([v0, v1, v2, v3, v4, v5].drop 2).take (Yba.prog.cellsOf 4)) = some y2 := hf 2 _ rfl
    have g3 : DataW.trod enc Yba.prog W 0 (fun _ => true) true m 25 (([v0, v1, v2, v3, v4, v5].drop 3).take (Yba.prog.cellsOf 25)) = some y3 := hf 3 _ rfl
    have g4 : DataW.trod enc Yba.prog W 0 (fun _ => true) true m 3 (([v0, v1, v2, v3, v4, v5].drop 4).take (Yba.prog.cellsOf 3)) = some y4 := hf 4 _ rfl
    have g5 : DataW.trod enc Yba.prog W 0 (fun _ => true) true m 26 (([v0, v1, v2, v3, v4, v5].drop 5).take (Yba.prog.cellsOf 26)) = some y5 := hf 5 _ rfl
    rw [cells9] at g0 g1
    rw [cells4] at g2
    rw [cells25] at g3
    rw [cells3] at g4
    rw [cells26] at g5
    replace g0 : DataW.trod enc Yba.prog W 0 (fun _ => true) true m 9 [v0] = some y0 := g0
    replace g1 : DataW.trod enc Yba.prog W 0 (fun _ => true) true m 9 [v1] = some y1 := g1
    replace g2 : DataW.trod enc Yba.prog W 0 (fun _ => true) true m 4 [v2] = some y2 := g2
    replace g3 : DataW.trod enc Yba.prog W 0 (fun _ => true) true m 25 [v3] = some y3 := g3
    replace g4 : DataW.trod enc Yba.prog W 0 (fun _ => true) true m 3 [v4] = some y4 := g4
    replace g5 : DataW.trod enc Yba.prog W 0 (fun _ => true) true m 26 [v5] = some y5 := g5
    obtain ⟨s, e0, rfl, _⟩ := DataW.trod_string Yba.underlying9 g0
    obtain ⟨v, e1, rfl, _⟩ := DataW.trod_string Yba.underlying9 g1
    obtain ⟨ab, e2, rfl⟩ := DataW.trod_bool Yba.underlying4 g2
    obtain ⟨mk, e3, rfl, _⟩ := DataW.trod_int Yba.underlying25 g3
    obtain ⟨fi, e4, rfl, _⟩ := DataW.trod_int Yba.underlying3 g4
    simp only [List.cons.injEq, and_true] at e0 e1 e2 e3 e4
    subst e0 e1 e2 e3 e4
    simp only [Prod.mk.injEq, List.map_cons, List.map_nil] at hx
    have hD := hx.1
    subst hD
    have hss : s.size ≤ 140737488355000 := by
      have : s.data.toList.length ≤ reachBytes := hs _ (by simp [DataW.weights, DataW.weightsEach, Yba.underlying28])
      have e : s.data.toList.length = s.size := rfl
      unfold reachBytes at this
      omega
    rcases open_ints Yba.underlying26 Yba.underlying3 cells3 g5 with ⟨hcs, _⟩ | ⟨a, len, cap, zs, hcs, _, hlc, hm, hz, hxx, hcell, _⟩
    · simp only [List.cons.injEq, and_true] at hcs
      subst hcs
      exact ⟨⟨s, v, ab, mk, fi, none, 0, 0, []⟩, rfl, hss, .inl ⟨rfl, rfl, rfl⟩⟩
    · simp only [List.cons.injEq, and_true] at hcs
      subst hcs
      subst hxx
      simp only [if_true] at hz
      refine ⟨⟨s, v, ab, mk, fi, some a, len, cap, zs.take len⟩, rfl, hss, .inr ⟨a, rfl, by simp; omega, ?_, ?_⟩⟩
      · have : ((lits (H := H) .i64 (zs.take len)).length + (lits (H := H) .i64 (zs.drop len)).length) * Yba.prog.bytesOf 3 ≤ reachBytes := hs _ (by simp [DataW.weights, DataW.weightsEach, Yba.underlying28, Yba.underlying26])
        rw [bytes3] at this
        simp [lits] at this
        unfold reachBytes at this
        show len * 8 ≤ _
        omega
      · intro j u hj
        have hjl : j < len := by
          have h1 := (List.getElem?_eq_some_iff.1 hj).1
          simp at h1; omega
        have hjz : j < zs.length := by omega
        rw [hcell j hjz]
        have hj2 : ((zs.take len).map (Value.int .i64))[j]? = some u := hj
        rw [List.getElem?_map, List.getElem?_take, if_pos hjl, List.getElem?_eq_getElem hjz] at hj2
        simp only [Option.map_some, Option.some.injEq] at hj2
        rw [← hj2]
        simp [hjz]

set_option maxHeartbeats 1000000 in
set_option maxRecDepth 100000 in
theorem lifted (os : Os) (started : os.Started) (H : Type) (enc : TypeId × Value → H) :
    ReturnsInHanded {} Yba.checked os 3 .any (Rows.lawS6181AWholeSpec.pre6 enc Yba.prog Yba.f3 Rows.lawS6181AWholeRow.domain false) (Rows.lawS6181AWholeSpec.post enc Yba.prog Yba.f3 false true false false) := by
  refine returnsInHanded_of_change_sized (C := Yba.checked) own started (by kernel_rfl) Yba.func3
    (ChangeSpec.witness6 (enc := enc) (C := Yba.checked) false ⟨#[], #[.slice none 0 0, .int .u64 0, .bool false], []⟩ 8 (by kernel_rfl) (by kernel_rfl) (by kernel_rfl) (by kernel_rfl)) ?_
  intro W base args ds gs before hval0 hW _ hsz0 _
  have hval : ∀ (j : Nat) t v, Yba.f3.params[j]? = some t → args[j]? = some v → Value.okWide Yba.prog W .any base t v := hval0
  have hsz : (DataW.weightsEach Yba.prog (Yba.f3.params.toList ++ Rows.lawS6181AWholeSpec.plain.varTypes Yba.prog) (ds ++ gs)).all (· ≤ reachBytes) = true := hsz0
  have hW' := hW
  obtain ⟨p, q, hA0, hV, rfl, hfz, hnd⟩ := hW
  have hA : DataW.TrodAll enc Yba.prog W 0 (fun _ => true) true Yba.f3.params.toList args.toList ds p := hA0
  rw [Yba.params3] at hA hval hsz
  obtain ⟨v0, v1, v2, d0, d1, d2, p0, p1, p2, rfl, rfl, rfl, h0, h1, h2⟩ := trodAll_three hA
  obtain ⟨rfl, rfl⟩ := trodVars_none hV
  have h0k := h0
  obtain ⟨jr, rfl, rfl, rfl, wj⟩ := open_int Yba.underlying23 (hval 1 23 v1 rfl rfl) h1
  obtain ⟨ix, rfl, rfl, rfl⟩ := open_bool Yba.underlying4 (hval 2 4 v2 rfl rfl) h2
  obtain ⟨a0, len, cap, rfl⟩ := okWide_slice Yba.underlying22 (hval 0 22 v0 rfl rfl)
  clear hA0 hval0
  have hlt : ∀ x ∈ p0, x.block < W.heap.size := fun x hx => hW'.lt x (by simp [hx])
  have fin : ∀ (e : Ending) (W' : World), (e = .returned (.bool true) ∧ Below W.heap.size W W') → ∃ v, e = .returned v ∧
      Rows.lawS6181AWholeSpec.post enc Yba.prog Yba.f3 false true false false W #[.slice a0 len cap, .int .u64 jr, .bool ix] v W' := by
    rintro e W' ⟨rfl, hb⟩
    refine ⟨_, rfl, _, _, _, [], p0 ++ ([] ++ []), [], hW', ?_, ?_, rfl, hb.frame _, fun h => by cases h⟩
    · exact trodAll_mk1 (shut_bool Yba.underlying4 _)
    · exact trodAll_mk3 (Below.trod laidOut (by kernel_rfl) (of_decide_eq_true (by kernel_rfl)) h0k hb hlt) (shut_int Yba.underlying23 wj) (shut_bool Yba.underlying4 _)
  have hbd := bounds_u64 wj
  by_cases hL : len = 0 ∨ 4096 < len
  · exact (law_out a0 len cap jr ix W hL).mono fin
  obtain ⟨fuel, hf⟩ := h0
  have hsl : Sz 22 d0 := fun n hn => by
    have := List.all_eq_true.1 hsz n (DataW.weights_mem_each (j := 0) (t := 22) rfl rfl n hn)
    simpa using this
  rcases open_slice Yba.underlying22 hf with ⟨hcs, hx⟩ | ⟨a, len', cap', m, n, D, Pl, hcs, _, hl, hm, hmm, hx, hcell⟩
  · simp [Value.cells] at hcs
    omega
  simp [Value.cells] at hcs
  obtain ⟨rfl, rfl, rfl⟩ := hcs
  simp only [if_true] at hmm
  subst hmm
  simp only [Prod.mk.injEq] at hx
  have hd := hx.1
  subst hd
  rw [cells28] at hcell
  have each : ∀ i, i < len → ∃ x : El, (∀ f v, x.cells[f]? = some v → W.cell? ((a.add (i * 6)).add f) = some v) ∧ x.s.size ≤ 140737488355000 ∧ WOK W x := by
    intro i hi
    obtain ⟨cs', c1, c2⟩ := hcell i (by omega)
    obtain ⟨_, hlen6, hcc⟩ := World.cells?_some c1
    obtain ⟨x, rfl, hs1, hs2⟩ := open_el c2 (fun n hn => hsl n (by
      simp only [DataW.weights, Yba.underlying22, List.mem_cons, List.mem_append]
      right; left
      exact weights_mem_all (List.mem_map.2 ⟨i, List.mem_range.2 hi, rfl⟩) hn))
    refine ⟨x, fun f v hv => ?_, hs1, hs2⟩
    have hf6 : f < 6 := by have := (List.getElem?_eq_some_iff.1 hv).1; simpa [El.cells] using this
    rw [hcc f hf6, hv]
  have inh : Inhabited El := ⟨⟨⟨#[]⟩, ⟨#[]⟩, false, 0, 0, none, 0, 0, []⟩⟩
  obtain ⟨X, hX⟩ := choose_lt (α := El) each
  obtain ⟨b, off, spot⟩ := a
  have hspot : spot = none := by
    have := (hX 0 (by omega)).1 0 _ rfl
    simpa [Addr.add] using World.cell?_spot this
  subst hspot
  refine (law_a b off len _ jr ix X W (fun i hi => ⟨fun f v hv => ?_, (hX i hi).2⟩) (by omega) (by omega) hbd.1 hbd.2).mono fin
  have := (hX i hi).1 f v hv
  rw [addp, addp] at this
  exact this

theorem over : Rows.lawS6181AWholeRow.holds Yba.pinned (OpenSpec.ofChange Rows.lawS6181AWholeSpec) :=
  OpenClaim.holds_of_wide 3 Yba.f3 rfl rfl rfl rfl rfl rfl rfl ⟨rfl, rfl, rfl, rfl, rfl⟩ rfl rfl rfl rfl rfl (by kernel_rfl) Yba.func3 (by kernel_rfl)
    (of_decide_eq_true (by kernel_rfl)) (by unfold Func.isWrapper; first | (rw [if_pos (by decide +kernel)]; kernel_rfl) | (rw [if_neg (by decide +kernel)]; exact ⟨rfl, rfl⟩))
    (fun os started H enc _ => lifted os started H enc)

theorem proved : Rows.LawS6181AWholeSaid := over
#print axioms proved

end Go.Proofs.Ybulkdwzg.lawA
