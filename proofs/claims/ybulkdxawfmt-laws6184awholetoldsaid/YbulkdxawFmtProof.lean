/-
  THE CARD of LawS6184AWhole: the told row, from the walks (YbulkdxawFmtLaw, YbulkdxawFmtLong).
-/
import Derived.Test.YbulkdxawFmtCards
import Derived.Test.YbulkdxawFmtLong
import Derived.Test.YbulkdxawFmtLaw
import Derived.ProofKit
import Derived.SliceStrings
import Derived.ChangeMaps5
import Derived.Deep.SlicePairs
import Derived.Stop.JoinedAt
import Derived.Stop.JoinedTold
import Derived.SizedLaws
import Derived.Carry
import Derived.SevenToldRow
import Derived.OpenShut
namespace Go.Proofs.YbulkdxawFmt
open Go.ChangeShapes Go.WideShapes Go.ChangeAt Go.RowKit Go.Kit Go.Deep Go.ChangeMaps
open Go.Extern.Stop Go.Stop Go.Extern

theorem Ybaf.own : ownKnob Ybaf.prog.godebug = none := by kernel_rfl
theorem Ybaf.cells9 : Ybaf.prog.cellsOf 9 = 1 := by kernel_rfl
theorem Ybaf.cells3 : Ybaf.prog.cellsOf 3 = 1 := by kernel_rfl
theorem Ybaf.cells33 : Ybaf.prog.cellsOf 33 = 2 := by kernel_rfl
theorem Ybaf.bytes9 : Ybaf.prog.bytesOf 9 = 16 := by kernel_rfl
theorem Ybaf.bytes33 : Ybaf.prog.bytesOf 33 = 24 := by kernel_rfl
theorem Ybaf.laidOut : laidOutB Ybaf.pinned.checked.prog = true := by kernel_rfl
theorem Ybaf.laidOut' : laidOutB Ybaf.prog = true := by kernel_rfl
theorem Ybaf.stops : Ybaf.pinned.checked.prog.stops = ["fmt.errorf"] := by kernel_rfl
theorem Ybaf.stopKnobs : Ybaf.pinned.checked.prog.stopKnobs = [] := by kernel_rfl
theorem Ybaf.quiet (os : Os) : Stop.quiet Ybaf.pinned.checked.prog os := by
  intro k hk
  rw [Ybaf.stopKnobs] at hk
  cases hk

theorem trod_six {H : Type} {enc : TypeId × Value → H} {w : World} {base : Nat} {spare : Nat → Bool} {held : Bool} {t0 t1 t2 t3 t4 t5 : TypeId} {args : Array Value} {ds : List (DataW H)} {ps : List MemPlace}
    (h : DataW.TrodAll enc Ybaf.prog w base spare held [t0, t1, t2, t3, t4, t5] args.toList ds ps) :
    ∃ v0 v1 v2 v3 v4 v5 d0 d1 d2 d3 d4 d5 p0 p1 p2 p3 p4 p5, args = #[v0, v1, v2, v3, v4, v5] ∧ ds = [d0, d1, d2, d3, d4, d5] ∧ ps = p0 ++ (p1 ++ (p2 ++ (p3 ++ (p4 ++ p5)))) ∧
      DataW.Trod enc Ybaf.prog w base spare held t0 v0 d0 p0 ∧ DataW.Trod enc Ybaf.prog w base spare held t1 v1 d1 p1 ∧ DataW.Trod enc Ybaf.prog w base spare held t2 v2 d2 p2 ∧
      DataW.Trod enc Ybaf.prog w base spare held t3 v3 d3 p3 ∧ DataW.Trod enc Ybaf.prog w base spare held t4 v4 d4 p4 ∧ DataW.Trod enc Ybaf.prog w base spare held t5 v5 d5 p5 := by
  obtain ⟨v0, vs0, d0, e0, p0, q0, hargs, rfl, rfl, h0, hr0⟩ := trodAll_cons h
  obtain ⟨v1, vs1, d1, e1, p1, q1, rfl, rfl, rfl, h1, hr1⟩ := trodAll_cons hr0
  obtain ⟨v2, vs2, d2, e2, p2, q2, rfl, rfl, rfl, h2, hr2⟩ := trodAll_cons hr1
  obtain ⟨v3, vs3, d3, e3, p3, q3, rfl, rfl, rfl, h3, hr3⟩ := trodAll_cons hr2
  obtain ⟨v4, vs4, d4, e4, p4, q4, rfl, rfl, rfl, h4, hr4⟩ := trodAll_cons hr3
  obtain ⟨v5, vs5, d5, e5, p5, q5, rfl, rfl, rfl, h5, hr5⟩ := trodAll_cons hr4
  obtain ⟨rfl, rfl, rfl⟩ := trodAll_nil hr5
  exact ⟨v0, v1, v2, v3, v4, v5, d0, d1, d2, d3, d4, d5, p0, p1, p2, p3, p4, p5, by cases args; simp_all, rfl, by simp, h0, h1, h2, h3, h4, h5⟩

theorem add_in (b off t : Nat) : (⟨b, off, none⟩ : Addr).add t = ⟨b, off + t, none⟩ := by unfold Addr.add; split <;> simp_all

/-- What a slice of key parts holds. -/
theorem open_kp {H : Type} {enc : TypeId × Value → H} {W : World} {a0 : Option Addr} {len cap : Nat} {d : DataW H} {p : List MemPlace} (h : DataW.Trod enc Ybaf.prog W 0 (fun _ => true) true 22 (.slice a0 len cap) d p)
    (hs : ∀ n ∈ d.weights Ybaf.prog 22, n ≤ reachBytes) : len ≤ 281474976710656 ∧ (a0 = none → len = 0 ∧ cap = 0) ∧ ∃ S I, KP W a0 len S I := by
  obtain ⟨fuel, hf⟩ := h
  rcases open_slice_pairs Ybaf.underlying22 Ybaf.underlying33 Ybaf.cells33 rfl rfl Ybaf.cells9 Ybaf.cells3 hf with ⟨hcs, hx⟩ | ⟨a, len', cap', m, n, V0, V1, D0, D1, P0, P1, hcs, _, hl, hm, hmm, hx, hc⟩
  · simp [Value.cells] at hcs
    obtain ⟨rfl, rfl, rfl⟩ := hcs
    exact ⟨by omega, fun _ => ⟨rfl, rfl⟩, fun _ => ByteArray.empty, fun _ => 0, fun h => absurd h (by omega)⟩
  · simp [Value.cells] at hcs
    obtain ⟨rfl, rfl, rfl⟩ := hcs
    simp only [if_true] at hmm
    subst hmm
    have hd := congrArg Prod.fst hx
    simp only at hd
    subst hd
    refine ⟨?_, fun h => (by cases h), ?_⟩
    · have := hs _ (by simp only [DataW.weights, Ybaf.underlying22]; exact List.mem_cons_self ..)
      rw [Ybaf.bytes33] at this
      simp at this
      unfold reachBytes at this
      omega
    · have key : ∀ i, ∃ s k, i < len → W.cell? (a.add (i * 2)) = some (.string s) ∧ W.cell? (a.add (i * 2 + 1)) = some (.int .i64 k) := fun i => by
        by_cases hi : i < len
        · obtain ⟨c0, c1, t0, t1⟩ := hc i (by omega)
          obtain ⟨s, e0, _⟩ := DataW.trod_string Ybaf.underlying9 t0
          obtain ⟨k, e1, _⟩ := DataW.trod_int Ybaf.underlying3 t1
          simp only [List.cons.injEq, and_true] at e0 e1
          exact ⟨s, k, fun _ => ⟨by rw [c0, e0], by rw [c1, e1]⟩⟩
        · exact ⟨ByteArray.empty, 0, fun h => absurd h hi⟩
      refine ⟨fun i => (key i).choose, fun i => (key i).choose_spec.choose, fun h0 => ?_⟩
      obtain ⟨b, off, spot⟩ := a
      have hspot : spot = none := by
        have := ((key 0).choose_spec.choose_spec h0).1
        simpa [Addr.add] using World.cell?_spot this
      subst hspot
      refine ⟨b, off, rfl, fun j hj => ?_⟩
      have e1 : (⟨b, off + j * 2, none⟩ : Addr) = (⟨b, off, none⟩ : Addr).add (j * 2) := (add_in _ _ _).symm
      have e2 : (⟨b, off + j * 2 + 1, none⟩ : Addr) = (⟨b, off, none⟩ : Addr).add (j * 2 + 1) := (add_in _ _ _).symm
      rw [e1, e2]
      exact (key j).choose_spec.choose_spec hj

/-- What a slice of strings holds. -/
theorem open_cn {H : Type} {enc : TypeId × Value → H} {W : World} {a0 : Option Addr} {len cap : Nat} {d : DataW H} {p : List MemPlace} (h : DataW.Trod enc Ybaf.prog W 0 (fun _ => true) true 23 (.slice a0 len cap) d p)
    (hs : ∀ n ∈ d.weights Ybaf.prog 23, n ≤ reachBytes) : len ≤ 281474976710656 ∧ ∃ N, CN W a0 len N := by
  obtain ⟨fuel, hf⟩ := h
  rcases open_strings Ybaf.underlying23 Ybaf.underlying9 Ybaf.cells9 hf with ⟨hcs, hx⟩ | ⟨a, len', cap', ss, hcs, _, hl, hm, hz, hx, hcell, _⟩
  · simp [Value.cells] at hcs
    obtain ⟨rfl, rfl, rfl⟩ := hcs
    exact ⟨by omega, fun _ => ByteArray.empty, fun h => absurd h (by omega)⟩
  · simp [Value.cells] at hcs
    obtain ⟨rfl, rfl, rfl⟩ := hcs
    simp only [if_true] at hz
    have hd := congrArg Prod.fst hx
    simp only at hd
    subst hd
    refine ⟨?_, fun j => ss.getD j ByteArray.empty, fun h0 => ?_⟩
    · have := hs _ (by simp only [DataW.weights, Ybaf.underlying23]; exact List.mem_cons_self ..)
      rw [Ybaf.bytes9] at this
      simp [strs] at this
      unfold reachBytes at this
      omega
    · obtain ⟨b, off, spot⟩ := a
      have hspot : spot = none := by simpa [Addr.add] using World.cell?_spot (hcell 0 (by omega))
      subst hspot
      refine ⟨b, off, rfl, fun j hj => ?_⟩
      rw [← add_in]
      exact hcell j (by omega)

set_option maxHeartbeats 1000000 in
set_option maxRecDepth 100000 in
theorem t_lifted (os : Os) (started : os.Started) (H : Type) (enc : TypeId × Value → H) :
    ReturnsInTold none {} Ybaf.checked os 3 .any Input.okWide ((OpenSpec.ofChange Rows.lawS6184AWholeSpec).preRow enc Ybaf.prog Ybaf.f3 [] false []) (fun F => ((OpenSpec.ofChange Rows.lawS6184AWholeSpec).at F).post enc Ybaf.prog Ybaf.f3 false true false false) (aloneAtReturn Ybaf.prog) nothingAlways := by
  refine returnsInTold_of_row (C := Ybaf.checked) (s := OpenSpec.ofChange Rows.lawS6184AWholeSpec) (by kernel_rfl) Ybaf.own started (by kernel_rfl) Ybaf.func3
    (OpenSpec.witness_stopped (enc := enc) (C := Ybaf.checked) false ⟨#[], #[.string ⟨#[]⟩, .bool false, .slice none 0 0, .slice none 0 0, .int .u64 0, .slice none 0 0], []⟩ 8 (by kernel_rfl) (by kernel_rfl) (by kernel_rfl) (by kernel_rfl)) ?_
  intro F W base args ds gs before _ hF hval0 hW _ _ hsz0 _ _
  have hval : ∀ (j : Nat) t v, Ybaf.f3.params[j]? = some t → args[j]? = some v → Value.okWide Ybaf.prog W .any base t v := hval0
  have hW' := hW
  obtain ⟨p, q, hA0, hV, rfl, hfz, hnd⟩ := hW
  have hA : DataW.TrodAll enc Ybaf.prog W 0 (fun _ => true) true Ybaf.f3.params.toList args.toList ds p := hA0
  have hsz := hsz0
  rw [Ybaf.params3] at hA hval hsz
  obtain ⟨v0, v1, v2, v3, v4, v5, d0, d1, d2, d3, d4, d5, p0, p1, p2, p3, p4, p5, rfl, rfl, rfl, h0, h1, h2, h3, h4, h5⟩ := trod_six hA
  obtain ⟨rfl, rfl⟩ := trodVars_none hV
  obtain ⟨nm, rfl, rfl, rfl, hnm⟩ := open_string Ybaf.underlying9 (hval 0 9 v0 rfl rfl) h0
  obtain ⟨hp, rfl, rfl, rfl⟩ := open_bool Ybaf.underlying4 (hval 1 4 v1 rfl rfl) h1
  obtain ⟨oa, ol, oc, rfl⟩ := okWide_slice Ybaf.underlying22 (hval 2 22 v2 rfl rfl)
  obtain ⟨na, nl, nc, rfl⟩ := okWide_slice Ybaf.underlying23 (hval 3 23 v3 rfl rfl)
  obtain ⟨ai, rfl, rfl, rfl, wi⟩ := open_int Ybaf.underlying24 (hval 4 24 v4 rfl rfl) h4
  obtain ⟨pa, pl, pc, rfl⟩ := okWide_slice Ybaf.underlying22 (hval 5 22 v5 rfl rfl)
  clear hA0 hval0
  have hlt : ∀ x ∈ p2 ++ (p3 ++ p5), x.block < W.heap.size := fun x hx => hW'.lt x (by simp at hx ⊢; rcases hx with h | h | h <;> simp [h])
  have fin : ∀ (e : Ending) (W' : World), (e = .returned (.bool true) ∧ Below W.heap.size W W') → ∃ v, e = .returned v ∧
      ((OpenSpec.ofChange Rows.lawS6184AWholeSpec).at F.told).post enc Ybaf.prog Ybaf.f3 false true false false W #[.string nm, .bool hp, .slice oa ol oc, .slice na nl nc, .int .u64 ai, .slice pa pl pc] v W' := by
    rintro e W' ⟨rfl, hb⟩
    refine ⟨_, rfl, _, _, _, [], [] ++ ([] ++ (p2 ++ (p3 ++ ([] ++ p5)))), [], hW', ?_, ?_, rfl, hb.frame _, fun h => by cases h⟩
    · exact trodAll_mk1 (shut_bool Ybaf.underlying4 _)
    · refine ⟨_, _, Below.trod Ybaf.laidOut' (by kernel_rfl) (of_decide_eq_true (by kernel_rfl)) h0 hb (by simp), ⟨_, _, shut_bool Ybaf.underlying4 _, ⟨_, _, Below.trod Ybaf.laidOut' (by kernel_rfl) (of_decide_eq_true (by kernel_rfl)) h2 hb (fun x hx => hlt x (by simp [hx])), trodAll_mk3 (Below.trod Ybaf.laidOut' (by kernel_rfl) (of_decide_eq_true (by kernel_rfl)) h3 hb (fun x hx => hlt x (by simp [hx]))) (shut_int Ybaf.underlying24 wi) (Below.trod Ybaf.laidOut' (by kernel_rfl) (of_decide_eq_true (by kernel_rfl)) h5 hb (fun x hx => hlt x (by simp [hx]))), rfl⟩, rfl⟩, rfl⟩
  have hz : ∀ (j : Nat) (t : TypeId) (d : DataW H), [9, 4, 22, 23, 24, 22][j]? = some t → [DataW.lit (Lit.string nm.data.toList), .lit (.bool hp), d2, d3, .lit (.int .u64 ai), d5][j]? = some d → ∀ n ∈ d.weights Ybaf.prog t, n ≤ reachBytes := by
    intro j t d ht hd n hn
    have := List.all_eq_true.1 hsz n (DataW.weights_mem_each (j := j) (t := t) (by rw [List.getElem?_append_left (List.getElem?_eq_some_iff.1 ht).1]; exact ht) (by rw [List.getElem?_append_left (List.getElem?_eq_some_iff.1 hd).1]; exact hd) n hn)
    simpa using this
  obtain ⟨b2, n2, SO, JO, k2⟩ := open_kp h2 (hz 2 22 d2 rfl rfl)
  obtain ⟨b3, N, k3⟩ := open_cn h3 (hz 3 23 d3 rfl rfl)
  obtain ⟨b5, n5, SP, IP, k5⟩ := open_kp h5 (hz 5 22 d5 rfl rfl)
  by_cases hL : 1048576 < ol + nl + pl
  · exact (law_long nm hp oa ol oc na nl nc ai pa pl pc W b2 b3 b5 hL).mono fin
  · exact (law_a F.told nm hp oa ol oc SO JO na nl nc N ai pa pl pc SP IP W hF k2 k3 k5 n5 (by omega)).mono fin

theorem law_told : Rows.LawS6184AWholeToldSaid :=
  Claim7.holds_of_told_any 3 Ybaf.f3 "fmt.errorf" [] [] _ _ _ (by kernel_rfl) rfl rfl rfl Ybaf.laidOut (by kernel_rfl) rfl ⟨rfl, rfl, rfl, rfl, rfl, rfl, rfl⟩ rfl rfl (by kernel_rfl) (by kernel_rfl) Ybaf.func3 (by kernel_rfl)
    (of_decide_eq_true (by kernel_rfl)) (of_decide_eq_true (by kernel_rfl)) Ybaf.stops.symm rfl Ybaf.stopKnobs.symm (by kernel_rfl)
    (by kernel_rfl) (by kernel_rfl) (by kernel_rfl) (by kernel_rfl) (by kernel_rfl) (by kernel_rfl) (by kernel_rfl) (by kernel_rfl) (by kernel_rfl) rfl (by kernel_rfl) rfl rfl
    rfl rfl
    rfl (by kernel_rfl) (by kernel_rfl) (by kernel_rfl) (by decide) (by kernel_rfl)
    (OpenClaim.moreEntering_of (by kernel_rfl) (by kernel_rfl) (by kernel_rfl) (by kernel_rfl) (by kernel_rfl) (by kernel_rfl) (by kernel_rfl) (by kernel_rfl) (by kernel_rfl) (by kernel_rfl))
    ⟨_, WideRow.started_initial, Ybaf.quiet _⟩
    (fun os started _ H enc _ => t_lifted os started H enc)

#print axioms law_told

end Go.Proofs.YbulkdxawFmt
