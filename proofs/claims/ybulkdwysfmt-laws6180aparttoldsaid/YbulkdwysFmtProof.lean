/-
  THE CARD of LawS6180APart: the told row, from the walks (YbulkdwysFmtLaw).
-/
import Derived.Test.YbulkdwysFmtCards
import Derived.Test.YbulkdwysFmtLaw
import Derived.ProofKit
import Derived.SliceStrings
import Derived.Stop.JoinedAt
import Derived.Stop.JoinedTold
import Derived.SizedLaws
import Derived.Carry
import Derived.SevenToldRow
import Derived.OpenShut
namespace Go.Proofs.YbulkdwysFmt
open Go.ChangeShapes Go.WideShapes Go.ChangeAt Go.RowKit Go.Kit
open Go.Extern.Stop Go.Stop Go.Extern

theorem Ybaf.own : ownKnob Ybaf.prog.godebug = none := by kernel_rfl
theorem Ybaf.cells9 : Ybaf.prog.cellsOf 9 = 1 := by kernel_rfl
theorem Ybaf.laidOut : laidOutB Ybaf.pinned.checked.prog = true := by kernel_rfl
theorem Ybaf.laidOut' : laidOutB Ybaf.prog = true := by kernel_rfl
theorem Ybaf.stops : Ybaf.pinned.checked.prog.stops = ["fmt.Sprintf"] := by kernel_rfl
theorem Ybaf.stopKnobs : Ybaf.pinned.checked.prog.stopKnobs = [] := by kernel_rfl
theorem Ybaf.quiet (os : Os) : Stop.quiet Ybaf.pinned.checked.prog os := by
  intro k hk
  rw [Ybaf.stopKnobs] at hk
  cases hk

set_option maxRecDepth 100000 in
theorem t_lifted (os : Os) (started : os.Started) (H : Type) (enc : TypeId × Value → H) :
    ReturnsInTold none {} Ybaf.checked os 3 .any Input.okWide ((OpenSpec.ofChange Rows.lawS6180APartSpec).preRow enc Ybaf.prog Ybaf.f3 [] false []) (fun F => ((OpenSpec.ofChange Rows.lawS6180APartSpec).at F).post enc Ybaf.prog Ybaf.f3 false true false false) (aloneAtReturn Ybaf.prog) nothingAlways := by
  refine returnsInTold_of_row (C := Ybaf.checked) (s := OpenSpec.ofChange Rows.lawS6180APartSpec) (by kernel_rfl) Ybaf.own started (by kernel_rfl) Ybaf.func3
    (OpenSpec.witness_stopped (enc := enc) (C := Ybaf.checked) false ⟨#[], #[.slice none 0 0, .int .i64 0], []⟩ 8 (by kernel_rfl) (by kernel_rfl) (by kernel_rfl) (by kernel_rfl)) ?_
  intro F W base args ds gs before _ hF hval0 hW _ _ hsz _ _
  have hval : ∀ (j : Nat) t v, Ybaf.f3.params[j]? = some t → args[j]? = some v → Value.okWide Ybaf.prog W .any base t v := hval0
  have hW' := hW
  obtain ⟨p, q, hA0, hV, rfl, hfz, hnd⟩ := hW
  have hA : DataW.TrodAll enc Ybaf.prog W 0 (fun _ => true) true Ybaf.f3.params.toList args.toList ds p := hA0
  rw [Ybaf.params3] at hA hval
  obtain ⟨v0, v1, d0, d1, p0, p1, rfl, rfl, rfl, h0, h1⟩ := trodAll_two hA
  obtain ⟨rfl, rfl⟩ := trodVars_none hV
  have h0k := h0
  obtain ⟨i, rfl, rfl, rfl, wi⟩ := open_int Ybaf.underlying3 (hval 1 3 v1 rfl rfl) h1
  obtain ⟨a0, len, cap, rfl⟩ := okWide_slice Ybaf.underlying22 (hval 0 22 v0 rfl rfl)
  clear hA0 hval0
  have hlt : ∀ x ∈ p0, x.block < W.heap.size := fun x hx => hW'.lt x (by simp [hx])
  have fin : ∀ (e : Ending) (W' : World), (e = .returned (.bool true) ∧ Below W.heap.size W W') → ∃ v, e = .returned v ∧
      ((OpenSpec.ofChange Rows.lawS6180APartSpec).at F.told).post enc Ybaf.prog Ybaf.f3 false true false false W #[.slice a0 len cap, .int .i64 i] v W' := by
    rintro e W' ⟨rfl, hb⟩
    refine ⟨_, rfl, _, _, _, [], p0 ++ [], [], hW', ?_, ?_, rfl, hb.frame _, fun h => by cases h⟩
    · exact trodAll_mk1 (shut_bool Ybaf.underlying4 _)
    · exact trodAll_mk2 (Below.trod Ybaf.laidOut' (by kernel_rfl) (of_decide_eq_true (by kernel_rfl)) h0k hb hlt) (shut_int Ybaf.underlying3 wi)
  have hbd := bounds_i64 wi
  by_cases hL : 1048576 < len
  · exact (law_long a0 len cap i W hL).mono fin
  obtain ⟨fuel, hf⟩ := h0
  rcases open_strings Ybaf.underlying22 Ybaf.underlying9 Ybaf.cells9 hf with ⟨hcs, hx⟩ | ⟨a, len', cap', ss, hcs, _, hl, hm, hz, hx, hcell, hsz'⟩
  · simp [Value.cells] at hcs
    obtain ⟨rfl, rfl, rfl⟩ := hcs
    exact (law_nil i W hbd.1 hbd.2).mono fin
  simp [Value.cells] at hcs
  obtain ⟨rfl, rfl, rfl⟩ := hcs
  simp only [if_true] at hz
  by_cases h0 : len = 0
  · subst h0
    exact (law_zero a cap i W hbd.1 hbd.2).mono fin
  obtain ⟨b, off, spot⟩ := a
  have hspot : spot = none := by simpa [Addr.add] using World.cell?_spot (hcell 0 (by omega))
  subst hspot
  refine (law_pos F.told b off len cap i (fun j => ss.getD j ByteArray.empty) W hF hbd.1 hbd.2 (by omega) (by omega) (fun j hj => by rw [← addp]; exact hcell j (by omega)) (fun j hj => ?_)).mono fin
  have hj' : j < ss.length := by omega
  have e : ss.getD j ByteArray.empty = ss[j] := by simp [hj']
  show (ss.getD j ByteArray.empty).size ≤ maxLen
  rw [e]
  exact hsz' _ (List.getElem_mem hj')

theorem law_told : Rows.LawS6180APartToldSaid :=
  Claim7.holds_of_told_any 3 Ybaf.f3 "fmt.Sprintf" [] [] _ _ _ (by kernel_rfl) rfl rfl rfl Ybaf.laidOut (by kernel_rfl) rfl ⟨rfl, rfl, rfl, rfl, rfl, rfl, rfl⟩ rfl rfl (by kernel_rfl) (by kernel_rfl) Ybaf.func3 (by kernel_rfl)
    (of_decide_eq_true (by kernel_rfl)) (of_decide_eq_true (by kernel_rfl)) Ybaf.stops.symm rfl Ybaf.stopKnobs.symm (by kernel_rfl)
    (by kernel_rfl) (by kernel_rfl) (by kernel_rfl) (by kernel_rfl) (by kernel_rfl) (by kernel_rfl) (by kernel_rfl) (by kernel_rfl) (by kernel_rfl) rfl (by kernel_rfl) rfl rfl
    rfl rfl
    rfl (by kernel_rfl) (by kernel_rfl) (by kernel_rfl) (by decide) (by kernel_rfl)
    (OpenClaim.moreEntering_of (by kernel_rfl) (by kernel_rfl) (by kernel_rfl) (by kernel_rfl) (by kernel_rfl) (by kernel_rfl) (by kernel_rfl) (by kernel_rfl) (by kernel_rfl) (by kernel_rfl))
    ⟨_, WideRow.started_initial, Ybaf.quiet _⟩
    (fun os started _ H enc _ => t_lifted os started H enc)

#print axioms law_told

end Go.Proofs.YbulkdwysFmt
