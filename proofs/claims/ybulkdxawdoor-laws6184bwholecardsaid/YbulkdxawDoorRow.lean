/-
  THE ROW and THE TIED CARD of LawS6184BWhole, from the walk (YbulkdxawDoorLx): the arguments opened, the listed variable's cells.
-/
import Derived.Test.YbulkdxawDoorLx
import Derived.Test.YbulkdxawDoorTie
import Derived.Test.YbulkdxawDoorCards
import Derived.ProofKit
import Derived.OpenShut
import Derived.SizedLaws
import Derived.Carry
import Derived.OpenVars
import Derived.Deep.Slices
import Derived.Lib.LaidTab
import Derived.LaidLaws
import Derived.LaidHandle
import Derived.MakeChecks
import Derived.SevenTiedAt
namespace Go.Proofs.YbulkdxawDoor
open Go.ChangeShapes Go.WideShapes Go.ChangeAt Go.RowKit Go.Deep

theorem own : ownKnob Ybad.prog.godebug = none := by kernel_rfl
theorem laidOut : laidOutB Ybad.prog = true := by kernel_rfl
theorem cells45 : Ybad.prog.cellsOf 45 = 3 := by kernel_rfl
theorem cells5 : Ybad.prog.cellsOf 5 = 1 := by kernel_rfl
theorem cells22 : Ybad.prog.cellsOf 22 = 1 := by kernel_rfl
theorem cells4 : Ybad.prog.cellsOf 4 = 1 := by kernel_rfl
theorem bytes45 : Ybad.prog.bytesOf 45 = 12 := by kernel_rfl
theorem g0 : Ybad.prog.globalNamed "example.com/gapkeeper/gapkeeper/internal/lock.coveredBy" = some 0 := by kernel_rfl
theorem g0t : (Ybad.prog.globals[0]?).map (·.type) = some 69 := by kernel_rfl
theorem u69 : Ybad.prog.underlying 69 = some (.array 4 5) := by kernel_rfl
theorem cells69 : Ybad.prog.cellsOf 69 = 4 := by kernel_rfl

theorem addp (b off j : Nat) : (⟨b, off, none⟩ : Addr).add j = ⟨b, off + j, none⟩ := by unfold Addr.add; split <;> simp_all
theorem len3 {α : Type} {l : List α} (h : l.length = 3) : ∃ a b c, l = [a, b, c] := by
  match l, h with
  | [a, b, c], _ => exact ⟨a, b, c, rfl⟩

/-- The block of a slice is there. -/
theorem slice_at {W : World} {base t e : Nat} {a : Addr} {len cap : Nat} (ht : Ybad.prog.underlying t = some (.slice e)) (h : Value.okWide Ybad.prog W .any base t (.slice (some a) len cap)) : a.block < W.heap.size := by
  simp only [Value.okWide, ht, Cell.okWide, Cell.ok] at h
  obtain ⟨_, _, row, n, hsh, _⟩ := h.2.2
  rcases Nat.lt_or_ge a.block W.heap.size with h1 | h1
  · exact h1
  · simp [World.shape?, Array.getElem?_eq_none h1] at hsh

/-- The four cells of coveredBy. -/
theorem cb_of {W : World} (h : laidMetH Ybad.prog Rows.lawS6184BWholeRow.laid W) : CB W := by
  replace h : laidMet Ybad.prog Rows.lawS6184BWholeRow.laid W := h
  have hT : Lib.TabIs Ybad.prog W "example.com/gapkeeper/gapkeeper/internal/lock.coveredBy" .u8 [1, 3, 5, 15] := Lib.tabIs_of_head g0 g0t u69 Ybad.underlying5 cells5 cells69 h
  intro j hj
  have := hT.cell g0 j hj
  rw [this]
  match j, hj with
  | 0, _ | 1, _ | 2, _ | 3, _ => rfl

/-- One element, opened. -/
theorem open_el {H : Type} {enc : TypeId × Value → H} {W : World} {n : Nat} {cs : List Value} {D : DataW H} {Pl : List MemPlace} (h : DataW.trod enc Ybad.prog W 0 (fun _ => true) true n 45 cs = some (D, Pl)) :
    ∃ (M HH : Nat) (K : Bool), cs = [.int .u8 (M : Int), .int .u32 (HH : Int), .bool K] ∧ M < 256 ∧ HH < 4294967296 := by
  obtain ⟨xs, m, _, hx, hl, hxl, hf⟩ := DataW.trod_struct Ybad.underlying45 h
  rw [cells45] at hl
  obtain ⟨y0, y1, y2, rfl⟩ := len3 hxl
  obtain ⟨v0, v1, v2, rfl⟩ := len3 hl
  have t0 : DataW.trod enc Ybad.prog W 0 (fun _ => true) true m 5 (([v0, v1, v2].drop 0).take (Ybad.prog.cellsOf 5)) = some y0 := hf 0 _ rfl
  have t1 : DataW.trod enc Ybad.prog W 0 (fun _ => true) true m 22 (([v0, v1, v2].drop 1).take (Ybad.prog.cellsOf 22)) = some y1 := hf 1 _ rfl
  have t2 : DataW.trod enc Ybad.prog W 0 (fun _ => true) true m 4 (([v0, v1, v2].drop 2).take (Ybad.prog.cellsOf 4)) = some y2 := hf 2 _ rfl
  rw [cells5] at t0
  rw [cells22] at t1
  rw [cells4] at t2
  replace t0 : DataW.trod enc Ybad.prog W 0 (fun _ => true) true m 5 [v0] = some y0 := t0
  replace t1 : DataW.trod enc Ybad.prog W 0 (fun _ => true) true m 22 [v1] = some y1 := t1
  replace t2 : DataW.trod enc Ybad.prog W 0 (fun _ => true) true m 4 [v2] = some y2 := t2
  obtain ⟨a, e0, _, wa⟩ := DataW.trod_int Ybad.underlying5 t0
  obtain ⟨b, e1, _, wb⟩ := DataW.trod_int Ybad.underlying22 t1
  obtain ⟨c, e2, _⟩ := DataW.trod_bool Ybad.underlying4 t2
  simp only [List.cons.injEq, and_true] at e0 e1 e2
  subst e0 e1 e2
  have ba := bounds_u8 wa
  have bb := bounds_u32 wb
  refine ⟨a.toNat, b.toNat, c, ?_, by omega, by omega⟩
  rw [Int.toNat_of_nonneg ba.1, Int.toNat_of_nonneg bb.1]

/-- What the slice holds. -/
theorem open_ar {H : Type} {enc : TypeId × Value → H} {W : World} {a0 : Option Addr} {len cap : Nat} {d : DataW H} {p : List MemPlace} (h : DataW.Trod enc Ybad.prog W 0 (fun _ => true) true 23 (.slice a0 len cap) d p)
    (hs : ∀ n ∈ d.weights Ybad.prog 23, n ≤ reachBytes) : len < 2 ^ 49 ∧ ∃ (M HH : Nat → Nat) (K : Nat → Bool), AR W a0 len M HH K ∧ (∀ i, M i < 256) ∧ ∀ i, HH i < 4294967296 := by
  obtain ⟨fuel, hf⟩ := h
  rcases open_slice Ybad.underlying23 hf with ⟨hcs, hx⟩ | ⟨a, len', cap', m, n, D, Pl, hcs, _, hl, hm, hmm, hx, hcell⟩
  · simp [Value.cells] at hcs
    obtain ⟨rfl, rfl, rfl⟩ := hcs
    exact ⟨by omega, fun _ => 0, fun _ => 0, fun _ => false, fun h => absurd h (by omega), fun _ => Nat.zero_lt_succ _, fun _ => Nat.zero_lt_succ _⟩
  · simp [Value.cells] at hcs
    obtain ⟨rfl, rfl, rfl⟩ := hcs
    simp only [if_true] at hmm
    subst hmm
    have hd := congrArg Prod.fst hx
    simp only at hd
    subst hd
    rw [cells45] at hcell
    refine ⟨?_, ?_⟩
    · have := hs _ (by simp only [DataW.weights, Ybad.underlying23]; exact List.mem_cons_self ..)
      rw [bytes45] at this
      simp at this
      unfold reachBytes at this
      omega
    · have key : ∀ i, ∃ (M HH : Nat) (K : Bool), (M < 256 ∧ HH < 4294967296) ∧ (i < len → W.cell? ((a.add (i * 3)).add 0) = some (.int .u8 (M : Int)) ∧ W.cell? ((a.add (i * 3)).add 1) = some (.int .u32 (HH : Int)) ∧ W.cell? ((a.add (i * 3)).add 2) = some (.bool K)) := fun i => by
        by_cases hi : i < len
        · obtain ⟨cs', c1, c2⟩ := hcell i (by omega)
          obtain ⟨_, hl3, hcc⟩ := World.cells?_some c1
          obtain ⟨M, HH, K, rfl, hM, hHH⟩ := open_el c2
          exact ⟨M, HH, K, ⟨hM, hHH⟩, fun _ => ⟨by rw [hcc 0 (by omega)]; rfl, by rw [hcc 1 (by omega)]; rfl, by rw [hcc 2 (by omega)]; rfl⟩⟩
        · exact ⟨0, 0, false, ⟨by omega, by omega⟩, fun h => absurd h hi⟩
      refine ⟨fun i => (key i).choose, fun i => (key i).choose_spec.choose, fun i => (key i).choose_spec.choose_spec.choose, fun h0 => ?_, fun i => (key i).choose_spec.choose_spec.choose_spec.1.1, fun i => (key i).choose_spec.choose_spec.choose_spec.1.2⟩
      obtain ⟨b, off, spot⟩ := a
      have hspot : spot = none := by
        have := ((key 0).choose_spec.choose_spec.choose_spec.2 h0).1
        simpa [Addr.add] using World.cell?_spot this
      subst hspot
      refine ⟨b, off, rfl, fun j hj => ?_⟩
      obtain ⟨r1, r2, r3⟩ := (key j).choose_spec.choose_spec.choose_spec.2 hj
      have x0 : (⟨b, off + j * 3, none⟩ : Addr) = ((⟨b, off, none⟩ : Addr).add (j * 3)).add 0 := by rw [addp, addp]; rfl
      have x1 : (⟨b, off + j * 3 + 1, none⟩ : Addr) = ((⟨b, off, none⟩ : Addr).add (j * 3)).add 1 := by rw [addp, addp]
      have x2 : (⟨b, off + j * 3 + 2, none⟩ : Addr) = ((⟨b, off, none⟩ : Addr).add (j * 3)).add 2 := by rw [addp, addp]
      exact ⟨by rw [x0]; exact r1, by rw [x1]; exact r2, by rw [x2]; exact r3⟩

def layB : Obj → Obj
  | .cells _ t fz => .cells #[.int .u8 1, .int .u8 3, .int .u8 5, .int .u8 15] t fz
  | o => o

theorem laid_met (os : Os) (args : Array Value) : laidMetH Ybad.prog Rows.lawS6184BWholeRow.laid (({ World.holding Ybad.prog os ⟨#[], #[], []⟩ with heap := (World.holding Ybad.prog os ⟨#[], #[], []⟩).heap.modify 0 layB } : World).forCall (fun _ _ => 0) ⟨#[], args, []⟩).memory := by
  show laidMet Ybad.prog Rows.lawS6184BWholeRow.laid _
  exact laidMet_of_run' 8 (by kernel_rfl) (by kernel_rfl)

set_option maxHeartbeats 1000000 in
set_option maxRecDepth 100000 in
theorem lifted (os : Os) (started : os.Started) (H : Type) (enc : TypeId × Value → H) :
    ReturnsInHanded {} Ybad.checked os 3 .any (fun w args => (Rows.lawS6184BWholeSpec.pre enc Ybad.prog Ybad.f3 [] false w args ∧ laidMetH Ybad.prog Rows.lawS6184BWholeRow.laid w) ∧ sizedMet enc Ybad.prog Ybad.f3 (OpenSpec.ofChange Rows.lawS6184BWholeSpec) false w args)
      (Rows.lawS6184BWholeSpec.post enc Ybad.prog Ybad.f3 false true false false) := by
  refine returnsInHanded_of_change_and (C := Ybad.checked) (X := fun w _ => laidMetH Ybad.prog Rows.lawS6184BWholeRow.laid w) (fun _ _ _ hh h => h.of_heap hh) own started (by kernel_rfl) Ybad.func3
    (ChangeSpec.witness_at (enc := enc) (C := Ybad.checked) (os := os) (X := fun w _ => laidMetH Ybad.prog Rows.lawS6184BWholeRow.laid w) false ({ World.holding Ybad.prog os ⟨#[], #[], []⟩ with heap := (World.holding Ybad.prog os ⟨#[], #[], []⟩).heap.modify 0 layB } : World) #[.int .u32 0, .int .u8 0, .slice none 0 0, .bool false] 8 rfl (by kernel_rfl) (by kernel_rfl) (by kernel_rfl) (by kernel_rfl) (by kernel_rfl) (laid_met os _)) ?_
  intro W base args ds gs before hval0 hW _ hsz0 hL' _
  have hval : ∀ (j : Nat) t v, Ybad.f3.params[j]? = some t → args[j]? = some v → Value.okWide Ybad.prog W .any base t v := hval0
  have hsz : (DataW.weightsEach Ybad.prog (Ybad.f3.params.toList ++ Rows.lawS6184BWholeSpec.plain.varTypes Ybad.prog) (ds ++ gs)).all (· ≤ reachBytes) = true := hsz0
  have hW' := hW
  obtain ⟨p, q, hA0, hV0, rfl, hfz, hnd⟩ := hW
  have hA : DataW.TrodAll enc Ybad.prog W 0 (fun _ => true) true Ybad.f3.params.toList args.toList ds p := hA0
  have hV : DataW.TrodVars enc Ybad.prog W (fun _ => true) ["example.com/gapkeeper/gapkeeper/internal/lock.coveredBy"] gs q := hV0
  rw [Ybad.params3] at hA hval hsz
  obtain ⟨v0, vs0, d0, e0, p0, q0, hargs, rfl, rfl, h0, hr0⟩ := trodAll_cons hA
  obtain ⟨v1, vs1, d1, e1, p1, q1, rfl, rfl, rfl, h1, hr1⟩ := trodAll_cons hr0
  obtain ⟨v2, vs2, d2, e2, p2, q2, rfl, rfl, rfl, h2, hr2⟩ := trodAll_cons hr1
  obtain ⟨v3, vs3, d3, e3, p3, q3, rfl, rfl, rfl, h3, hr3⟩ := trodAll_cons hr2
  obtain ⟨rfl, rfl, rfl⟩ := trodAll_nil hr3
  obtain rfl : args = #[v0, v1, v2, v3] := by cases args; simp_all
  clear hargs
  obtain ⟨hp, rfl, rfl, rfl, whp⟩ := open_int Ybad.underlying22 (hval 0 22 v0 rfl rfl) h0
  obtain ⟨m, rfl, rfl, rfl, wm⟩ := open_int Ybad.underlying5 (hval 1 5 v1 rfl rfl) h1
  obtain ⟨a0, len, cap, rfl⟩ := okWide_slice Ybad.underlying23 (hval 2 23 v2 rfl rfl)
  obtain ⟨of, rfl, rfl, rfl⟩ := open_bool Ybad.underlying4 (hval 3 4 v3 rfl rfl) h3
  have aa_ : ∀ ad, a0 = some ad → ad.block < W.heap.size := fun ad e => slice_at Ybad.underlying23 (e ▸ hval 2 23 _ rfl rfl)
  clear hA0 hval0
  have hlt : ∀ x ∈ p2, x.block < W.heap.size := fun x hx => hW'.lt x (by simp [hx])
  have fin : ∀ (e : Ending) (W' : World), (e = .returned (.bool true) ∧ Below W.heap.size W W') → ∃ v, e = .returned v ∧
      Rows.lawS6184BWholeSpec.post enc Ybad.prog Ybad.f3 false true false false W #[.int .u32 hp, .int .u8 m, .slice a0 len cap, .bool of] v W' := by
    rintro e W' ⟨rfl, hb⟩
    obtain ⟨gd, hgs⟩ : ∃ gd, gs = [gd] := by
      cases gs with
      | nil => exact hV.elim
      | cons g r => cases r with
        | nil => exact ⟨g, rfl⟩
        | cons _ _ => obtain ⟨_, _, _, _, _, _, _, _, _, _, hh, _⟩ := hV; exact hh.elim
    subst hgs
    refine ⟨_, rfl, _, _, _, [], [] ++ ([] ++ (p2 ++ ([] ++ []))), q, hW', ?_, ?_, ?_, hb.frame _, fun h => by cases h⟩
    · exact trodAll_mk1 (shut_bool Ybad.underlying4 _)
    · refine ⟨_, _, shut_int Ybad.underlying22 whp, ⟨_, _, shut_int Ybad.underlying5 wm, ⟨_, _, Below.trod laidOut (by kernel_rfl) (of_decide_eq_true (by kernel_rfl)) h2 hb hlt, trodAll_mk1 (shut_bool Ybad.underlying4 _), rfl⟩, rfl⟩, rfl⟩
    · exact Below.trodVars laidOut hb (by kernel_rfl) hV
  have hz : ∀ n ∈ d2.weights Ybad.prog 23, n ≤ reachBytes := by
    intro n hn
    have := List.all_eq_true.1 hsz n (DataW.weights_mem_each (j := 2) (t := 23) (d := d2) rfl rfl n hn)
    simpa using this
  obtain ⟨hl, M, HH, K, hAR, hM, hHH⟩ := open_ar h2 hz
  have b1 := bounds_u32 whp
  have b2 := bounds_u8 wm
  by_cases hL : 65536 < len
  · exact (law_long hp m a0 len cap of W hL (by omega)).mono fin
  · obtain ⟨hpn, rfl⟩ : ∃ x : Nat, hp = (x : Int) := ⟨hp.toNat, by omega⟩
    obtain ⟨mn, rfl⟩ : ∃ x : Nat, m = (x : Int) := ⟨m.toNat, by omega⟩
    exact (law_b W ⟨K, fun i => HH i % 4096, M, fun i => Nat.mod_lt _ (by omega), hM⟩ HH (fun _ => rfl) of a0 len cap hpn mn (by omega) (by omega) (by omega) (fun i _ => hHH i) (cb_of hL') hAR aa_).mono fin

theorem row_holds : Rows.LawS6184BWholeSaid :=
  OpenClaim.holds_of_wide 3 Ybad.f3 rfl rfl rfl rfl rfl rfl rfl ⟨rfl, rfl, rfl, rfl, rfl⟩ rfl rfl rfl rfl rfl (by kernel_rfl) Ybad.func3 (by kernel_rfl)
    (of_decide_eq_true (by kernel_rfl)) (by unfold Func.isWrapper; first | (rw [if_pos (by decide +kernel)]; kernel_rfl) | (rw [if_neg (by decide +kernel)]; exact ⟨rfl, rfl⟩))
    (fun os started H enc _ => lifted os started H enc)

theorem card_holds : Rows.LawS6184BWholeCardSaid :=
  Claim7.holds_tied_plain_at .later [] [.data] true (true, "d074b35be882f9b62bf4c79cd071fbcb0489ac10988334a99d175d7ec54a4dad") false
    row_holds (fun _ h => by cases h) (by kernel_rfl) (fun _ h => by cases h) lawS6184BWhole_row_tie rfl ⟨rfl, rfl⟩ (by kernel_rfl) rfl
    (fun f fn hf hfn => by
      obtain rfl : f = 3 := Option.some.inj ((show Ybad.prog.funcNamed "example.com/gapkeeper/gapkeeper/internal/lock.LawS6184BWhole" = some 3 by kernel_rfl).symm.trans hf) |>.symm
      obtain rfl : fn = Ybad.f3 := (Option.some.inj (Ybad.func3.symm.trans hfn)).symm
      exact ⟨by kernel_rfl, fun j t ht => by
        rw [Ybad.params3] at ht
        match j, ht with
        | 0, ht => obtain rfl : t = 22 := by simpa using ht.symm
                   exact (show Ybad.prog.wantsStandIn 22 = false by kernel_rfl)
        | 1, ht => obtain rfl : t = 5 := by simpa using ht.symm
                   exact (show Ybad.prog.wantsStandIn 5 = false by kernel_rfl)
        | 2, ht => obtain rfl : t = 23 := by simpa using ht.symm
                   exact (show Ybad.prog.wantsStandIn 23 = false by kernel_rfl)
        | 3, ht => obtain rfl : t = 4 := by simpa using ht.symm
                   exact (show Ybad.prog.wantsStandIn 4 = false by kernel_rfl)
        | j + 4, ht => simp at ht⟩)
    (by kernel_rfl)
#print axioms card_holds

end Go.Proofs.YbulkdxawDoor
