/-
  'Rows.LawS6183CWholeSaid', from the walk (YbulkdxaiLl): the arguments opened.
-/
import Derived.Test.YbulkdxaiLl
import Derived.ProofKit
import Derived.OpenShut
import Derived.SizedLaws
import Derived.Carry
import Derived.Deep.Slices
namespace Go.Proofs.Ybulkdxai.lawC
open Go.ChangeShapes Go.WideShapes Go.ChangeAt Go.RowKit Go.Deep

theorem own : ownKnob Yba.prog.godebug = none := by kernel_rfl
theorem laidOut : laidOutB Yba.prog = true := by kernel_rfl
theorem cells5 : Yba.prog.cellsOf 5 = 1 := by kernel_rfl
theorem cells26 : Yba.prog.cellsOf 26 = 1 := by kernel_rfl
theorem cells29 : Yba.prog.cellsOf 29 = 1 := by kernel_rfl
theorem cells4 : Yba.prog.cellsOf 4 = 1 := by kernel_rfl
theorem bytes5 : Yba.prog.bytesOf 5 = 1 := by kernel_rfl
theorem bytes26 : Yba.prog.bytesOf 26 = 4 := by kernel_rfl
theorem bytes29 : Yba.prog.bytesOf 29 = 8 := by kernel_rfl
theorem bytes4 : Yba.prog.bytesOf 4 = 1 := by kernel_rfl

theorem trod_six {H : Type} {enc : TypeId × Value → H} {w : World} {base : Nat} {spare : Nat → Bool} {held : Bool} {t0 t1 t2 t3 t4 t5 : TypeId} {args : Array Value} {ds : List (DataW H)} {ps : List MemPlace}
    (h : DataW.TrodAll enc Yba.prog w base spare held [t0, t1, t2, t3, t4, t5] args.toList ds ps) :
    ∃ v0 v1 v2 v3 v4 v5 d0 d1 d2 d3 d4 d5 p0 p1 p2 p3 p4 p5, args = #[v0, v1, v2, v3, v4, v5] ∧ ds = [d0, d1, d2, d3, d4, d5] ∧ ps = p0 ++ (p1 ++ (p2 ++ (p3 ++ (p4 ++ p5)))) ∧
      DataW.Trod enc Yba.prog w base spare held t0 v0 d0 p0 ∧ DataW.Trod enc Yba.prog w base spare held t1 v1 d1 p1 ∧ DataW.Trod enc Yba.prog w base spare held t2 v2 d2 p2 ∧
      DataW.Trod enc Yba.prog w base spare held t3 v3 d3 p3 ∧ DataW.Trod enc Yba.prog w base spare held t4 v4 d4 p4 ∧ DataW.Trod enc Yba.prog w base spare held t5 v5 d5 p5 := by
  obtain ⟨v0, vs0, d0, e0, p0, q0, hargs, rfl, rfl, h0, hr0⟩ := trodAll_cons h
  obtain ⟨v1, vs1, d1, e1, p1, q1, rfl, rfl, rfl, h1, hr1⟩ := trodAll_cons hr0
  obtain ⟨v2, vs2, d2, e2, p2, q2, rfl, rfl, rfl, h2, hr2⟩ := trodAll_cons hr1
  obtain ⟨v3, vs3, d3, e3, p3, q3, rfl, rfl, rfl, h3, hr3⟩ := trodAll_cons hr2
  obtain ⟨v4, vs4, d4, e4, p4, q4, rfl, rfl, rfl, h4, hr4⟩ := trodAll_cons hr3
  obtain ⟨v5, vs5, d5, e5, p5, q5, rfl, rfl, rfl, h5, hr5⟩ := trodAll_cons hr4
  obtain ⟨rfl, rfl, rfl⟩ := trodAll_nil hr5
  exact ⟨v0, v1, v2, v3, v4, v5, d0, d1, d2, d3, d4, d5, p0, p1, p2, p3, p4, p5, by cases args; simp_all, rfl, by simp, h0, h1, h2, h3, h4, h5⟩

theorem add_in (b off t : Nat) : (⟨b, off, none⟩ : Addr).add t = ⟨b, off + t, none⟩ := by unfold Addr.add; split <;> simp_all

/-- The block of a slice is there. -/
theorem slice_at {W : World} {base t e : Nat} {a : Addr} {len cap : Nat} (ht : Yba.prog.underlying t = some (.slice e)) (h : Value.okWide Yba.prog W .any base t (.slice (some a) len cap)) : a.block < W.heap.size := by
  simp only [Value.okWide, ht, Cell.okWide, Cell.ok] at h
  obtain ⟨_, _, row, n, hsh, _⟩ := h.2.2
  rcases Nat.lt_or_ge a.block W.heap.size with h1 | h1
  · exact h1
  · simp [World.shape?, Array.getElem?_eq_none h1] at hsh

/-- What a slice of whole numbers holds. -/
theorem open_is {H : Type} {enc : TypeId × Value → H} {W : World} {t e : TypeId} {k : IntKind} {a0 : Option Addr} {len cap : Nat} {d : DataW H} {p : List MemPlace} (m : Nat) (ht : Yba.prog.underlying t = some (.slice e)) (he : Yba.prog.underlying e = some (.int k)) (hc : Yba.prog.cellsOf e = 1)
    (hb : 1 ≤ Yba.prog.bytesOf e) (hm : ∀ n, (Lit.int k n).wf = true → 0 ≤ n ∧ n < m) (h : DataW.Trod enc Yba.prog W 0 (fun _ => true) true t (.slice a0 len cap) d p)
    (hs : ∀ n ∈ d.weights Yba.prog t, n ≤ reachBytes) : len < 2 ^ 49 ∧ ∃ Z : Nat → Nat, NR k W a0 len (fun j => (Z j : Int)) ∧ ∀ j, j < len → Z j < m := by
  obtain ⟨fuel, hf⟩ := h
  rcases open_ints ht he hc hf with ⟨hcs, hx⟩ | ⟨a, len', cap', zs, hcs, _, hl, hm2, hz, hx, hcell, hwf⟩
  · simp [Value.cells] at hcs
    obtain ⟨rfl, rfl, rfl⟩ := hcs
    exact ⟨by omega, fun _ => 0, fun h => absurd h (by omega), fun j hj => absurd hj (by omega)⟩
  · simp [Value.cells] at hcs
    obtain ⟨rfl, rfl, rfl⟩ := hcs
    simp only [if_true] at hz
    have hd := congrArg Prod.fst hx
    simp only at hd
    subst hd
    refine ⟨?_, fun j => (zs.getD j 0).toNat, fun h0 => ?_, fun j hj => ?_⟩
    · have := hs _ (by simp only [DataW.weights, ht]; exact List.mem_cons_self ..)
      simp [lits] at this
      unfold reachBytes at this
      have h2 : (min len zs.length + (zs.length - len)) * 1 ≤ (min len zs.length + (zs.length - len)) * Yba.prog.bytesOf e := Nat.mul_le_mul_left _ hb
      omega
    · obtain ⟨b, off, spot⟩ := a
      have hspot : spot = none := by simpa [Addr.add] using World.cell?_spot (hcell 0 (by omega))
      subst hspot
      refine ⟨b, off, rfl, fun j hj => ?_⟩
      rw [← add_in, hcell j (by omega)]
      have h2 := hm (zs.getD j 0) (hwf _ (by have : j < zs.length := by omega
                                             simp [List.getD, List.getElem?_eq_getElem this]))
      show some (Value.int k (zs.getD j 0)) = some (Value.int k (((zs.getD j 0).toNat : Nat) : Int))
      rw [Int.toNat_of_nonneg h2.1]
    · have h2 := hm (zs.getD j 0) (hwf _ (by have : j < zs.length := by omega
                                             simp [List.getD, List.getElem?_eq_getElem this]))
      show (zs.getD j 0).toNat < m
      omega

/-- What a slice of bools holds. -/
theorem open_bs {H : Type} {enc : TypeId × Value → H} {W : World} {a0 : Option Addr} {len cap : Nat} {d : DataW H} {p : List MemPlace} (h : DataW.Trod enc Yba.prog W 0 (fun _ => true) true 25 (.slice a0 len cap) d p)
    (hs : ∀ n ∈ d.weights Yba.prog 25, n ≤ reachBytes) : len < 2 ^ 49 ∧ ∃ B : Nat → Bool, BR W a0 len B := by
  obtain ⟨fuel, hf⟩ := h
  rcases open_slice1 Yba.underlying25 cells4 hf with ⟨hcs, hx⟩ | ⟨a, len', cap', m, n, V, D, Pl, hcs, _, hl, hm2, hmm, hx, hcell⟩
  · simp [Value.cells] at hcs
    obtain ⟨rfl, rfl, rfl⟩ := hcs
    exact ⟨by omega, fun _ => false, fun h => absurd h (by omega)⟩
  · simp [Value.cells] at hcs
    obtain ⟨rfl, rfl, rfl⟩ := hcs
    simp only [if_true] at hmm
    subst hmm
    have hd := congrArg Prod.fst hx
    simp only at hd
    subst hd
    refine ⟨?_, ?_⟩
    · have := hs _ (by simp only [DataW.weights, Yba.underlying25]; exact List.mem_cons_self ..)
      rw [bytes4] at this
      simp at this
      unfold reachBytes at this
      omega
    · have key : ∀ i, ∃ bb, i < len → W.cell? (a.add i) = some (.bool bb) := fun i => by
        by_cases hi : i < len
        · obtain ⟨c0, t0⟩ := hcell i (by omega)
          obtain ⟨bb, e0, _⟩ := DataW.trod_bool Yba.underlying4 t0
          simp only [List.cons.injEq, and_true] at e0
          exact ⟨bb, fun _ => by rw [c0, e0]⟩
        · exact ⟨false, fun h => absurd h hi⟩
      refine ⟨fun i => (key i).choose, fun h0 => ?_⟩
      obtain ⟨b, off, spot⟩ := a
      have hspot : spot = none := by simpa [Addr.add] using World.cell?_spot ((key 0).choose_spec h0)
      subst hspot
      refine ⟨b, off, rfl, fun j hj => ?_⟩
      rw [← add_in]
      exact (key j).choose_spec hj

set_option maxHeartbeats 1000000 in
set_option maxRecDepth 100000 in
theorem lifted (os : Os) (started : os.Started) (H : Type) (enc : TypeId × Value → H) :
    ReturnsInHanded {} Yba.checked os 3 .any (Rows.lawS6183CWholeSpec.pre6 enc Yba.prog Yba.f3 Rows.lawS6183CWholeRow.domain false) (Rows.lawS6183CWholeSpec.post enc Yba.prog Yba.f3 false true false false) := by
  refine returnsInHanded_of_change_sized (C := Yba.checked) own started (by kernel_rfl) Yba.func3
    (ChangeSpec.witness6 (enc := enc) (C := Yba.checked) false ⟨#[], #[.slice none 0 0, .slice none 0 0, .slice none 0 0, .slice none 0 0, .slice none 0 0, .int .u8 0], []⟩ 8 (by kernel_rfl) (by kernel_rfl) (by kernel_rfl) (by kernel_rfl)) ?_
  intro W base args ds gs before hval0 hW _ hsz0 _
  have hval : ∀ (j : Nat) t v, Yba.f3.params[j]? = some t → args[j]? = some v → Value.okWide Yba.prog W .any base t v := hval0
  have hsz : (DataW.weightsEach Yba.prog (Yba.f3.params.toList ++ Rows.lawS6183CWholeSpec.plain.varTypes Yba.prog) (ds ++ gs)).all (· ≤ reachBytes) = true := hsz0
  have hW' := hW
  obtain ⟨p, q, hA0, hV, rfl, hfz, hnd⟩ := hW
  have hA : DataW.TrodAll enc Yba.prog W 0 (fun _ => true) true Yba.f3.params.toList args.toList ds p := hA0
  rw [Yba.params3] at hA hval hsz
  obtain ⟨v0, v1, v2, v3, v4, v5, d0, d1, d2, d3, d4, d5, p0, p1, p2, p3, p4, p5, rfl, rfl, rfl, h0, h1, h2, h3, h4, h5⟩ := trod_six hA
  obtain ⟨rfl, rfl⟩ := trodVars_none hV
  obtain ⟨qc, rfl, rfl, rfl, wq⟩ := open_int Yba.underlying5 (hval 5 5 v5 rfl rfl) h5
  obtain ⟨ka, cl, kc, rfl⟩ := okWide_slice Yba.underlying22 (hval 0 22 v0 rfl rfl)
  obtain ⟨ta, tgl, tac, rfl⟩ := okWide_slice Yba.underlying23 (hval 1 23 v1 rfl rfl)
  obtain ⟨sa, ns, sac, rfl⟩ := okWide_slice Yba.underlying23 (hval 2 23 v2 rfl rfl)
  obtain ⟨wa, swl, wac, rfl⟩ := okWide_slice Yba.underlying24 (hval 3 24 v3 rfl rfl)
  obtain ⟨aa, al, ac, rfl⟩ := okWide_slice Yba.underlying25 (hval 4 25 v4 rfl rfl)
  have at_ : ∀ ad, ta = some ad → ad.block < W.heap.size := fun ad e => slice_at Yba.underlying23 (e ▸ hval 1 23 _ rfl rfl)
  have as_ : ∀ ad, sa = some ad → ad.block < W.heap.size := fun ad e => slice_at Yba.underlying23 (e ▸ hval 2 23 _ rfl rfl)
  have aw_ : ∀ ad, wa = some ad → ad.block < W.heap.size := fun ad e => slice_at Yba.underlying24 (e ▸ hval 3 24 _ rfl rfl)
  have aa_ : ∀ ad, aa = some ad → ad.block < W.heap.size := fun ad e => slice_at Yba.underlying25 (e ▸ hval 4 25 _ rfl rfl)
  clear hA0 hval0
  have hlt : ∀ x ∈ p0 ++ (p1 ++ (p2 ++ (p3 ++ p4))), x.block < W.heap.size := fun x hx => hW'.lt x (by simp at hx ⊢; rcases hx with h | h | h | h | h <;> simp [h])
  have fin : ∀ (e : Ending) (W' : World), (e = .returned (.bool true) ∧ Below W.heap.size W W') → ∃ v, e = .returned v ∧
      Rows.lawS6183CWholeSpec.post enc Yba.prog Yba.f3 false true false false W #[.slice ka cl kc, .slice ta tgl tac, .slice sa ns sac, .slice wa swl wac, .slice aa al ac, .int .u8 qc] v W' := by
    rintro e W' ⟨rfl, hb⟩
    refine ⟨_, rfl, _, _, _, [], p0 ++ (p1 ++ (p2 ++ (p3 ++ (p4 ++ [])))), [], hW', ?_, ?_, rfl, hb.frame _, fun h => by cases h⟩
    · exact trodAll_mk1 (shut_bool Yba.underlying4 _)
    · refine ⟨_, _, (Below.trod laidOut (by kernel_rfl) (of_decide_eq_true (by kernel_rfl)) h0 hb (fun x hx => hlt x (by simp [hx]))), ⟨_, _, (Below.trod laidOut (by kernel_rfl) (of_decide_eq_true (by kernel_rfl)) h1 hb (fun x hx => hlt x (by simp [hx]))), ⟨_, _, (Below.trod laidOut (by kernel_rfl) (of_decide_eq_true (by kernel_rfl)) h2 hb (fun x hx => hlt x (by simp [hx]))), trodAll_mk3 (Below.trod laidOut (by kernel_rfl) (of_decide_eq_true (by kernel_rfl)) h3 hb (fun x hx => hlt x (by simp [hx]))) (Below.trod laidOut (by kernel_rfl) (of_decide_eq_true (by kernel_rfl)) h4 hb (fun x hx => hlt x (by simp [hx]))) (shut_int Yba.underlying5 wq), rfl⟩, rfl⟩, rfl⟩
  have hz : ∀ (j : Nat) (t : TypeId) (d : DataW H), [22, 23, 23, 24, 25, 5][j]? = some t → [d0, d1, d2, d3, d4, DataW.lit (.int .u8 qc)][j]? = some d → ∀ n ∈ d.weights Yba.prog t, n ≤ reachBytes := by
    intro j t d ht hd n hn
    have := List.all_eq_true.1 hsz n (DataW.weights_mem_each (j := j) (t := t) (by rw [List.getElem?_append_left (List.getElem?_eq_some_iff.1 ht).1]; exact ht) (by rw [List.getElem?_append_left (List.getElem?_eq_some_iff.1 hd).1]; exact hd) n hn)
    simpa using this
  obtain ⟨l0, CN, n0, m0⟩ := open_is 256 Yba.underlying22 Yba.underlying5 cells5 (by rw [bytes5]; decide) (fun n h => by have := bounds_u8 h; omega) h0 (hz 0 22 d0 rfl rfl)
  obtain ⟨l1, TG, n1, m1⟩ := open_is 4294967296 Yba.underlying23 Yba.underlying26 cells26 (by rw [bytes26]; decide) (fun n h => by have := bounds_u32 h; omega) h1 (hz 1 23 d1 rfl rfl)
  obtain ⟨l2, ST, n2, m2⟩ := open_is 4294967296 Yba.underlying23 Yba.underlying26 cells26 (by rw [bytes26]; decide) (fun n h => by have := bounds_u32 h; omega) h2 (hz 2 23 d2 rfl rfl)
  obtain ⟨l3, SW, n3, m3⟩ := open_is 18446744073709551616 Yba.underlying24 Yba.underlying29 cells29 (by rw [bytes29]; decide) (fun n h => by have := bounds_u64 h; omega) h3 (hz 3 24 d3 rfl rfl)
  obtain ⟨l4, AB, n4⟩ := open_bs h4 (hz 4 25 d4 rfl rfl)
  by_cases hL : 1048576 < cl + tgl + ns + swl + al
  · exact (law_long ka ta sa wa aa cl kc tgl tac ns sac swl wac al ac qc W ⟨l0, l1, l2, l3, l4⟩ hL).mono fin
  · have hq := bounds_u8 wq
    obtain ⟨bl, hbl⟩ : ∃ bl : Nat, qc = (bl : Int) := ⟨qc.toNat, by omega⟩
    subst hbl
    exact (law_c ka ta sa wa aa cl kc tgl tac ns sac swl wac al ac bl W (by omega) (by omega) CN TG ST SW AB n0 n1 n2 n3 n4 m0 m1 m2 m3 at_ as_ aw_ aa_).mono fin

theorem over : Rows.lawS6183CWholeRow.holds Yba.pinned (OpenSpec.ofChange Rows.lawS6183CWholeSpec) :=
  OpenClaim.holds_of_wide 3 Yba.f3 rfl rfl rfl rfl rfl rfl rfl ⟨rfl, rfl, rfl, rfl, rfl⟩ rfl rfl rfl rfl rfl (by kernel_rfl) Yba.func3 (by kernel_rfl)
    (of_decide_eq_true (by kernel_rfl)) (by unfold Func.isWrapper; first | (rw [if_pos (by decide +kernel)]; kernel_rfl) | (rw [if_neg (by decide +kernel)]; exact ⟨rfl, rfl⟩))
    (fun os started H enc _ => lifted os started H enc)

theorem proved : Rows.LawS6183CWholeSaid := over
#print axioms proved

end Go.Proofs.Ybulkdxai.lawC
