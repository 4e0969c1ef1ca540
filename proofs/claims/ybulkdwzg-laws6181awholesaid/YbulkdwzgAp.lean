/-
  LawS6181AWhole (3): what a round of its loops does to what is known, outside the walk.
-/
import Derived.Test.YbulkdwzgAl
namespace Go.Proofs.Ybulkdwzg
open Go.RowKit Go.Maps Go.WideMaps Go.WideElems

theorem inp_cells {w : World} {b off n : Nat} {X : Nat → El} (h : Inp w b off n X) (i : Nat) (hi : i < n) :
    w.cell? ⟨b, off + i * 6, none⟩ = some (.string (X i).s) ∧ w.cell? ⟨b, off + i * 6 + 1, none⟩ = some (.string (X i).v) ∧ w.cell? ⟨b, off + i * 6 + 2, none⟩ = some (.bool (X i).ab) ∧
    w.cell? ⟨b, off + i * 6 + 3, none⟩ = some (.int .u32 (X i).mark) ∧ w.cell? ⟨b, off + i * 6 + 4, none⟩ = some (.int .i64 (X i).fi) ∧ w.cell? ⟨b, off + i * 6 + 5, none⟩ = some (.slice (X i).wa (X i).wl (X i).wc) := by
  have hc := (h i hi).1
  exact ⟨hc 0 _ rfl, hc 1 _ rfl, hc 2 _ rfl, hc 3 _ rfl, hc 4 _ rfl, hc 5 _ rfl⟩

theorem bcell {W w1 : World} (hb : Below W.heap.size W w1) : (∀ b o, b < W.heap.size → w1.cell? ⟨b, o, none⟩ = W.cell? ⟨b, o, none⟩) ∧ (∀ b o, b < W.heap.size → w1.frozen? ⟨b, o, none⟩ = W.frozen? ⟨b, o, none⟩) :=
  ⟨fun b o h => hb.cell (p := ⟨b, o, none⟩) h, fun b o h => hb.frozen (p := ⟨b, o, none⟩) h⟩

theorem WOK.later {w w' : World} {x : El} (h : WOK w x) (hb : Below w.heap.size w w') : WOK w' x := by
  rcases h with h | ⟨ad, h1, h2, h3, h4⟩
  · exact .inl h
  · exact .inr ⟨ad, h1, h2, h3, fun j v hj => cell_later hb (h4 j v hj)⟩

theorem six_later {w w' : World} {T : Nat} {v0 v1 v2 v3 v4 v5 : Value} (hb : Below w.heap.size w w') (t0 : w.cell? ⟨T, 0, none⟩ = some v0) (t1 : w.cell? ⟨T, 1, none⟩ = some v1) (t2 : w.cell? ⟨T, 2, none⟩ = some v2) (t3 : w.cell? ⟨T, 3, none⟩ = some v3) (t4 : w.cell? ⟨T, 4, none⟩ = some v4) (t5 : w.cell? ⟨T, 5, none⟩ = some v5) :
    w'.cell? ⟨T, 0, none⟩ = some v0 ∧ w'.cell? ⟨T, 1, none⟩ = some v1 ∧ w'.cell? ⟨T, 2, none⟩ = some v2 ∧ w'.cell? ⟨T, 3, none⟩ = some v3 ∧ w'.cell? ⟨T, 4, none⟩ = some v4 ∧ w'.cell? ⟨T, 5, none⟩ = some v5 :=
  ⟨cell_later hb t0, cell_later hb t1, cell_later hb t2, cell_later hb t3, cell_later hb t4, cell_later hb t5⟩

/-- Six cells of a row, and that they may be written. -/
theorem six_there (w : World) (A o : Nat) (C : List Value) (t : TypeId) (hA : w.heap[A]? = some (.cells C.toArray t (0, 0))) (h : o + 6 ≤ C.length) :
    ∃ v0 v1 v2 v3 v4 v5, (w.cell? ⟨A, o, none⟩ = some v0 ∧ w.frozen? ⟨A, o, none⟩ = false) ∧ (w.cell? ⟨A, o + 1, none⟩ = some v1 ∧ w.frozen? ⟨A, o + 1, none⟩ = false) ∧ (w.cell? ⟨A, o + 2, none⟩ = some v2 ∧ w.frozen? ⟨A, o + 2, none⟩ = false) ∧
      (w.cell? ⟨A, o + 3, none⟩ = some v3 ∧ w.frozen? ⟨A, o + 3, none⟩ = false) ∧ (w.cell? ⟨A, o + 4, none⟩ = some v4 ∧ w.frozen? ⟨A, o + 4, none⟩ = false) ∧ (w.cell? ⟨A, o + 5, none⟩ = some v5 ∧ w.frozen? ⟨A, o + 5, none⟩ = false) := by
  have hc : ∀ i, i < C.length → w.cell? ⟨A, i, none⟩ = some (C.getD i undef) ∧ w.frozen? ⟨A, i, none⟩ = false := fun i hi => by
    refine ⟨cell_row w A i C t _ hA (by simp [hi]), frozen_of_row w A i _ _ hA⟩
  exact ⟨_, _, _, _, _, _, hc o (by omega), hc (o + 1) (by omega), hc (o + 2) (by omega), hc (o + 3) (by omega), hc (o + 4) (by omega), hc (o + 5) (by omega)⟩

theorem rel1 {A n k : Nat} {w1 wr wT w2 w3 : World} {X : Nat → El} {x : El} {C : List Value} {Wv : Nat → Value} {ca : Option Addr} {cl cc : Nat} (hx : x = X k) (hk : k < n) (hA3 : w3.heap[A]? = some (.cells C.toArray 32 (0, 0))) (hrow : Row C X Wv n k)
    (hCL : ∀ i, i < k → CL wr (A + 1) (X i) (Wv i)) (hgr : w1.grownBy wr (some A)) (hAr : A < wr.heap.size) (hbT : Below wr.heap.size wr wT) (hb2 : Below wT.heap.size wT.drew w2) (hb3 : Below w2.heap.size w2 w3) (hcl : CL w3 w2.heap.size x (.slice ca cl cc)) :
    ∃ C' Wv', Hid (((((((w3.setCell ⟨A, k * 6, none⟩ (.string (nameB x.s k))).setCell ⟨A, k * 6 + 1, none⟩ (.string x.v)).setCell ⟨A, k * 6 + 2, none⟩ (.bool x.ab)).setCell ⟨A, k * 6 + 3, none⟩ (.int .u32 x.mark)).setCell ⟨A, k * 6 + 4, none⟩ (.int .i64 x.fi)).setCell ⟨A, k * 6 + 5, none⟩ (.slice ca cl cc)).heap[A]? = some (.cells C'.toArray 32 (0, 0))) ∧
      Row C' X Wv' n (k + 1) ∧ Hid (∀ i, i < k + 1 → CL ((((((w3.setCell ⟨A, k * 6, none⟩ (.string (nameB x.s k))).setCell ⟨A, k * 6 + 1, none⟩ (.string x.v)).setCell ⟨A, k * 6 + 2, none⟩ (.bool x.ab)).setCell ⟨A, k * 6 + 3, none⟩ (.int .u32 x.mark)).setCell ⟨A, k * 6 + 4, none⟩ (.int .i64 x.fi)).setCell ⟨A, k * 6 + 5, none⟩ (.slice ca cl cc)) (A + 1) (X i) (Wv' i)) ∧
      w1.grownBy ((((((w3.setCell ⟨A, k * 6, none⟩ (.string (nameB x.s k))).setCell ⟨A, k * 6 + 1, none⟩ (.string x.v)).setCell ⟨A, k * 6 + 2, none⟩ (.bool x.ab)).setCell ⟨A, k * 6 + 3, none⟩ (.int .u32 x.mark)).setCell ⟨A, k * 6 + 4, none⟩ (.int .i64 x.fi)).setCell ⟨A, k * 6 + 5, none⟩ (.slice ca cl cc)) (some A) := by
  have e : ((((((w3.setCell ⟨A, k * 6, none⟩ (.string (nameB x.s k))).setCell ⟨A, k * 6 + 1, none⟩ (.string x.v)).setCell ⟨A, k * 6 + 2, none⟩ (.bool x.ab)).setCell ⟨A, k * 6 + 3, none⟩ (.int .u32 x.mark)).setCell ⟨A, k * 6 + 4, none⟩ (.int .i64 x.fi)).setCell ⟨A, k * 6 + 5, none⟩ (.slice ca cl cc)) = w3.setCells A (k * 6) (outC x k (.slice ca cl cc)) := rfl
  rw [e]
  obtain ⟨s1, s2, s3⟩ := heap_setCells A 32 (outC x k (.slice ca cl cc)) (k * 6) C w3 hA3 (by rw [hrow.1, outC_len]; omega)
  obtain ⟨w4, hw4⟩ : ∃ w4, w4 = w3.setCells A (k * 6) (outC x k (.slice ca cl cc)) := ⟨_, rfl⟩
  rw [← hw4] at s1 s2 s3 ⊢
  have z2 : wT.heap.size ≤ w2.heap.size := hb2.size
  have zT := hbT.size
  have z3 := hb3.size
  have hblk : ∀ g, g < wr.heap.size → g ≠ A → w4.heap[g]? = wr.heap[g]? := fun g hg hne => by
    rw [s2.block g (by omega) (by simpa using hne), hb3.block g (by omega), hb2.block g (by omega)]
    exact hbT.block g hg
  refine ⟨_, fun i => if i = k then .slice ca cl cc else Wv i, s1, ?_, fun i hi => ?_, ?_⟩
  · subst hx; exact row_step hrow hk _ rfl
  · show CL w4 (A + 1) (X i) (if i = k then .slice ca cl cc else Wv i)
    by_cases ei : i = k
    · subst ei
      rw [if_pos rfl, ← hx]
      have h4 := hcl.stays (w' := w4) (by omega) (fun g h1 h2 => s2.block g h2 (by simp; omega))
      rcases h4 with h | ⟨ad, g, c, h1, h2, h3, h4, h5⟩
      · exact .inl h
      · exact .inr ⟨ad, g, c, h1, h2, by omega, h4, h5⟩
    · rw [if_neg ei]
      exact (hCL i (by omega)).stays (by omega) (fun g h1 h2 => hblk g h2 (by omega))
  · refine ⟨?_, ?_, ?_, by have := hgr.size; omega, fun g h1 h2 => ?_⟩
    · rw [s2.os, hb3.os, hb2.os]; exact hbT.os.trans hgr.os
    · rw [s2.tape, hb3.tape, hb2.tape]; exact hbT.tape.trans hgr.tape
    · rw [s2.output, hb3.output, hb2.output]; exact hbT.output.trans hgr.output
    · have := hgr.size
      rw [hblk g (by omega) (by simpa using h2)]
      exact hgr.block g h1 h2


theorem mk33 (n : Nat) (w : World) : (Instr.makeMap 33 (some (.int .i64 (n : Int)))).run Yba.prog w = .ok (.map (some w.heap.size)) (w.alloc (.map #[] 0)) := by
  simp [Instr.makeMap, run_underlying Yba.underlying33]
  rfl

/-- The map holds just the first k names, each at its index. -/
def Fl (D : DataW Unit) (G : Nat → ByteArray) (n k : Nat) : Prop :=
  Maps.size D = k ∧ (∀ i, i < k → Maps.has D (key (G i)) = true ∧ D.atKey (key (G i)) z0 = iv i) ∧ ∀ i, k ≤ i → i < n → Maps.has D (key (G i)) = false

theorem fl_start (G : Nat → ByteArray) (n : Nat) : Fl (.map []) G n 0 := ⟨rfl, fun i hi => by omega, fun i _ _ => rfl⟩

theorem fl_step {D : DataW Unit} {G : Nat → ByteArray} {n k : Nat} (h : Fl D G n k) (hm : IsMap D) (ht : Tidy D) (hk : WideAt.IsKeyLit (key (G k))) (hkn : k < n) (hinj : ∀ i l, i < n → l < n → G i = G l → i = l) : Fl (D.put (key (G k)) (iv k)) G n (k + 1) := by
  obtain ⟨hs, hin, hout⟩ := h
  refine ⟨by rw [size_put ht, if_neg (by rw [hout k (Nat.le_refl _) hkn]; simp), hs], fun i hi => ?_, fun i h1 h2 => ?_⟩
  · by_cases e : i = k
    · subst e; exact ⟨has_put_same hm hk _, atKey_put_same hm hk _ _⟩
    · have hn : key (G i) ≠ key (G k) := fun e' => e (hinj i k (by omega) hkn (key_inj e'))
      rw [has_put_other hn, atKey_put_other hn]
      exact hin i (by omega)
  · have hn : key (G i) ≠ key (G k) := fun e' => by have := hinj i k h2 hkn (key_inj e'); omega
    rw [has_put_other hn]
    exact hout i (by omega) h2

/-- The index, or none, ahead of the deletion. -/
def IxOK (w : World) (mv : Option Nat) (n B : Nat) (G : Nat → ByteArray) : Prop :=
  (mv = none ∧ n ≤ 15) ∨ ∃ M cnt D, mv = some M ∧ B ≤ M ∧ MI w M cnt D ∧ cnt ≤ 4096 ∧ Maps.size D = n ∧ ∀ k, k < n → Maps.has D (key (G k)) = true ∧ D.atKey (key (G k)) z0 = iv k

theorem IxOK.later {w w' : World} {mv : Option Nat} {n B B' : Nat} {G : Nat → ByteArray} (h : IxOK w mv n B G) (hb : Below w.heap.size w w') (hB : B' ≤ B) : IxOK w' mv n B' G := by
  rcases h with h | ⟨M, cnt, D, h1, h2, h3, h4⟩
  · exact .inl h
  · have hlt : M < w.heap.size := World.ownsMap.lt h3
    exact .inr ⟨M, cnt, D, h1, by omega, World.ownsMap.kept (row := none) h3 ⟨hb.os, hb.tape, hb.output, hb.size, fun k hk _ => hb.block k hk⟩ (by simp), h4⟩

/-- .. and behind it. -/
def IxPost (w : World) (mv : Option Nat) (n j : Nat) (G : Nat → ByteArray) : Prop :=
  mv = none ∨ ∃ M cnt D, mv = some M ∧ MI w M cnt D ∧ Maps.size D = n - 1 ∧ ∀ k, k < n - 1 → Maps.has D (key (G (src j k))) = true ∧ D.atKey (key (G (src j k))) z0 = iv k

theorem delAttr_any (B E A n j : Nat) (mv : Option Nat) (N C : List Value) (G : Nat → ByteArray) (w : World)
    (hEb : w.heap[E]? = some (.cells N.toArray 46 (0, 0))) (hN13 : N[13]? = some (.slice (some ⟨A, 0, none⟩) n n)) (hN14 : N[14]? = some (.map mv))
    (hAb : w.heap[A]? = some (.cells C.toArray 32 (0, 0))) (hC : C.length = n * 6) (h1 : ∀ u ∈ C, u.oneCell' = true) (hG : ∀ k, k < n → C[k * 6]? = some (.string (G k))) (hGs : ∀ k, k < n → (G k).size ≤ maxLen) (hinj : ∀ k l, k < n → l < n → G k = G l → k = l)
    (hix : IxOK w mv n B G) (hn : n ≤ 4096) (hj : j < n) (hEA : E ≠ A) (hBE : B ≤ E) (hBA : B ≤ A) (hB : B ≤ w.heap.size) :
    Calls Yba.prog 8 #[.pointer (some ⟨E, 0, none⟩), .int .i64 j] w fun e w' => e = .returned (.tuple #[]) ∧ w'.heap[E]? = some (.cells (N.set 13 (.slice (some ⟨A, 0, none⟩) (n - 1) n)).toArray 46 (0, 0)) ∧ w'.heap[A]? = some (.cells (delRow C j).toArray 32 (0, 0)) ∧
      IxPost w' mv n j G ∧ Below B w w' ∧ (∀ k, k < w.heap.size → k ≠ E → k ≠ A → some k ≠ mv → w'.heap[k]? = w.heap[k]?) := by
  rcases hix with ⟨rfl, h15⟩ | ⟨M, cnt, D, rfl, hBM, hM, hcnt, hsz, hall⟩
  · refine (delAttr_nil B E A n j N C w hEb hN13 hN14 hAb hC h1 h15 hj hEA hBE hBA hB).mono ?_
    rintro e w' ⟨rfl, h2, h3, h4, h5⟩
    exact ⟨rfl, h2, h3, .inl rfl, h4, fun k a1 a2 a3 _ => h5 k a1 a2 a3⟩
  · refine (delAttr_map B E A M n j cnt N C D G w hEb hN13 hN14 hAb hC h1 hG hGs hinj hM hall hsz hcnt hn hj hEA hBE hBA hBM hB).mono ?_
    rintro e w' ⟨rfl, h2, h3, ⟨D', cnt', h4, h5⟩, h6, h7⟩
    exact ⟨rfl, h2, h3, .inr ⟨M, cnt', D', rfl, h4, h5⟩, h6, fun k a1 a2 a3 a4 => h7 k a1 a2 a3 (fun e => a4 (by rw [e]))⟩


theorem nameB_size (s : ByteArray) (i : Nat) (hi : i ≤ 4096) : (nameB s i).size ≤ s.size + 6 := by
  have hl := lsd_len i i (by omega)
  have e : (nameB s i).size = s.size + 1 + (digs i).length := by
    have e2 : s.data.toList.length = s.size := rfl
    show (s.data.toList ++ [35] ++ digs i).length = _
    rw [List.length_append, List.length_append, e2]; rfl
  rw [e]
  unfold digs
  split
  · simp
  · simp; omega

/-- slices.Equal of an element's writes and their copy. -/
theorem equal_cl (x : El) (B : Nat) (va : Option Addr) (vl vc : Nat) (w : World) (hW : WOK w x) (hcl : CL w B x (.slice va vl vc)) :
    Calls Yba.prog 9 #[.slice va vl vc, .slice x.wa x.wl x.wc] w fun e w' => e = .returned (.bool true) ∧ ∃ q, w' = w.drewN q := by
  rcases hcl with ⟨h1, h2⟩ | ⟨ad, g, c, h1, h2, _, _, h5⟩
  · rcases hW with ⟨_, h3, h4⟩ | ⟨ad, h3, _⟩
    · cases h2
      rw [h1, h3, h4]
      exact equal_zero none none 0 0 w
    · rw [h1] at h3; cases h3
  · cases h2
    rcases hW with ⟨h3, _⟩ | ⟨ad', h3, h6, h7, h8⟩
    · rw [h1] at h3; cases h3
    · rw [h1] at h3
      cases h3
      rw [h1]
      by_cases h0 : x.wl = 0
      · rw [h0]; exact equal_zero _ _ _ _ w
      · obtain ⟨b, off, spot⟩ := ad
        have hz : 0 < x.zs.length := by omega
        have hc0 := h8 0 (.int .i64 x.zs[0]) (by simp [hz])
        have hspot : spot = none := by simpa [Addr.add] using World.cell?_spot hc0
        subst hspot
        refine equal_pos g 0 b off x.wl _ x.wc (fun j => x.zs.getD j 0) w (by omega) (fun j hj => by simpa using h5 j hj) (fun j hj => ?_)
        have hj' : j < x.zs.length := by omega
        have := h8 j (.int .i64 x.zs[j]) (by simp [hj'])
        have hadd : (⟨b, off, none⟩ : Addr).add j = ⟨b, off + j, none⟩ := by unfold Addr.add; split <;> simp_all
        rw [hadd] at this
        rw [this]
        simp [hj']

theorem CL.shape {w : World} {B : Nat} {x : El} {v : Value} (h : CL w B x v) : ∃ va vl vc, v = .slice va vl vc ∧ va.isNone = x.wa.isNone := by
  rcases h with ⟨h1, rfl⟩ | ⟨ad, g, c, h1, rfl, _⟩
  · exact ⟨_, _, _, rfl, by rw [h1]⟩
  · exact ⟨_, _, _, rfl, by rw [h1]; rfl⟩

/-- 'v, ok := m[name]'. -/
theorem look33 {w : World} {M cnt m : Nat} {D : DataW Unit} {s : ByteArray} (hM : MI w M cnt D) (hs : s.size ≤ maxLen) (h1 : Maps.has D (key s) = true) (h2 : D.atKey (key s) z0 = iv m) (q : Nat) :
    (Instr.lookup 33 (.map (some M)) (.string s) true).run Yba.prog (w.drewN q) = .ok (.tuple #[.int .i64 m, .bool true]) (w.drewN q) := by
  have hM' : (w.drewN q).ownsMap Yba.prog 9 (plainElem Yba.prog 3) M cnt D := hM
  have hz : (zeroValue 3).run Yba.prog (w.drewN q) = .ok (.int .i64 0) (w.drewN q) := by kernel_rfl
  obtain ⟨v, ps, hr, hv⟩ := hM'.look_ok law9 Yba.underlying33 hz (plainElem_int Yba.underlying3 (by decide)) (key_of s hs)
  rw [h1] at hr
  have hv' : plainElem (H := Unit) Yba.prog 3 v = some (iv m, ps) := by rw [← h2]; exact hv
  obtain ⟨a, rfl, ha, _⟩ := plainElem_int_inv Yba.underlying3 hv'
  simp [iv] at ha
  rw [hr, ha.1]

theorem MI.obj {w : World} {M cnt : Nat} {D : DataW Unit} (h : MI w M cnt D) : ∃ es clock, w.heap[M]? = some (.map es clock) ∧ es.size = Maps.size D := by
  obtain ⟨es, clock, hb, _, _, rfl⟩ := h
  exact ⟨es, clock, hb, by simp [Maps.size, length_sorted]⟩


/-- The six cells of attribute m behind the deletion. -/
theorem del_cells {w : World} {A n j m : Nat} {C : List Value} {X : Nat → El} {Wv : Nat → Value} (hA : w.heap[A]? = some (.cells (delRow C j).toArray 32 (0, 0))) (hR : Row C X Wv n n) (hj : j < n) (hm : m < n - 1) :
    w.cell? ⟨A, m * 6, none⟩ = some (.string (nameB (X (src j m)).s (src j m))) ∧ w.cell? ⟨A, m * 6 + 1, none⟩ = some (.string (X (src j m)).v) ∧ w.cell? ⟨A, m * 6 + 2, none⟩ = some (.bool (X (src j m)).ab) ∧
    w.cell? ⟨A, m * 6 + 3, none⟩ = some (.int .u32 (X (src j m)).mark) ∧ w.cell? ⟨A, m * 6 + 4, none⟩ = some (.int .i64 (X (src j m)).fi) ∧ w.cell? ⟨A, m * 6 + 5, none⟩ = some (Wv (src j m)) := by
  have h : ∀ f v, f < 6 → (outC (X (src j m)) (src j m) (Wv (src j m)))[f]? = some v → w.cell? ⟨A, m * 6 + f, none⟩ = some v := fun f v hf hv => by
    refine cell_row w A (m * 6 + f) _ 32 _ hA ?_
    rw [delRow_get C n j m f hR.1 hj hm hf, ← hv]
    exact hR.2.2 _ (src_lt hm) f hf
  exact ⟨h 0 _ (by omega) rfl, h 1 _ (by omega) rfl, h 2 _ (by omega) rfl, h 3 _ (by omega) rfl, h 4 _ (by omega) rfl, h 5 _ (by omega) rfl⟩

theorem below_two {wr wT w2 : World} (h : Below wr.heap.size wr wT) (h2 : Below wT.drew.heap.size wT.drew w2) : Below wr.heap.size wr w2 :=
  h.trans ⟨h2.os, h2.tape, h2.output, h2.size, fun k hk => h2.block k (Nat.lt_of_lt_of_le hk h.size)⟩

end Go.Proofs.Ybulkdwzg
