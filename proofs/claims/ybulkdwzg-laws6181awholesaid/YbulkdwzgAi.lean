/-
  THE INDEX BY NAME: plain facts on a map's datum that is filled name by name; the WALK of (*Node).indexAttrs (19).
-/
import Derived.Test.YbulkdwzgAn
import Derived.Maps.OwnSet
import Derived.Deep.RegionHeld3
import Derived.BigRegion
import Derived.Deep.QuietTactic
import Derived.BigQuiet
namespace Go.Proofs.Ybulkdwzg
open Go.RowKit Go.Maps Go.WideMaps Go.WideElems

def key (s : ByteArray) : Lit := .string s.data.toList
def z0 : DataW Unit := .lit (.int .i64 0)
def iv (k : Nat) : DataW Unit := .lit (.int .i64 k)
theorem law9 : Keyed Yba.prog 9 := string_keyed Yba.underlying9
theorem key_of (s : ByteArray) (h : s.size ≤ maxLen) : keyOf Yba.prog 9 (.string s) = some (key s) := keyOf_string_mk Yba.underlying9 h
theorem key_inj {s t : ByteArray} (h : key s = key t) : s = t := by
  have : s.data.toList = t.data.toList := by simpa [key] using h
  cases s; cases t
  simpa using congrArg List.toArray this
theorem key_lit (s : ByteArray) (h : s.size ≤ maxLen) : WideAt.IsKeyLit (key s) := law9.key (key_of s h)

/-- What the map M of names holds. -/
def MI (w : World) (M cnt : Nat) (D : DataW Unit) : Prop := w.ownsMap Yba.prog 9 (plainElem Yba.prog 3) M cnt D

def Ix (D0 D : DataW Unit) (G : Nat → ByteArray) (j c : Nat) : Prop :=
  Maps.size D = Maps.size D0 ∧ (∀ k, j ≤ k → k < c → Maps.has D (key (G k)) = true ∧ D.atKey (key (G k)) z0 = iv k) ∧
    (∀ l : Lit, (∀ k, j ≤ k → k < c → l ≠ key (G k)) → Maps.has D l = Maps.has D0 l ∧ D.atKey l z0 = D0.atKey l z0)

theorem ix_start (D0 : DataW Unit) (G : Nat → ByteArray) (j : Nat) : Ix D0 D0 G j j :=
  ⟨rfl, fun k h1 h2 => by omega, fun _ _ => ⟨rfl, rfl⟩⟩

theorem ix_step {D0 D : DataW Unit} {G : Nat → ByteArray} {j c : Nat} (h : Ix D0 D G j c) (hm : IsMap D) (ht : Tidy D) (hk : WideAt.IsKeyLit (key (G c))) (hjc : j ≤ c) (hinj : ∀ k, k < c → G k ≠ G c) (h0 : Maps.has D0 (key (G c)) = true) :
    Ix D0 (D.put (key (G c)) (iv c)) G j (c + 1) := by
  obtain ⟨hs, hin, hout⟩ := h
  have hne : ∀ k, j ≤ k → k < c → key (G c) ≠ key (G k) := fun k _ hkc e => hinj k hkc (key_inj e).symm
  have hhas : Maps.has D (key (G c)) = true := by rw [(hout _ hne).1]; exact h0
  refine ⟨by rw [size_put ht, if_pos hhas, hs], fun k h1 h2 => ?_, fun l hl => ?_⟩
  · by_cases e : k = c
    · subst e; exact ⟨has_put_same hm hk _, atKey_put_same hm hk _ _⟩
    · have hkc : k < c := by omega
      have hn : key (G k) ≠ key (G c) := fun e => hne k h1 hkc e.symm
      rw [has_put_other hn, atKey_put_other hn]
      exact hin k h1 hkc
  · have hn : l ≠ key (G c) := hl c hjc (by omega)
    rw [has_put_other hn, atKey_put_other hn]
    exact hout l (fun k h1 h2 => hl k h1 (by omega))

theorem eqmap (w : World) (r : Option Nat) : (binOp .eql 33 (.map r) (.map none)).run Yba.prog w = .ok (.bool r.isNone) w := run_eql_map_nil w 33 9 3 r Yba.underlying33
theorem nemap (w : World) (r : Option Nat) : (binOp .neq 33 (.map r) (.map none)).run Yba.prog w = .ok (.bool (!r.isNone)) w := run_neq_map_nil w 33 9 3 r Yba.underlying33

theorem MI.ne {w : World} {M cnt : Nat} {D : DataW Unit} (h : MI w M cnt D) {a : Addr} {v : Value} (hc : w.cell? a = some v) : some a.block ≠ some M := by
  intro e
  obtain ⟨es, clock, hb, _⟩ := h
  have e' : a.block = M := by simpa using e
  simp [World.cell?, e', hb] at hc

set_option maxRecDepth 100000 in
set_option maxHeartbeats 1000000 in
theorem index_map (E A m cap M cnt j : Nat) (D0 : DataW Unit) (G : Nat → ByteArray) (w : World) (hE13 : w.cell? ⟨E, 13, none⟩ = some (.slice (some ⟨A, 0, none⟩) m cap)) (hE14 : w.cell? ⟨E, 14, none⟩ = some (.map (some M)))
    (hA : ∀ k, k < m → w.cell? ⟨A, k * 6, none⟩ = some (.string (G k))) (hG : ∀ k, k < m → (G k).size ≤ maxLen) (hinj : ∀ k l, k < l → l < m → G k ≠ G l) (h0 : ∀ k, j ≤ k → k < m → Maps.has D0 (key (G k)) = true)
    (hM : MI w M cnt D0) (hm : m ≤ 4096) (hj : j ≤ m) (hcnt : cnt ≤ 4096) :
    Calls Yba.prog 19 #[.pointer (some ⟨E, 0, none⟩), .int .i64 j] w fun e w' => e = .returned (.tuple #[]) ∧ ∃ D cnt', MI w' M cnt' D ∧ Ix D0 D G j m ∧ w.grownBy w' (some M) := by
  have he := eqmap
  have nE := hM.ne hE13
  go_enter Yba.func19, Yba.ntmps19
  go_wp2
  go_loopw [1] (fun i wr => ∃ (c cnt' : Nat) (D : DataW Unit), j ≤ c ∧ c ≤ m ∧ i = .int .i64 c ∧ MI wr M cnt' D ∧ cnt' + j ≤ cnt + c ∧ Ix D0 D G j c ∧ w.grownBy wr (some M)) (fun i _ => m - (intOf i).toNat)
  case atStart => exact ⟨j, cnt, D0, Nat.le_refl _, hj, rfl, hM, Nat.le_refl _, ix_start D0 G j, World.grownBy.refl w _⟩
  case round =>
    obtain ⟨c, cnt', D, hjc, hcm, rfl, hMr, hcc, hix, hgr⟩ := hrel
    have c13 := hgr.cell hE13 nE
    have c14 := hgr.cell hE14 nE
    by_cases hlt : c < m
    · have cA := hgr.cell (hA c hlt) (hM.ne (hA c hlt))
      have hcI : (c : Int) < (m : Int) := by omega
      have hwf : plainElem (H := Unit) Yba.prog 3 (.int .i64 (c : Int)) = some (iv c, []) := plainElem_int Yba.underlying3 (WalkArith.wf_i64 ⟨by omega, by omega⟩)
      have hMd : wr.drew.ownsMap Yba.prog 9 (plainElem Yba.prog 3) M cnt' D := hMr
      obtain ⟨w1, hrun, hM1, hg1⟩ := hMd.update law9 Yba.underlying33 (by unfold maxLen; omega) (key_of (G c) (hG c hlt)) hwf
      have R := ix_step hix hMd.isMap (hMd.tidy law9) (key_lit _ (hG c hlt)) hjc (fun k hk => hinj k c hk hlt) (h0 c hjc hlt)
      have HR : Hid (Ix D0 (D.put (key (G c)) (iv c)) G j (c + 1)) := R
      have HM1 : Hid (MI w1 M (cnt' + 1) (D.put (key (G c)) (iv c))) := hM1
      have hgw : w.grownBy w1 (some M) := hgr.trans ⟨hg1.os, hg1.tape, hg1.output, hg1.size, hg1.block⟩
      have d13 := hgw.cell hE13 nE
      have d14 := hgw.cell hE14 nE
      have dA := hgw.cell (hA c hlt) (hM.ne (hA c hlt))
      clear hM1 hMd hix hMr R hg1 hwf hA h0 hinj hG he hE13 hE14
      go_wp2
      go_region_held3 (fun w' => w'.cell? ⟨E, 13, none⟩ = some (.slice (some ⟨A, 0, none⟩) m cap) ∧ w'.cell? ⟨E, 14, none⟩ = some (.map (some M)) ∧ w'.cell? ⟨A, c * 6, none⟩ = some (.string (G c))) (go_keep) (fail)
      all_goals go_wp2
      go_roundw
      case rel => exact ⟨c + 1, cnt' + 1, _, by omega, by omega, by go_num, HM1.out, by omega, HR.out, hgw⟩
      case measure => simp [intOf]; omega
    · have e : c = m := by omega
      subst e
      go_wp2
      go_end0
      exact ⟨rfl, D, cnt', hMr, hix, hgr⟩

set_option maxRecDepth 100000 in
set_option maxHeartbeats 400000 in
theorem index_nil (E m cap : Nat) (ad : Option Addr) (j : Int) (w : World) (hE13 : w.cell? ⟨E, 13, none⟩ = some (.slice ad m cap)) (hE14 : w.cell? ⟨E, 14, none⟩ = some (.map none)) (hm : m < 16) :
    Calls Yba.prog 19 #[.pointer (some ⟨E, 0, none⟩), .int .i64 j] w fun e w' => e = .returned (.tuple #[]) ∧ w = w' := by
  have he := eqmap
  have hmI : (m : Int) < 16 := by omega
  go_enter Yba.func19, Yba.ntmps19
  go_wp2
  first | go_end0 | refine bodyPost_ret (results_none rfl _ _ _) rfl ?_
  exact ⟨rfl, rfl⟩

end Go.Proofs.Ybulkdwzg
