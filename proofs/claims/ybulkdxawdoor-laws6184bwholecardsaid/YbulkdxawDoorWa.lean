/-
  WALKS of the modes' functions: zzs6184bext (6), extentOf (8), base (9), GapMode (10), zzs6184bcovers (11), covers (14), stronger (15).
-/
import Derived.Test.YbulkdxawDoorRows
import Derived.WalkKit
import Derived.Laws.Bits64b
import Derived.WalkSpells
import Derived.WalkLawsBesides
import Derived.Deep.QuietTactic
import Derived.BigQuiet
import Derived.Deep.RegionHeld3
namespace Go.Proofs.YbulkdxawDoor
open Go.RowKit

def an (m c : Int) : Int := bits .and .u8 m c
/-- The extent: 0 the record, 1 both, 2 the gap, 3 the point. -/
def ext (m hp : Int) : Nat := if an m 16 != 0 then 3 else if an m 4 != 0 || hp == 0 then 2 else if an m 8 != 0 then 0 else 1

theorem base_c (m : Int) (w : World) : Calls Ybad.prog 9 #[.int .u8 m] w fun e w' => e = .returned (.int .u8 (an m 3)) ∧ w = w' := by
  go_enter Ybad.func9, Ybad.ntmps9
  go_wp2
  go_ret
  exact ⟨rfl, rfl⟩

theorem extentOf_c (m hp : Int) (w : World) : Calls Ybad.prog 8 #[.int .u8 m, .int .u32 hp] w fun e w' => e = .returned (.int .u8 (ext m hp)) ∧ w = w' := by
  unfold ext an
  cases h1 : bits .and .u8 m 16 != 0
  · cases h2 : bits .and .u8 m 4 != 0
    · cases h3 : hp == 0
      · cases h4 : bits .and .u8 m 8 != 0
        · go_enter Ybad.func8, Ybad.ntmps8
          go_wp2
          go_ret
          exact ⟨rfl, rfl⟩
        · go_enter Ybad.func8, Ybad.ntmps8
          go_wp2
          go_ret
          exact ⟨rfl, rfl⟩
      · go_enter Ybad.func8, Ybad.ntmps8
        go_wp2
        go_ret
        exact ⟨rfl, rfl⟩
    · go_enter Ybad.func8, Ybad.ntmps8
      go_wp2
      go_ret
      exact ⟨rfl, rfl⟩
  · go_enter Ybad.func8, Ybad.ntmps8
    go_wp2
    go_ret
    exact ⟨rfl, rfl⟩

theorem zzext_c (m hp : Int) (w : World) : Calls Ybad.prog 6 #[.int .u8 m, .int .u32 hp] w fun e w' => e = .returned (.int .i64 (ext m hp)) ∧ w = w' := by
  unfold ext an
  cases h1 : bits .and .u8 m 16 != 0
  · cases h2 : bits .and .u8 m 4 != 0
    · cases h3 : hp == 0
      · cases h4 : bits .and .u8 m 8 != 0
        · go_enter Ybad.func6, Ybad.ntmps6
          go_wp2
          go_ret
          exact ⟨rfl, rfl⟩
        · go_enter Ybad.func6, Ybad.ntmps6
          go_wp2
          go_ret
          exact ⟨rfl, rfl⟩
      · go_enter Ybad.func6, Ybad.ntmps6
        go_wp2
        go_ret
        exact ⟨rfl, rfl⟩
    · go_enter Ybad.func6, Ybad.ntmps6
      go_wp2
      go_ret
      exact ⟨rfl, rfl⟩
  · go_enter Ybad.func6, Ybad.ntmps6
    go_wp2
    go_ret
    exact ⟨rfl, rfl⟩

theorem gap_c (m hp : Int) (h0 : (hp == 0) = false) (w : World) : Calls Ybad.prog 10 #[.int .u8 m, .int .u32 hp] w fun e w' => e = .returned (.int .u8 (bits .or .u8 m 4)) ∧ w = w' := by
  go_enter Ybad.func10, Ybad.ntmps10
  go_wp2
  go_ret
  exact ⟨rfl, rfl⟩

theorem an3 : ∀ n : Fin 256, 0 ≤ an (n.val : Int) 3 ∧ an (n.val : Int) 3 < 4 := by decide +kernel

def tab : Nat → Int
  | 0 => 1
  | 1 => 3
  | 2 => 5
  | _ => 15
/-- The four cells of coveredBy. -/
def CB (w : World) : Prop := ∀ j, j < 4 → w.cell? ⟨0, j, none⟩ = some (.int .u8 (tab j))
/-- Does a base mode grant another? -/
def str (h r : Int) : Bool := an r 3 == 0 || an h 3 == an r 3 || an h 3 == 3

theorem str_tab : ∀ h r : Fin 4, (bits .and .u8 (tab h.val) (IntKind.u8.wrap (2 ^ r.val)) != 0) = ((r.val : Int) == 0 || (h.val : Int) == (r.val : Int) || (h.val : Int) == 3) := by decide +kernel

theorem stronger_c (h r : Nat) (hh : h < 256) (hr : r < 256) (w : World) (hc : CB w) : Calls Ybad.prog 15 #[.int .u8 h, .int .u8 r] w fun e w' => e = .returned (.bool (str h r)) ∧ ∃ q, w' = w.drewN q := by
  obtain ⟨a, ha⟩ : ∃ a : Nat, an h 3 = a := ⟨(an h 3).toNat, by have := (an3 ⟨h, hh⟩).1; simp only at this; omega⟩
  obtain ⟨b, hb⟩ : ∃ b : Nat, an r 3 = b := ⟨(an r 3).toNat, by have := (an3 ⟨r, hr⟩).1; simp only at this; omega⟩
  have ha4 : a < 4 := by have := (an3 ⟨h, hh⟩).2; simp only at this; omega
  have hb4 : b < 4 := by have := (an3 ⟨r, hr⟩).2; simp only at this; omega
  have hs : str h r = (bits .and .u8 (tab a) (IntKind.u8.wrap (2 ^ b)) != 0) := by
    have := str_tab ⟨a, ha4⟩ ⟨b, hb4⟩
    simp only at this
    rw [this]
    unfold str
    rw [ha, hb]
  have c := hc a ha4
  have haI : (a : Int) < 4 := by omega
  clear hc
  go_enter Ybad.func15, Ybad.ntmps15
  go_wp2
  go_region_held3 (fun w' => w'.cell? ⟨0, a, none⟩ = some (.int .u8 (tab a))) (go_keep) ((go_at_call 9; refine (base_c _ _).mono ?_; rintro _ _ ⟨rfl, rfl⟩; first | rw [ha] | rw [hb]))
  all_goals go_wp2
  all_goals go_ret
  all_goals first | exact ⟨by rw [hs]; rfl, 1, rfl⟩ | exact ⟨by rw [hs]; rfl, 2, rfl⟩

/-- Does a lock cover a request? -/
def cov (h r hp : Int) : Bool := if bits .and .u8 (bits .or .u8 h r) 16 != 0 then h == r else str h r && (ext h hp == 1 || ext h hp == ext r hp)

set_option maxHeartbeats 2000000 in
theorem covers_c (h r : Nat) (hh : h < 256) (hr : r < 256) (hp : Int) (w : World) (hc : CB w) : Calls Ybad.prog 14 #[.int .u8 h, .int .u8 r, .int .u32 hp] w fun e w' => e = .returned (.bool (cov h r hp)) ∧ ∃ q, w' = w.drewN q := by
  unfold cov
  cases h1 : bits .and .u8 (bits .or .u8 (h : Int) (r : Int)) 16 != 0
  · have hst := stronger_c h r hh hr w hc
    have HC : Hid (CB w) := hc
    clear hc
    cases h2 : str h r
    · rw [h2] at hst
      go_enter Ybad.func14, Ybad.ntmps14
      go_wp2_with (first | (go_at_call 8; refine (extentOf_c _ _ _).mono ?_; rintro _ _ ⟨rfl, rfl⟩) | (go_at_call 15; refine hst.mono ?_; rintro _ _ ⟨rfl, q, rfl⟩))
      go_ret
      exact ⟨rfl, q, rfl⟩
    · rw [h2] at hst
      obtain ⟨e1, he1⟩ : ∃ e1, ext h hp = e1 := ⟨_, rfl⟩
      obtain ⟨e2, he2⟩ : ∃ e2, ext r hp = e2 := ⟨_, rfl⟩
      rw [he1, he2]
      replace he1 : Hid (ext h hp = e1) := he1
      replace he2 : Hid (ext r hp = e2) := he2
      by_cases h3 : e1 = 1
      · subst h3
        go_enter Ybad.func14, Ybad.ntmps14
        go_wp2_with (first | (go_at_call 8; refine (extentOf_c _ _ _).mono ?_; rintro _ _ ⟨rfl, rfl⟩; first | rw [he1.out] | rw [he2.out]) | (go_at_call 15; refine hst.mono ?_; rintro _ _ ⟨rfl, q, rfl⟩))
        go_ret
        exact ⟨rfl, q, rfl⟩
      · have h3b : ((e1 : Int) == 1) = false := by rw [beq_eq_false_iff_ne]; omega
        have h3c : (e1 == 1) = false := by rw [beq_eq_false_iff_ne]; exact h3
        have h4 : (e1 == e2) = ((e1 : Int) == (e2 : Int)) := by
          rw [Bool.eq_iff_iff]; simp only [beq_iff_eq]; omega
        rw [h3c, h4]
        clear h3c h4
        go_enter Ybad.func14, Ybad.ntmps14
        go_wp2_with (first | (go_at_call 8; refine (extentOf_c _ _ _).mono ?_; rintro _ _ ⟨rfl, rfl⟩; first | rw [he1.out] | rw [he2.out]) | (go_at_call 15; refine hst.mono ?_; rintro _ _ ⟨rfl, q, rfl⟩))
        go_ret
        exact ⟨by simp, q, rfl⟩
  · go_enter Ybad.func14, Ybad.ntmps14
    go_wp2
    go_ret
    exact ⟨rfl, 0, rfl⟩

set_option maxHeartbeats 2000000 in
theorem zzcovers_c (h r : Nat) (hp : Int) (w : World) : Calls Ybad.prog 11 #[.int .u8 h, .int .u8 r, .int .u32 hp] w fun e w' => e = .returned (.bool (cov h r hp)) ∧ w = w' := by
  unfold cov
  cases h1 : bits .and .u8 (bits .or .u8 (h : Int) (r : Int)) 16 != 0
  · obtain ⟨e1, he1⟩ : ∃ e1, ext h hp = e1 := ⟨_, rfl⟩
    obtain ⟨e2, he2⟩ : ∃ e2, ext r hp = e2 := ⟨_, rfl⟩
    rw [he1, he2]
    replace he1 : Hid (ext h hp = e1) := he1
    replace he2 : Hid (ext r hp = e2) := he2
    have h4 : (e1 == e2) = ((e1 : Int) == (e2 : Int)) := by
      rw [Bool.eq_iff_iff]; simp only [beq_iff_eq]; omega
    have h5 : (e1 == 1) = ((e1 : Int) == 1) := by
      rw [Bool.eq_iff_iff]; simp only [beq_iff_eq]; omega
    rw [h5]
    clear h5
    replace h4 : Hid ((e1 == e2) = ((e1 : Int) == (e2 : Int))) := h4
    cases a1 : (bits .and .u8 (r : Int) 3 == 0)
    · cases a2 : (bits .and .u8 (h : Int) 3 == bits .and .u8 (r : Int) 3)
      · cases a3 : (bits .and .u8 (h : Int) 3 == 3)
        · rw [show str h r = false by simp [str, an, a1, a2, a3]]
          go_enter Ybad.func11, Ybad.ntmps11
          go_wp2_with (first | (go_at_call 6; refine (zzext_c _ _ _).mono ?_; rintro _ _ ⟨rfl, rfl⟩; first | rw [he1.out] | rw [he2.out]))
          go_ret
          exact ⟨rfl, rfl⟩
        · rw [show str h r = true by simp [str, an, a3]]
          cases h6 : ((e1 : Int) == 1)
          · skip
            go_enter Ybad.func11, Ybad.ntmps11
            go_wp2_with (first | (go_at_call 6; refine (zzext_c _ _ _).mono ?_; rintro _ _ ⟨rfl, rfl⟩; first | rw [he1.out] | rw [he2.out]))
            go_ret
            exact ⟨by rw [h4.out]; rfl, rfl⟩
          · go_enter Ybad.func11, Ybad.ntmps11
            go_wp2_with (first | (go_at_call 6; refine (zzext_c _ _ _).mono ?_; rintro _ _ ⟨rfl, rfl⟩; first | rw [he1.out] | rw [he2.out]))
            go_ret
            exact ⟨rfl, rfl⟩
      · rw [show str h r = true by simp [str, an, a2]]
        cases h6 : ((e1 : Int) == 1)
        · skip
          go_enter Ybad.func11, Ybad.ntmps11
          go_wp2_with (first | (go_at_call 6; refine (zzext_c _ _ _).mono ?_; rintro _ _ ⟨rfl, rfl⟩; first | rw [he1.out] | rw [he2.out]))
          go_ret
          exact ⟨by rw [h4.out]; rfl, rfl⟩
        · go_enter Ybad.func11, Ybad.ntmps11
          go_wp2_with (first | (go_at_call 6; refine (zzext_c _ _ _).mono ?_; rintro _ _ ⟨rfl, rfl⟩; first | rw [he1.out] | rw [he2.out]))
          go_ret
          exact ⟨rfl, rfl⟩
    · rw [show str h r = true by simp [str, an, a1]]
      cases h6 : ((e1 : Int) == 1)
      · skip
        go_enter Ybad.func11, Ybad.ntmps11
        go_wp2_with (first | (go_at_call 6; refine (zzext_c _ _ _).mono ?_; rintro _ _ ⟨rfl, rfl⟩; first | rw [he1.out] | rw [he2.out]))
        go_ret
        exact ⟨by rw [h4.out]; rfl, rfl⟩
      · go_enter Ybad.func11, Ybad.ntmps11
        go_wp2_with (first | (go_at_call 6; refine (zzext_c _ _ _).mono ?_; rintro _ _ ⟨rfl, rfl⟩; first | rw [he1.out] | rw [he2.out]))
        go_ret
        exact ⟨rfl, rfl⟩
  · go_enter Ybad.func11, Ybad.ntmps11
    go_wp2
    go_ret
    exact ⟨rfl, rfl⟩

end Go.Proofs.YbulkdxawDoor
