/-
  LawS6181BWhole: THE PLAIN LAW of the heaviest run: the tree finds what the quadratic model finds.
-/
import Derived.Test.YbulkdwzgBg
import Derived.Test.YbulkdwzgBh
namespace Go.Proofs.Ybulkdwzg.lawB

def run (Sc : Nat → Nat) (y : Nat) : Rn := (Sc y, some y)
theorem rb_run (S Sc : Nat → Nat) (x y : Nat) : rb S (run Sc x) (run Sc y) = if Sc x ≠ Sc y then decide (Sc y < Sc x) else if S x ≠ S y then decide (S x < S y) else decide (y < x) := rfl
theorem rb_irrefl (S : Nat → Nat) (r : Rn) : rb S r r = false := by
  obtain ⟨a, b⟩ := r
  cases b <;> simp [rb]
theorem rb_none (S : Nat → Nat) (r : Rn) : rb S (0, none) r = false := by
  obtain ⟨a, b⟩ := r
  cases b <;> simp [rb]
theorem rb_some (S : Nat → Nat) (a : Nat) (e : Option Nat) (h : 0 < a) : rb S (a, e) (0, none) = true := by
  have : a ≠ 0 := by omega
  simp [rb, this, h]
theorem rb_asymm {S Sc : Nat → Nat} {x y : Nat} (h1 : rb S (run Sc x) (run Sc y) = true) (h2 : rb S (run Sc y) (run Sc x) = true) : False := by
  rw [rb_run] at h1 h2
  split at h1 <;> split at h2 <;> (try split at h1) <;> (try split at h2) <;> simp only [decide_eq_true_eq] at h1 h2 <;> omega
theorem rb_trans {S Sc : Nat → Nat} {x y z : Nat} (h1 : rb S (run Sc x) (run Sc y) = true) (h2 : rb S (run Sc y) (run Sc z) = true) : rb S (run Sc x) (run Sc z) = true := by
  rw [rb_run] at h1 h2 ⊢
  split at h1 <;> split at h2 <;> split <;> (try split at h1) <;> (try split at h2) <;> (try split) <;> simp only [decide_eq_true_eq] at h1 h2 ⊢ <;> omega
theorem rb_total {S Sc : Nat → Nat} {x y : Nat} (h : x ≠ y) (h1 : rb S (run Sc x) (run Sc y) = false) : rb S (run Sc y) (run Sc x) = true := by
  rw [rb_run] at h1 ⊢
  split at h1 <;> split <;> (try split at h1) <;> (try split) <;> simp only [decide_eq_true_eq, decide_eq_false_iff_not] at h1 ⊢ <;> omega

/-- r is the best of the runs that end in X. -/
def Best (S Sc : Nat → Nat) (X : Nat → Prop) (r : Rn) : Prop := (r = (0, none) ∧ ∀ y, ¬ X y) ∨ ∃ y, X y ∧ r = run Sc y ∧ ∀ z, X z → z = y ∨ rb S (run Sc y) (run Sc z) = true
theorem Best.uniq {S Sc : Nat → Nat} {X : Nat → Prop} {r r' : Rn} (h : Best S Sc X r) (h' : Best S Sc X r') : r = r' := by
  rcases h with ⟨rfl, h⟩ | ⟨y, hy, rfl, h⟩
  · rcases h' with ⟨rfl, _⟩ | ⟨z, hz, _, _⟩
    · rfl
    · exact absurd hz (h z)
  · rcases h' with ⟨_, h'⟩ | ⟨z, hz, rfl, h'⟩
    · exact absurd hy (h' y)
    · rcases h z hz with rfl | e1
      · rfl
      · rcases h' y hy with rfl | e2
        · rfl
        · exact absurd (rb_asymm e1 e2) id
theorem Best.congr {S Sc : Nat → Nat} {X Y : Nat → Prop} {r : Rn} (h : Best S Sc X r) (e : ∀ y, X y ↔ Y y) : Best S Sc Y r := by
  have : X = Y := funext fun y => propext (e y)
  rw [← this]; exact h
theorem best_none (S Sc : Nat → Nat) : Best S Sc (fun _ => False) (0, none) := .inl ⟨rfl, fun _ h => h⟩
theorem best_one (S Sc : Nat → Nat) (i : Nat) : Best S Sc (fun y => y = i) (run Sc i) := .inr ⟨i, rfl, rfl, fun _ h => .inl h⟩
theorem Best.join {S Sc : Nat → Nat} {X Y : Nat → Prop} {a b : Rn} (hp : ∀ y, X y ∨ Y y → 0 < Sc y) (ha : Best S Sc X a) (hb : Best S Sc Y b) : Best S Sc (fun y => X y ∨ Y y) (if rb S a b = true then a else b) := by
  rcases ha with ⟨rfl, ha⟩ | ⟨x, hx, rfl, ha⟩
  · rw [rb_none, if_neg (by simp)]
    exact hb.congr fun y => ⟨.inr, fun h => h.elim (fun h => absurd h (ha y)) id⟩
  · rcases hb with ⟨rfl, hb⟩ | ⟨y, hy, rfl, hb⟩
    · rw [show rb S (run Sc x) (0, none) = true from rb_some S _ _ (hp x (.inl hx)), if_pos rfl]
      exact .inr ⟨x, .inl hx, rfl, fun z hz => hz.elim (ha z) (fun h => absurd h (hb z))⟩
    · cases e : rb S (run Sc x) (run Sc y) with
      | true =>
        rw [if_pos rfl]
        refine .inr ⟨x, .inl hx, rfl, fun z hz => hz.elim (ha z) fun h => ?_⟩
        rcases hb z h with rfl | h2
        · exact .inr e
        · exact .inr (rb_trans e h2)
      | false =>
        rw [if_neg (by simp)]
        refine .inr ⟨y, .inr hy, rfl, fun z hz => hz.elim (fun h => ?_) (hb z)⟩
        by_cases exy : x = y
        · subst exy; exact ha z h
        · have e2 := rb_total exy e
          rcases ha z h with rfl | h2
          · exact .inr e2
          · exact .inr (rb_trans e2 h2)

/-- The best run among the first i that end below x. -/
def bb (S Sc : Nat → Nat) (x : Nat) : Nat → Rn
  | 0 => (0, none)
  | i + 1 => if S i < x ∧ rb S (run Sc i) (bb S Sc x i) = true then run Sc i else bb S Sc x i
theorem bb_congr (S : Nat → Nat) {Sc Sc' : Nat → Nat} (x : Nat) : ∀ i, (∀ y, y < i → Sc y = Sc' y) → bb S Sc x i = bb S Sc' x i
  | 0, _ => rfl
  | i + 1, h => by
    have e : run Sc i = run Sc' i := by unfold run; rw [h i (by omega)]
    rw [bb, bb, bb_congr S x i (fun y hy => h y (by omega)), e]
theorem bb_best (S Sc : Nat → Nat) (x : Nat) : ∀ i, (∀ y, y < i → 0 < Sc y) → Best S Sc (fun y => y < i ∧ S y < x) (bb S Sc x i)
  | 0, _ => .inl ⟨rfl, fun _ h => absurd h.1 (by omega)⟩
  | i + 1, h => by
    have hi := bb_best S Sc x i (fun y hy => h y (by omega))
    rw [bb]
    by_cases hx : S i < x
    · have := Best.join (X := fun y => y = i) (fun y hy => h y (hy.elim (fun e => by omega) (fun e => by omega))) (best_one S Sc i) hi
      rw [show (if S i < x ∧ rb S (run Sc i) (bb S Sc x i) = true then run Sc i else bb S Sc x i) = (if rb S (run Sc i) (bb S Sc x i) = true then run Sc i else bb S Sc x i) by simp [hx]]
      refine this.congr fun y => ⟨fun h => ?_, fun h => ?_⟩
      · rcases h with rfl | h
        · exact ⟨by omega, hx⟩
        · exact ⟨by omega, h.2⟩
      · by_cases e : y = i
        · exact .inl e
        · exact .inr ⟨by omega, h.2⟩
    · rw [if_neg (fun h => hx h.1)]
      refine hi.congr fun y => ⟨fun h => ⟨by omega, h.2⟩, fun h => ⟨?_, h.2⟩⟩
      rcases Nat.lt_or_ge y i with e | e
      · exact e
      · have : y = i := by omega
        subst this
        exact absurd h.2 hx

def tab (S Wt : Nat → Nat) : Nat → Nat → Nat
  | 0 => fun _ => 0
  | i + 1 => fun t => if t = i then (bb S (tab S Wt i) (S i) i).1 + Wt i else tab S Wt i t
/-- What the best run that ends at i weighs. -/
def Sc (S Wt : Nat → Nat) (i : Nat) : Nat := tab S Wt (i + 1) i
theorem tab_eq (S Wt : Nat → Nat) (y : Nat) : ∀ i, y < i → tab S Wt i y = Sc S Wt y
  | 0, h => absurd h (by omega)
  | i + 1, h => by
    by_cases e : y = i
    · subst e; rfl
    · show (if y = i then _ else tab S Wt i y) = _
      rw [if_neg e]; exact tab_eq S Wt y i (by omega)
theorem sc_eq (S Wt : Nat → Nat) (i : Nat) : Sc S Wt i = (bb S (Sc S Wt) (S i) i).1 + Wt i := by
  show (if i = i then (bb S (tab S Wt i) (S i) i).1 + Wt i else _) = _
  rw [if_pos rfl, bb_congr S (S i) i (fun y hy => tab_eq S Wt y i hy)]
/-- The element before i in that run. -/
def Pv (S Wt : Nat → Nat) (i : Nat) : Option Nat := (bb S (Sc S Wt) (S i) i).2
def tp (S Wt : Nat → Nat) : Nat → Rn
  | 0 => (0, none)
  | i + 1 => if rb S (run (Sc S Wt) i) (tp S Wt i) = true then run (Sc S Wt) i else tp S Wt i
theorem sc_pos (S Wt : Nat → Nat) (i : Nat) (h : 0 < Wt i) : 0 < Sc S Wt i := by rw [sc_eq]; omega
theorem bb_form (S Sc : Nat → Nat) (x : Nat) : ∀ i, bb S Sc x i = (0, none) ∨ ∃ y, y < i ∧ bb S Sc x i = run Sc y
  | 0 => .inl rfl
  | i + 1 => by
    rw [bb]
    split
    · exact .inr ⟨i, by omega, rfl⟩
    · rcases bb_form S Sc x i with e | ⟨y, h, e⟩
      · exact .inl e
      · exact .inr ⟨y, by omega, e⟩
theorem tp_form (S Wt : Nat → Nat) : ∀ i, tp S Wt i = (0, none) ∨ ∃ y, y < i ∧ tp S Wt i = run (Sc S Wt) y
  | 0 => .inl rfl
  | i + 1 => by
    rw [tp]
    split
    · exact .inr ⟨i, by omega, rfl⟩
    · rcases tp_form S Wt i with e | ⟨y, h, e⟩
      · exact .inl e
      · exact .inr ⟨y, by omega, e⟩
theorem pv_lt (S Wt : Nat → Nat) {i y : Nat} (h : Pv S Wt i = some y) : y < i := by
  unfold Pv at h
  rcases bb_form S (Sc S Wt) (S i) i with e | ⟨z, hz, e⟩
  · rw [e] at h; exact absurd h (by simp)
  · rw [e] at h
    simp only [run, Option.some.injEq] at h
    omega
theorem tp_lt (S Wt : Nat → Nat) {i y : Nat} (h : (tp S Wt i).2 = some y) : y < i := by
  rcases tp_form S Wt i with e | ⟨z, hz, e⟩
  · rw [e] at h; exact absurd h (by simp)
  · rw [e] at h
    simp only [run, Option.some.injEq] at h
    omega
/-- A score is at most eight a place. -/
theorem sc_le (S Wt : Nat → Nat) (hW : ∀ i, Wt i ≤ 8) : ∀ i, Sc S Wt i ≤ 8 * (i + 1) := by
  intro i
  induction i using Nat.strongRecOn with
  | _ i ih =>
    rw [sc_eq]
    have h8 := hW i
    rcases bb_form S (Sc S Wt) (S i) i with e | ⟨z, hz, e⟩
    · rw [e]; simp only; omega
    · rw [e]
      have := ih z hz
      simp only [run]; omega

/-! ### The tree -/
theorem upd_ge (m : Nat) : ∀ f u v, v ∈ upd m f u → u ≤ v
  | 0, _, _, h => by simp [upd] at h
  | f + 1, u, v, h => by
    rw [upd] at h
    split at h
    · simp at h
    · rcases List.mem_cons.1 h with rfl | h
      · omega
      · have := upd_ge m f _ v h; omega
theorem upd_le (m : Nat) : ∀ f u v, v ∈ upd m f u → v ≤ m
  | 0, _, _, h => by simp [upd] at h
  | f + 1, u, v, h => by
    rw [upd] at h
    split at h
    · simp at h
    · rcases List.mem_cons.1 h with rfl | h
      · omega
      · exact upd_le m f _ v h
theorem upd_more (m k : Nat) : ∀ f u v, v ∈ upd m f u → v ∈ upd m (f + k) u
  | 0, _, _, h => by simp [upd] at h
  | f + 1, u, v, h => by
    rw [show f + 1 + k = (f + k) + 1 by omega]
    rw [upd] at h ⊢
    split at h
    · simp at h
    · rename_i hm
      rw [if_neg hm]
      rcases List.mem_cons.1 h with rfl | h
      · simp
      · exact List.mem_cons_of_mem _ (upd_more m k f _ v h)
theorem upd_cut (m m' : Nat) : ∀ f u v, v ∈ upd m' f u → v ≤ m → v ∈ upd m f u
  | 0, _, _, h, _ => by simp [upd] at h
  | f + 1, u, v, h, hv => by
    have hu := upd_ge m' (f + 1) u v h
    rw [upd] at h ⊢
    rw [if_neg (by omega)]
    split at h
    · simp at h
    · rcases List.mem_cons.1 h with rfl | h
      · simp
      · exact List.mem_cons_of_mem _ (upd_cut m m' f _ v h hv)
theorem mark' {m u v : Nat} (hm : m ≤ 512) (hv : v ≤ m) (h1 : v - low v < u) (h2 : u ≤ v) : v ∈ upd m 600 u :=
  upd_more m 589 11 u v (upd_cut m 512 11 u v (mark (by omega) h1 h2) hv)
theorem qry_in : ∀ f x v, v ∈ qry f x → 1 ≤ v ∧ v ≤ x
  | 0, _, _, h => by simp [qry] at h
  | f + 1, x, v, h => by
    rw [qry] at h
    split at h
    · simp at h
    · rcases List.mem_cons.1 h with rfl | h
      · omega
      · have := qry_in f _ v h; omega

def qF (S : Nat → Nat) (B : Nat → Rn) (l : List Nat) (r : Rn) : Rn := l.foldl (fun r v => if rb S (B v) r = true then B v else r) r
def uF (S : Nat → Nat) (r : Rn) (l : List Nat) (B : Nat → Rn) : Nat → Rn := l.foldl (fun B v t => if t = v then (if rb S r (B v) = true then r else B v) else B t) B
/-- What the tree holds, i elements being in it. -/
def Tr (S Sc : Nat → Nat) (m i : Nat) (B : Nat → Rn) : Prop := ∀ v, 1 ≤ v → v ≤ m → Best S Sc (fun y => y < i ∧ v ∈ upd m 600 (S y + 1)) (B v)
theorem tr_zero (S Sc : Nat → Nat) (m : Nat) : Tr S Sc m 0 (fun _ => (0, none)) := fun _ _ _ => .inl ⟨rfl, fun _ h => absurd h.1 (by omega)⟩
theorem qF_best {S Sc : Nat → Nat} {m i : Nat} {B : Nat → Rn} (hp : ∀ y, y < i → 0 < Sc y) (h : Tr S Sc m i B) : ∀ (l : List Nat) (r : Rn) (X : Nat → Prop), (∀ v, v ∈ l → 1 ≤ v ∧ v ≤ m) → (∀ y, X y → y < i) → Best S Sc X r → Best S Sc (fun y => X y ∨ ∃ v, v ∈ l ∧ y < i ∧ v ∈ upd m 600 (S y + 1)) (qF S B l r)
  | [], r, X, _, _, hb => hb.congr fun y => ⟨.inl, fun h => h.elim id (fun ⟨_, h, _⟩ => absurd h (by simp))⟩
  | v :: l, r, X, hl, hX, hb => by
    have hv := hl v (by simp)
    have hj := Best.join (fun y hy => hp y (hy.elim (fun h => h.1) (hX y))) (h v hv.1 hv.2) hb
    have := qF_best hp h l (if rb S (B v) r = true then B v else r) _ (fun u hu => hl u (List.mem_cons_of_mem _ hu)) (fun y hy => hy.elim (fun h => h.1) (hX y)) hj
    refine Best.congr this fun y => ⟨fun h => ?_, fun h => ?_⟩
    · rcases h with (h | h) | ⟨u, hu, h⟩
      · exact .inr ⟨v, by simp, h⟩
      · exact .inl h
      · exact .inr ⟨u, List.mem_cons_of_mem _ hu, h⟩
    · rcases h with h | ⟨u, hu, h⟩
      · exact .inl (.inr h)
      · rcases List.mem_cons.1 hu with rfl | hu
        · exact .inl (.inl h)
        · exact .inr ⟨u, hu, h⟩
/-- A LOOK FINDS THE BEST RUN BELOW x. -/
theorem look {S Sc : Nat → Nat} {m i x : Nat} {B : Nat → Rn} (hm : m ≤ 512) (hx : x ≤ m) (hp : ∀ y, y < i → 0 < Sc y) (h : Tr S Sc m i B) : qF S B (qry 600 x) (0, none) = bb S Sc x i := by
  refine Best.uniq (X := fun y => y < i ∧ S y < x) (Best.congr (qF_best hp h (qry 600 x) (0, none) _ (fun v hv => ?_) (fun _ h => absurd h id) (best_none S Sc)) fun y => ⟨fun h => ?_, fun h => ?_⟩) (bb_best S Sc x i hp)
  · have := qry_in _ _ _ hv; omega
  · rcases h with h | ⟨v, hv, hy, hu⟩
    · exact absurd h id
    · have := qry_in _ _ _ hv
      have := upd_ge _ _ _ _ hu
      exact ⟨hy, by omega⟩
  · obtain ⟨v, h1, h2, h3, h4⟩ := qry_cover 600 x (by omega) (by omega) (S y + 1) (by omega) (by omega)
    exact .inr ⟨v, h1, h.1, mark' hm (by omega) h2 h3⟩
theorem uF_at (S : Nat → Nat) (r : Rn) (t : Nat) : ∀ (l : List Nat) (B : Nat → Rn), uF S r l B t = if t ∈ l then (if rb S r (B t) = true then r else B t) else B t
  | [], B => by simp [uF]
  | v :: l, B => by
    have := uF_at S r t l (fun t => if t = v then (if rb S r (B v) = true then r else B v) else B t)
    show uF S r l _ t = _
    rw [this]
    by_cases e : t = v
    · subst e
      cases h : rb S r (B t) <;> simp [h, rb_irrefl]
    · simp [e]
/-- MARKING i KEEPS THE TREE. -/
theorem tr_succ {S Sc : Nat → Nat} {m i : Nat} {B : Nat → Rn} (hp : ∀ y, y < i + 1 → 0 < Sc y) (h : Tr S Sc m i B) : Tr S Sc m (i + 1) (uF S (run Sc i) (upd m 600 (S i + 1)) B) := fun v h1 h2 => by
  rw [uF_at]
  by_cases hv : v ∈ upd m 600 (S i + 1)
  · rw [if_pos hv]
    refine Best.congr (Best.join (X := fun y => y = i) (fun y hy => hp y (hy.elim (fun e => by omega) (fun e => by omega))) (best_one S Sc i) (h v h1 h2)) fun y => ⟨fun h => ?_, fun h => ?_⟩
    · rcases h with rfl | h
      · exact ⟨by omega, hv⟩
      · exact ⟨by omega, h.2⟩
    · by_cases e : y = i
      · exact .inl e
      · exact .inr ⟨by omega, h.2⟩
  · rw [if_neg hv]
    refine (h v h1 h2).congr fun y => ⟨fun h => ⟨by omega, h.2⟩, fun h => ⟨?_, h.2⟩⟩
    rcases Nat.lt_or_ge y i with e | e
    · exact e
    · have : y = i := by omega
      subst this
      exact absurd h.2 hv

end Go.Proofs.Ybulkdwzg.lawB
