/-
  LawS6181BWhole (4): THE QUADRATIC MODEL.
-/
import Derived.Test.YbulkdwzgLa
import Derived.Deep.DeepCutAuto
namespace Go.Proofs.Ybulkdwzg.lawB
open Go.RowKit

theorem bet_eq (S Sc : Nat → Nat) (I : Nat → Int) (y b : Nat) (h1 : I y = (S y : Nat)) (h2 : I b = (S b : Nat)) : bet Sc I y b = rb S (run Sc y) (run Sc b) := by
  rw [rb_run]
  unfold bet
  rw [h1, h2]
  by_cases e : Sc y = Sc b
  · by_cases e2 : S y = S b
    · simp [e, e2]
    · have e3 : ¬ ((S y : Nat) : Int) = ((S b : Nat) : Int) := by omega
      simp [e, e2, e3]
  · simp [e]

/-- What stands in the model's loop. -/
structure Lb (OB SB VB WSP n nw wc base : Nat) (T : Nat → Pr) (wa : Option Addr) (Z : Nat → Nat) (gv : Value) (gn : Nat) (gx : List Value) (is ip : Nat) (w : World) : Prop where
  o : R2 w OB 57 (fun k => .int .i64 (T k).1) (fun k => .int .i64 (T k).2) n
  s : RW w SB 3 (fun j => .int .i64 (if j < is then Sc (Sx T) (Wx nw Z T) j else 0 : Nat)) n
  v : RW w VB 3 (fun j => .int .i64 (if j < ip then en (Pv (Sx T) (Wx nw Z T) j) else 0)) n
  c : w.cell? ⟨WSP, 0, none⟩ = some (.slice wa nw wc)
  y : BY w wa nw Z
  g : w.ownsRow base 57 2 gv gn gx
theorem Lb.out {OB SB VB WSP n nw wc base : Nat} {T : Nat → Pr} {wa : Option Addr} {Z : Nat → Nat} {gv : Value} {gn : Nat} {gx : List Value} {is ip : Nat} {w w' : World} (h : Lb OB SB VB WSP n nw wc base T wa Z gv gn gx is ip w) (o : Out (fun _ => False) w w') : Lb OB SB VB WSP n nw wc base T wa Z gv gn gx is ip w' :=
  ⟨(o.block OB h.o.lt id).trans h.o, (o.block SB h.s.lt id).trans h.s, (o.block VB h.v.lt id).trans h.v, o.cell h.c id, h.y.out o (fun _ _ => id), own_kept h.g o (fun _ _ => id)⟩
theorem BY.out' {D : Nat → Prop} {w w' : World} {a : Option Addr} {n : Nat} {Z : Nat → Nat} (h : BY w a n Z) (o : Out D w w') (hd : 0 < n → ∀ ad, a = some ad → ¬ D ad.block) : BY w' a n Z := fun h0 => by
  obtain ⟨b, off, e, hc⟩ := h h0
  exact ⟨b, off, e, fun j hj => o.cell (hc j hj) (hd h0 ⟨b, off, none⟩ e)⟩
theorem out_draw (w : World) (q : Nat) : Out (fun _ => False) w (w.drewN q) := ⟨rfl, rfl, rfl, Nat.le_refl _, fun _ _ _ => rfl⟩
theorem below_out {N : Nat} {w0 w w' : World} {D : Nat → Prop} (h : Below N w0 w) (o : Out D w w') (hd : ∀ k, D k → N ≤ k) (hN : N ≤ w.heap.size) : Below N w0 w' :=
  ⟨o.os.trans h.os, o.tape.trans h.tape, o.output.trans h.output, Nat.le_trans h.size o.size, fun k hk => (o.block k (Nat.lt_of_lt_of_le hk hN) (fun f => by have := hd k f; omega)).trans (h.block k hk)⟩

set_option maxRecDepth 1000000 in
set_option maxHeartbeats 8000000 in
theorem law_b (N : Nat) (w0 w : World) (hB : Below N w0 w) (hN : N ≤ w.heap.size) (OB WSP n oc nw wwc base : Nat) (T : Nat → Pr) (wa : Option Addr) (Z : Nat → Nat) (va : Option Addr) (vc : Nat) (hn : n ≤ 4096) (hnw : nw ≤ 1048576) (hZ : ∀ j, j < nw → Z j < 256) (hT5 : ∀ k, k < n → 0 ≤ (T k).1 ∧ (T k).1 < 512)
    (ho : R2 w OB 57 (fun k => .int .i64 (T k).1) (fun k => .int .i64 (T k).2) n) (hc : w.cell? ⟨WSP, 0, none⟩ = some (.slice wa nw wwc)) (hy : BY w wa nw Z)
    (hown : w.ownsRow base 57 2 (.slice va (CH nw Z T n).length vc) (CH nw Z T n).length (prs ((CH nw Z T n).reverse.map T))) (hva : (CH nw Z T n).length = 0 → va = none ∧ vc = 0)
    {c0 c1 c2 c6 c7 c8 c9 c11 c13 c14 c15 c16 c17 c18 c19 c20 c21 c22 c23 c24 c25 c26 c27 c28 c29 c30 c31 c32 c33 c34 c35 c36 c37 c38 c39 c40 c41 c42 c43 c44 c45 c46 c47 c48 c49 c50 c51 c52 c53 c54 c55 c56 c57 c58 c59 c60 c61 c62 c63 c64 c65 c66 c67 c68 c69 c70 c71 c72 c73 c74 c75 c76 c77 c78 c79 c80 c81 c82 c83 c84 c85 c86 c87 c88 c89 c90 c91 c92 c93 c94 c95 c96 c97 c98 c99 c100 c101 c102 c103 c104 c105 c106 c107 c108 c109 c110 c111 c112 c113 c114 c115 c116 c117 c118 c119 c120 c121 c122 c123 c124 c125 c126 c127 c128 c129 c130 c131 c132 c133 c134 c135 c136 c137 c138 c139 c140 c141 c142 c143 c144 c145 c146 c147 c148 c149 c150 c151 c152 c153 c154 c155 c156 c157 c158 c159 c160 c161 c162 c163 c164 c165 c166 c167 c168 c169 c170 c171 c172 c173 c174 c175 c176 c177 c178 c179 c180 c181 c182 c183 c184 c185 c186 c187 c188 c189 c190 c191 c192 c193 c194 c195 c196 c197 c198 c199 c200 c201 c202 c203 c204 c205 c206 c207 c208 c209 c210 c211 c212 c213 c214 c215 c216 c217 c218 c219 c220 c221 c222 c223 c224 c225 c226 : Value} :
    Code.wp Yba.prog (tl 14 (Yba.f4.body.getD .skip)) (bodyPost Yba.prog Yba.f4 fun x w' => x = .returned (.bool true) ∧ Below N w0 w') ⟨#[c0, c1, c2, .pointer (some ⟨WSP, 0, none⟩), .bool false, .int .i64 (n : Int), c6, c7, c8, c9, .slice va (CH nw Z T n).length vc, c11, .slice (some ⟨OB, 0, none⟩) n oc, c13, c14, c15, c16, c17, c18, c19, c20, c21, c22, c23, c24, c25, c26, c27, c28, c29, c30, c31, c32, c33, c34, c35, c36, c37, c38, c39, c40, c41, c42, c43, c44, c45, c46, c47, c48, c49, c50, c51, c52, c53, c54, c55, c56, c57, c58, c59, c60, c61, c62, c63, c64, c65, c66, c67, c68, c69, c70, c71, c72, c73, c74, c75, c76, c77, c78, c79, c80, c81, c82, c83, c84, c85, c86, c87, c88, c89, c90, c91, c92, c93, c94, c95, c96, c97, c98, c99, c100, c101, c102, c103, c104, c105, c106, c107, c108, c109, c110, c111, c112, c113, c114, c115, c116, c117, c118, c119, c120, c121, c122, c123, c124, c125, c126, c127, c128, c129, c130, c131, c132, c133, c134, c135, c136, c137, c138, c139, c140, c141, c142, c143, c144, c145, c146, c147, c148, c149, c150, c151, c152, c153, c154, c155, c156, c157, c158, c159, c160, c161, c162, c163, c164, c165, c166, c167, c168, c169, c170, c171, c172, c173, c174, c175, c176, c177, c178, c179, c180, c181, c182, c183, c184, c185, c186, c187, c188, c189, c190, c191, c192, c193, c194, c195, c196, c197, c198, c199, c200, c201, c202, c203, c204, c205, c206, c207, c208, c209, c210, c211, c212, c213, c214, c215, c216, c217, c218, c219, c220, c221, c222, c223, c224, c225, c226], []⟩ w := by
  obtain ⟨T', hT⟩ : ∃ T', T' = tl 18 (Yba.f4.body.getD .skip) := ⟨_, rfl⟩
  conv => arg 2; whnf
  refine split4 T' hT.symm ?_
  replace hT : Hid (T' = tl 18 (Yba.f4.body.getD .skip)) := hT
  have hmk := mk26 n (by omega)
  have hOw : Out (fun _ => False) w ((w.alloc (.cells (rowL (fun _ => .int .i64 0) n).toArray 3)).alloc (.cells (rowL (fun _ => .int .i64 0) n).toArray 3)) := (out_alloc _ w _).trans (out_alloc _ _ _) (fun _ _ h => h)
  have hOl := ho.lt
  have hwc := World.block_lt_of_cell? w _ hc
  have HL : Hid (Lb OB w.heap.size (w.heap.size + 1) WSP n nw wwc base T wa Z (.slice va (CH nw Z T n).length vc) (CH nw Z T n).length (prs ((CH nw Z T n).reverse.map T)) 0 0 ((w.alloc (.cells (rowL (fun _ => .int .i64 0) n).toArray 3)).alloc (.cells (rowL (fun _ => .int .i64 0) n).toArray 3))) := by
    refine ⟨(hOw.block OB hOl id).trans ho, ((rw_new w _ n 3).alloc _).congr (fun j _ => by rw [if_neg (by omega)]; rfl), ?_, hOw.cell hc id, hy.out hOw (fun _ _ => id), own_kept hown hOw (fun _ _ => id)⟩
    have := rw_new (w.alloc (.cells (rowL (fun _ => .int .i64 0) n).toArray 3)) (fun _ => .int .i64 0) n 3
    rw [show (w.alloc (.cells (rowL (fun _ => .int .i64 0) n).toArray 3)).heap.size = w.heap.size + 1 by simp] at this
    exact this.congr (fun j _ => by rw [if_neg (by omega)])
  have HB : Hid (Below N w0 ((w.alloc (.cells (rowL (fun _ => .int .i64 0) n).toArray 3)).alloc (.cells (rowL (fun _ => .int .i64 0) n).toArray 3))) := below_out hB hOw (fun _ h => h.elim) hN
  have HZ : Hid (∀ j, j < nw → Z j < 256) := hZ
  have HT5 : Hid (∀ k, k < n → 0 ≤ (T k).1 ∧ (T k).1 < 512) := hT5
  have HVA : Hid ((CH nw Z T n).length = 0 → va = none ∧ vc = 0) := hva
  have HSE : Hid (∀ k, k < n → (T k).1 = (Sx T k : Nat)) := fun k hk => by have := hT5 k hk; unfold Sx; omega
  have HSP : Hid (∀ y, 0 < Sc (Sx T) (Wx nw Z T) y) := fun y => sc_pos _ _ y (wt_pos _ _ _)
  have HSL : Hid (∀ i, Sc (Sx T) (Wx nw Z T) i ≤ 8 * (i + 1)) := sc_le _ _ (fun i => wt_le _ _ _)
  have hwa0 : 0 < nw → ∀ ad, wa = some ad → ad.block < w.heap.size := fun h0 ad had => by
    obtain ⟨b, off, e, hcc⟩ := hy h0
    rw [had] at e
    cases e
    exact World.block_lt_of_cell? w _ (hcc 0 h0)
  have hgb0 : ∀ k, (Value.slice va (CH nw Z T n).length vc).ownBlock = some k → k < w.heap.size := fun k hk => (hown.lt k hk).2
  have HWA0 : Hid (0 < nw → ∀ ad, wa = some ad → ad.block < w.heap.size) := hwa0
  have HGB0 : Hid (∀ k, (Value.slice va (CH nw Z T n).length vc).ownBlock = some k → k < w.heap.size) := hgb0
  clear ho hc hy hown hB hZ hT5 hva hOw hwa0 hgb0
  go_wp2
  obtain ⟨SB, hSB⟩ : ∃ SB, SB = w.heap.size := ⟨_, rfl⟩
  obtain ⟨VB, hVB⟩ : ∃ VB, VB = w.heap.size + 1 := ⟨_, rfl⟩
  have n1 : OB < SB := by omega
  have n2 : WSP < SB := by rw [hSB]; exact hwc
  have n3 : SB < VB := by omega
  have n4 : N ≤ SB := by omega
  rw [← hVB, ← hSB] at HL ⊢
  have HWA : Hid (0 < nw → ∀ ad, wa = some ad → ad.block < SB) := by rw [hSB]; exact HWA0.out
  have HGB : Hid (∀ k, (Value.slice va (CH nw Z T n).length vc).ownBlock = some k → k < SB) := by rw [hSB]; exact HGB0.out
  generalize (w.alloc (.cells (rowL (fun _ => .int .i64 0) n).toArray 3)).alloc (.cells (rowL (fun _ => .int .i64 0) n).toArray 3) = wm at HL HB ⊢
  clear hSB hVB hOl hwc hN HWA0 HGB0
  go_loopw [18, 19] (fun tv xv wr => ∃ (x : Nat), x ≤ n ∧ tv = .int .i64 (en (tp (Sx T) (Wx nw Z T) x).2) ∧ xv = .int .i64 x ∧ Hid (Lb OB SB VB WSP n nw wwc base T wa Z (.slice va (CH nw Z T n).length vc) (CH nw Z T n).length (prs ((CH nw Z T n).reverse.map T)) x x wr) ∧ Hid (Below N w0 wr) ∧ SB < wr.heap.size) (fun _ xv _ => n - (intOf xv).toNat)
  case atStart => exact ⟨0, Nat.zero_le _, rfl, rfl, HL, HB, HL.out.s.lt⟩
  case round =>
    clear HL HB
    obtain ⟨x, hx, rfl, rfl, HL, HB, hsz⟩ := hrel
    by_cases hlt : x < n
    · have hltI : (x : Int) < (n : Int) := by omega
      go_wp2
      rename World => wr
      have hsc : ∀ k, k < x → wr.cell? ⟨SB, k, none⟩ = some (.int .i64 (Sc (Sx T) (Wx nw Z T) k : Nat)) := fun k hk => by
        have := HL.out.s.cell (show k < n by omega)
        rw [if_pos hk] at this
        exact this
      have HSC : Hid (∀ k, k < x → wr.cell? ⟨SB, k, none⟩ = some (.int .i64 (Sc (Sx T) (Wx nw Z T) k : Nat))) := hsc
      clear hsc
      go_loopw [20, 21] (fun bv yv wq => ∃ (y q : Nat), y ≤ x ∧ bv = .int .i64 (en (bb (Sx T) (Sc (Sx T) (Wx nw Z T)) (Sx T x) y).2) ∧ yv = .int .i64 y ∧ wq = wr.drewN q) (fun _ yv _ => x - (intOf yv).toNat)
      case atStart => exact ⟨0, 0, Nat.zero_le _, rfl, rfl, rfl⟩
      case round =>
        obtain ⟨y, q, hy, rfl, rfl, rfl⟩ := hrel
        by_cases hyx : y < x
        · have hyxI : (y : Int) < (x : Int) := by omega
          have hynI : (y : Int) < (n : Int) := by omega
          have oy := HL.out.o.c0 (show y < n by omega)
          have ox := HL.out.o.c0 hlt
          have ey := HSE.out y (by omega)
          have ex := HSE.out x hlt
          have HBB : Hid (bb (Sx T) (Sc (Sx T) (Wx nw Z T)) (Sx T x) (y + 1) = if Sx T y < Sx T x ∧ rb (Sx T) (run (Sc (Sx T) (Wx nw Z T)) y) (bb (Sx T) (Sc (Sx T) (Wx nw Z T)) (Sx T x) y) = true then run (Sc (Sx T) (Wx nw Z T)) y else bb (Sx T) (Sc (Sx T) (Wx nw Z T)) (Sx T x) y) := rfl
          by_cases hS : Sx T y < Sx T x
          · have hI : (T y).1 < (T x).1 := by omega
            have HS1 : Hid (Sx T y < Sx T x) := hS
            have HEY : Hid ((T y).1 = (Sx T y : Nat)) := ey
            clear ey ex hS
            rcases bb_form (Sx T) (Sc (Sx T) (Wx nw Z T)) (Sx T x) y with e | ⟨b, hb, e⟩
            · have HE : Hid (bb (Sx T) (Sc (Sx T) (Wx nw Z T)) (Sx T x) y = (0, none)) := e
              rw [e, show en ((0, none) : Rn).2 = -1 from rfl]
              clear e
              go_wp2
              go_region_held3 (fun w' => w'.cell? ⟨OB, y * 2, none⟩ = some (.int .i64 (T y).1) ∧ w'.cell? ⟨OB, x * 2, none⟩ = some (.int .i64 (T x).1)) (go_keep) ((go_at_call 14; refine (better_none y _ _ _).mono ?_; rintro e w1 ⟨rfl, rfl⟩))
              go_wp2
              go_roundw
              case rel =>
                refine ⟨y + 1, q + 1, by omega, ?_, by go_num, rfl⟩
                rw [HBB.out, HE.out, if_pos ⟨HS1.out, rb_some _ _ _ (HSP.out y)⟩]
                rfl
              case measure => simp [intOf]; omega
            · have HE : Hid (bb (Sx T) (Sc (Sx T) (Wx nw Z T)) (Sx T x) y = run (Sc (Sx T) (Wx nw Z T)) b) := e
              have ob := HL.out.o.c0 (show b < n by omega)
              have sy := HSC.out y hyx
              have sb := HSC.out b (by omega)
              have hbe := bet_eq (Sx T) (Sc (Sx T) (Wx nw Z T)) (fun k => (T k).1) y b HEY.out (HSE.out b (by omega))
              rw [e, show en (run (Sc (Sx T) (Wx nw Z T)) b).2 = (b : Int) from rfl]
              have hcall := better_some (Sc (Sx T) (Wx nw Z T)) (fun k => (T k).1) y b n SB OB n oc (by omega) (by omega) (wr.drewN (q + 1)) (fun k hk => by rcases hk with rfl | rfl; exact sy; exact sb) (fun k hk => by rcases hk with rfl | rfl; exact oy; exact ob)
              rw [hbe] at hcall
              clear e hbe
              cases hrb : rb (Sx T) (run (Sc (Sx T) (Wx nw Z T)) y) (run (Sc (Sx T) (Wx nw Z T)) b) with
              | true =>
                rw [hrb] at hcall
                go_wp2
                go_region_held3 (fun w' => w'.cell? ⟨OB, y * 2, none⟩ = some (.int .i64 (T y).1) ∧ w'.cell? ⟨OB, x * 2, none⟩ = some (.int .i64 (T x).1)) (go_keep) ((go_at_call 14; refine hcall.mono ?_; rintro e w1 ⟨rfl, q1, rfl⟩))
                go_wp2
                go_roundw
                case rel =>
                  refine ⟨y + 1, q + 1 + q1, by omega, ?_, by go_num, rfl⟩
                  rw [HBB.out, HE.out, if_pos ⟨HS1.out, hrb⟩]
                  rfl
                case measure => simp [intOf]; omega
              | false =>
                rw [hrb] at hcall
                go_wp2
                go_region_held3 (fun w' => w'.cell? ⟨OB, y * 2, none⟩ = some (.int .i64 (T y).1) ∧ w'.cell? ⟨OB, x * 2, none⟩ = some (.int .i64 (T x).1)) (go_keep) ((go_at_call 14; refine hcall.mono ?_; rintro e w1 ⟨rfl, q1, rfl⟩))
                go_wp2
                go_roundw
                case rel =>
                  refine ⟨y + 1, q + 1 + q1, by omega, ?_, by go_num, rfl⟩
                  rw [HBB.out, HE.out, if_neg (fun h => by rw [hrb] at h; exact absurd h.2 (by simp))]
                  rfl
                case measure => simp [intOf]; omega
          · have HI : Hid (decide ((T y).1 < (T x).1) = false) := decide_eq_false (by omega)
            have HS1 : Hid (¬ Sx T y < Sx T x) := hS
            clear ey ex hS
            go_wp2
            have hI := HI.out
            go_quiet (fail)
            go_wp2
            go_roundw
            case rel =>
              refine ⟨y + 1, _, by omega, ?_, by go_num, rfl⟩
              rw [HBB.out, if_neg (fun h => HS1.out h.1)]
            case measure => simp [intOf]; omega
        · obtain rfl : x = y := by omega
          obtain ⟨r, hr⟩ : ∃ r, bb (Sx T) (Sc (Sx T) (Wx nw Z T)) (Sx T x) x = r := ⟨_, rfl⟩
          have HF : Hid (r = (0, none) ∨ ∃ b, b < x ∧ r = run (Sc (Sx T) (Wx nw Z T)) b) := by rw [← hr]; exact bb_form _ _ _ _
          have HPE : Hid (Pv (Sx T) (Wx nw Z T) x = r.2) := by rw [← hr]; exact rfl
          have HSE2 : Hid (Sc (Sx T) (Wx nw Z T) x = r.1 + WT nw Z (T x)) := by rw [← hr]; exact sc_eq _ _ x
          rw [hr]
          have hr1 : r.1 ≤ 40000 := by
            rcases HF.out with e | ⟨b, hb, e⟩
            · rw [e]; simp only; omega
            · have := HSL.out b
              rw [e]; simp only [run]; omega
          have HLq : Hid (Lb OB SB VB WSP n nw wwc base T wa Z (.slice va (CH nw Z T n).length vc) (CH nw Z T n).length (prs ((CH nw Z T n).reverse.map T)) x x (wr.drewN q)) := HL.out.out (out_draw wr q)
          have HBq : Hid (Below N w0 (wr.drewN q)) := ⟨HB.out.os, HB.out.tape, HB.out.output, HB.out.size, HB.out.block⟩
          have v1 : (wr.drewN q).cell? ⟨VB, x, none⟩ = some (.int .i64 0) := by
            have := HLq.out.v.cell hlt
            rw [if_neg (by omega)] at this
            exact this
          have v2 : (wr.drewN q).frozen? ⟨VB, x, none⟩ = false := HLq.out.v.frozen x
          clear hr HL HB
          go_upto_if 168 with (fail)
          have hOv := out_set (wr.drewN q) ⟨VB, x, none⟩ (.int .i64 (en r.2))
          have HLv : Hid (Lb OB SB VB WSP n nw wwc base T wa Z (.slice va (CH nw Z T n).length vc) (CH nw Z T n).length (prs ((CH nw Z T n).reverse.map T)) x (x + 1) ((wr.drewN q).setCell ⟨VB, x, none⟩ (.int .i64 (en r.2)))) := by
            have hl := HLq.out
            refine ⟨RW.other hl.o (by show OB ≠ VB; omega) _, hl.s.other (by show SB ≠ VB; omega) _, hl.v.set hlt _ _ (fun j hj => ?_), hOv.cell hl.c (by show ¬ WSP = VB; omega), ?_, ?_⟩
            · by_cases e : j = x
              · subst e; rw [if_pos rfl, if_pos (by omega), HPE.out]
              · rw [if_neg e]
                by_cases e2 : j < x
                · rw [if_pos e2, if_pos (by omega)]
                · rw [if_neg e2, if_neg (by omega)]
            · exact hl.y.out' hOv (fun h0 ad had => by have := HWA.out h0 ad had; show ¬ ad.block = VB; omega)
            · exact own_kept hl.g hOv (fun k hk => by have := HGB.out k hk; show ¬ k = VB; omega)
          have HBv : Hid (Below N w0 ((wr.drewN q).setCell ⟨VB, x, none⟩ (.int .i64 (en r.2)))) := HBq.out.setCell (p := ⟨VB, x, none⟩) (by show N ≤ VB; omega) _
          have hsv : SB < ((wr.drewN q).setCell ⟨VB, x, none⟩ (.int .i64 (en r.2))).heap.size := HLv.out.s.lt
          generalize (wr.drewN q).setCell ⟨VB, x, none⟩ (.int .i64 (en r.2)) = wv at HLv HBv hsv ⊢
          clear v1 v2 HLq HBq hOv hsz HSC
          go_cut [22] from 134 to 189 (fun s22 wx => s22 = .int .i64 (r.1 : Nat) ∧ wx = wv)
          case first =>
            rcases HF.out with e | ⟨b, hb, e⟩
            · subst e
              rw [show en ((0, none) : Rn).2 = -1 from rfl]
              go_wp2
              go_meet
              case rel => exact ⟨rfl, rfl⟩
            · subst e
              have sb : wv.cell? ⟨SB, b, none⟩ = some (.int .i64 (Sc (Sx T) (Wx nw Z T) b : Nat)) := by
                have := HLv.out.s.cell (show b < n by omega)
                rw [if_pos hb] at this
                exact this
              have hbI : (b : Int) < (n : Int) := by omega
              rw [show en (run (Sc (Sx T) (Wx nw Z T)) b).2 = (b : Int) from rfl]
              go_wp2
              go_meet
              case rel => exact ⟨rfl, rfl⟩
          case rest =>
            obtain ⟨rfl, rfl⟩ := hcut
            rename World => wv
            have ox0 := HLv.out.o.c0 hlt
            have ox1 := HLv.out.o.c1 hlt
            have cw := HLv.out.c
            have nO0 : (⟨SB, x, none⟩ : Addr) ≠ ⟨OB, x * 2, none⟩ := fun e => by simp only [Addr.mk.injEq] at e; omega
            have nO1 : (⟨SB, x, none⟩ : Addr) ≠ ⟨OB, x * 2 + 1, none⟩ := fun e => by simp only [Addr.mk.injEq] at e; omega
            have nW : (⟨SB, x, none⟩ : Addr) ≠ ⟨WSP, 0, none⟩ := fun e => by simp only [Addr.mk.injEq] at e; omega
            have hwcall : Calls Yba.prog 12 #[.slice wa nw wwc, .agg #[.int .i64 (T x).1, .int .i64 (T x).2]] (wv.drewN 1) fun e w' => e = .returned (.int .i64 (WT nw Z (T x) : Nat)) ∧ Below wv.heap.size wv w' := (weight_c (T x) wa nw wwc Z hnw (wv.drewN 1) HLv.out.y HZ.out).mono fun _ _ ⟨he, hb⟩ => ⟨he, below_draw hb⟩
            have hwt8 := wt_le nw Z (T x)
            have hwrap : IntKind.i64.wrap ((r.1 : Int) + (WT nw Z (T x) : Nat)) = (Sc (Sx T) (Wx nw Z T) x : Nat) := by
              have := HSE2.out
              rw [IntKind.wrap_i64]; omega
            go_wp2
            go_region_held3 (fun w' => w'.cell? ⟨WSP, 0, none⟩ = some (.slice wa nw wwc) ∧ w'.cell? ⟨OB, x * 2, none⟩ = some (.int .i64 (T x).1) ∧ w'.cell? ⟨OB, x * 2 + 1, none⟩ = some (.int .i64 (T x).2)) (first | go_keep | (refine ⟨?_, ?_, ?_⟩ <;> (rw [World.cell?_setCell_other _ _ _ _ (by assumption)]; assumption))) ((go_at_call 12; refine hwcall.mono ?_; rintro e w1 ⟨rfl, hb1⟩; have HL1 : Hid (Lb OB SB VB WSP n nw wwc base T wa Z (.slice va (CH nw Z T n).length vc) (CH nw Z T n).length (prs ((CH nw Z T n).reverse.map T)) x (x + 1) w1) := HLv.out.out (out_below hb1); have d0 := HL1.out.c; have d1 := HL1.out.o.c0 hlt; have d2 := HL1.out.o.c1 hlt; have d3 := HL1.out.s.cell hlt; have d4 := HL1.out.s.frozen x; have HB1 : Hid (Below N w0 w1) := HBv.out.trans (hb1.mono (by omega)); have hs1 : SB < w1.heap.size := HL1.out.s.lt; clear hb1))
            have hOs := out_set w1 ⟨SB, x, none⟩ (.int .i64 (Sc (Sx T) (Wx nw Z T) x : Nat))
            have HLS : Hid (Lb OB SB VB WSP n nw wwc base T wa Z (.slice va (CH nw Z T n).length vc) (CH nw Z T n).length (prs ((CH nw Z T n).reverse.map T)) (x + 1) (x + 1) (w1.setCell ⟨SB, x, none⟩ (.int .i64 (Sc (Sx T) (Wx nw Z T) x : Nat)))) := by
              have hl := HL1.out
              refine ⟨RW.other hl.o (by show OB ≠ SB; omega) _, hl.s.set hlt _ _ (fun j hj => ?_), hl.v.other (by show VB ≠ SB; omega) _, hOs.cell hl.c (by show ¬ WSP = SB; omega), hl.y.out' hOs (fun h0 ad had => by have := HWA.out h0 ad had; show ¬ ad.block = SB; omega), own_kept hl.g hOs (fun k hk => by have := HGB.out k hk; show ¬ k = SB; omega)⟩
              by_cases e : j = x
              · subst e; rw [if_pos rfl, if_pos (by omega)]
              · rw [if_neg e]
                by_cases e2 : j < x
                · rw [if_pos e2, if_pos (by omega)]
                · rw [if_neg e2, if_neg (by omega)]
            have HBS : Hid (Below N w0 (w1.setCell ⟨SB, x, none⟩ (.int .i64 (Sc (Sx T) (Wx nw Z T) x : Nat)))) := HB1.out.setCell (p := ⟨SB, x, none⟩) (by show N ≤ SB; omega) _
            generalize w1.setCell ⟨SB, x, none⟩ (.int .i64 (Sc (Sx T) (Wx nw Z T) x : Nat)) = ws at HLS HBS ⊢
            have hss : SB < ws.heap.size := HLS.out.s.lt
            have hsc : ∀ k, k < x + 1 → ws.cell? ⟨SB, k, none⟩ = some (.int .i64 (Sc (Sx T) (Wx nw Z T) k : Nat)) := fun k hk => by
              have := HLS.out.s.cell (show k < n by omega)
              rw [if_pos hk] at this
              exact this
            have hoc : ∀ k, k < n → ws.cell? ⟨OB, k * 2, none⟩ = some (.int .i64 (T k).1) := fun k hk => HLS.out.o.c0 hk
            have HTP : Hid (tp (Sx T) (Wx nw Z T) (x + 1) = if rb (Sx T) (run (Sc (Sx T) (Wx nw Z T)) x) (tp (Sx T) (Wx nw Z T) x) = true then run (Sc (Sx T) (Wx nw Z T)) x else tp (Sx T) (Wx nw Z T) x) := rfl
            clear hOs HL1 HB1 hs1 d0 d1 d2 d3 d4 hwrap hwcall nO0 nO1 nW ox0 ox1 cw HLv HBv
            rcases tp_form (Sx T) (Wx nw Z T) x with e | ⟨t, ht, e⟩
            · have HE : Hid (tp (Sx T) (Wx nw Z T) x = (0, none)) := e
              rw [e, show en ((0, none) : Rn).2 = -1 from rfl]
              clear e hsc hoc
              go_wp2_with (go_at_call 14; refine (better_none x _ _ _).mono ?_; rintro e w2 ⟨rfl, rfl⟩)
              go_roundw
              case rel =>
                refine ⟨x + 1, by omega, ?_, by go_num, HLS, HBS, hss⟩
                rw [HTP.out, HE.out, if_pos (show rb (Sx T) (run (Sc (Sx T) (Wx nw Z T)) x) (0, none) = true from rb_some _ _ _ (HSP.out x))]
                rfl
              case measure => simp [intOf]; omega
            · have HE : Hid (tp (Sx T) (Wx nw Z T) x = run (Sc (Sx T) (Wx nw Z T)) t) := e
              have hbe := bet_eq (Sx T) (Sc (Sx T) (Wx nw Z T)) (fun k => (T k).1) x t (HSE.out x hlt) (HSE.out t (by omega))
              have hcall := better_some (Sc (Sx T) (Wx nw Z T)) (fun k => (T k).1) x t n SB OB n oc hlt (by omega) ws (fun k hk => hsc k (by omega)) (fun k hk => hoc k (by omega))
              rw [hbe] at hcall
              rw [e, show en (run (Sc (Sx T) (Wx nw Z T)) t).2 = (t : Int) from rfl]
              clear e hbe hsc hoc
              cases hrb : rb (Sx T) (run (Sc (Sx T) (Wx nw Z T)) x) (run (Sc (Sx T) (Wx nw Z T)) t) with
              | true =>
                rw [hrb] at hcall
                go_wp2_with (go_at_call 14; refine hcall.mono ?_; rintro e w2 ⟨rfl, q2, rfl⟩)
                go_roundw
                case rel =>
                  refine ⟨x + 1, by omega, ?_, by go_num, HLS.out.out (out_draw ws q2), ⟨HBS.out.os, HBS.out.tape, HBS.out.output, HBS.out.size, HBS.out.block⟩, hss⟩
                  rw [HTP.out, HE.out, hrb]
                  rfl
                case measure => simp [intOf]; omega
              | false =>
                rw [hrb] at hcall
                go_wp2_with (go_at_call 14; refine hcall.mono ?_; rintro e w2 ⟨rfl, q2, rfl⟩)
                go_roundw
                case rel =>
                  refine ⟨x + 1, by omega, ?_, by go_num, HLS.out.out (out_draw ws q2), ⟨HBS.out.os, HBS.out.tape, HBS.out.output, HBS.out.size, HBS.out.block⟩, hss⟩
                  rw [HTP.out, HE.out, hrb]
                  rfl
                case measure => simp [intOf]; omega
    · obtain rfl : x = n := by omega
      go_wp2
      rw [hT.out]
      rename World => wz
      exact law_a N w0 wz HB.out OB VB x oc x base (Pv (Sx T) (Wx nw Z T)) T (tp (Sx T) (Wx nw Z T) x).2 va vc hn (fun x y hy => pv_lt _ _ hy) (fun y hy => tp_lt _ _ hy) HL.out.o (HL.out.v.congr (fun j hj => by rw [if_pos hj])) HL.out.g HVA.out

end Go.Proofs.Ybulkdwzg.lawB
