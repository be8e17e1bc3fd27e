/-
FnFitted: the walks of all cases joined. No condition.
-/
import Derived.Test.YtooghncdhjdcpaaB22
import Derived.Test.YtooghncdhjdcpaaB21i
import Derived.Test.YtooghncdhjdcpaaB23
namespace Go.Proofs.Ytooghncdhjdcpaa
open Go.RowKit Fl

theorem side_sub {a c : Nat} {k m : Int} (ha : R a ((k : Rat) / 64)) (hc : R c ((m : Rat) / 64)) (h : k < m) (h1 : -640000 ≤ k) (h2 : m ≤ 640000) :
    ∃ x, floatBits .sub .f64 c a = some x ∧ R x (((m - k : Int) : Rat) / 64) ∧ Side x (((m - k : Int) : Rat) / 64) := by
  obtain ⟨x, e, r⟩ := sub64 hc ha (by omega)
  have l1 : ((1 : Int) : Rat) ≤ ((m - k : Int) : Rat) := Rat.intCast_le_intCast.2 (by omega)
  have l2 : ((m - k : Int) : Rat) ≤ ((1280000 : Int) : Rat) := Rat.intCast_le_intCast.2 (by omega)
  have z1 : ((1 : Int) : Rat) = 1 := rfl
  have z2 : ((1280000 : Int) : Rat) = 1280000 := rfl
  rw [z1] at l1
  rw [z2] at l2
  exact ⟨x, e, r, r, by grind, by grind⟩
/-- A ratio held against 1. -/
theorem ratio_one {r : Nat} {v : Rat} {p q : Int} (hr : R r v) (hv : Nr (v * ((q : Rat) / 64)) ((p : Rat) / 64) ((p : Rat) / 64 / 2000000000000000)) (p1 : 1 ≤ p) (p2 : p ≤ 1280000) (q1 : 1 ≤ q) (hne : p ≠ q) :
    gt r w1 = decide (q < p) ∧ lt r w1 = decide (p < q) := by
  have a1 : ((1 : Int) : Rat) ≤ (p : Rat) := Rat.intCast_le_intCast.2 p1
  have a2 : (p : Rat) ≤ ((1280000 : Int) : Rat) := Rat.intCast_le_intCast.2 p2
  have a3 : ((1 : Int) : Rat) ≤ (q : Rat) := Rat.intCast_le_intCast.2 q1
  have z1 : ((1 : Int) : Rat) = 1 := rfl
  have z2 : ((1280000 : Int) : Rat) = 1280000 := rfl
  rw [z1] at a1 a3
  rw [z2] at a2
  have hlt : p < q → (p : Rat) + 1 ≤ (q : Rat) := fun h => by
    have : ((p + 1 : Int) : Rat) ≤ (q : Rat) := Rat.intCast_le_intCast.2 h
    rw [Rat.intCast_add, z1] at this
    exact this
  have hgt : q < p → (q : Rat) + 1 ≤ (p : Rat) := fun h => by
    have : ((q + 1 : Int) : Rat) ≤ (p : Rat) := Rat.intCast_le_intCast.2 h
    rw [Rat.intCast_add, z1] at this
    exact this
  obtain ⟨n1, n2⟩ := hv
  have up : q < p → 1 < v := fun h => by
    have g := hgt h
    refine Rat.not_le.1 fun c => ?_
    have := Rat.mul_le_mul_of_nonneg_right c (show (0 : Rat) ≤ (q : Rat) by grind)
    grind
  have dn : p < q → v < 1 := fun h => by
    have g := hlt h
    refine Rat.not_le.1 fun c => ?_
    have := Rat.mul_le_mul_of_nonneg_right c (show (0 : Rat) ≤ (q : Rat) by grind)
    grind
  refine ⟨f_gtr hr R_one (decide_eq_decide.2 ⟨fun h => ?_, up⟩), f_lss hr R_one (decide_eq_decide.2 ⟨fun h => ?_, dn⟩)⟩
  · rcases Int.lt_trichotomy p q with c | c | c
    · have := dn c; grind
    · exact absurd c hne
    · exact c
  · rcases Int.lt_trichotomy p q with c | c | c
    · exact c
    · exact absurd c hne
    · have := up c; grind
/-- The order of two ratios, multiplied crosswise. -/
theorem cross {v h w v' h' w' : Rat} (n1 : Nr (v * h) w (w / 900000000000000)) (n2 : Nr (v' * h') w' (w' / 900000000000000)) (le : v ≤ v') (h0 : 0 < h) (h1 : 0 < h') (k0 : 0 < w) (k1 : 0 < w') : w * h' ≤ w' * h * (1 + 1 / 200000000000000) := by
  obtain ⟨a1, a2⟩ := n1
  obtain ⟨b1, b2⟩ := n2
  have c1 := Rat.mul_le_mul_of_nonneg_right le (Rat.le_of_lt (Rat.mul_pos h0 h1))
  have c2 := Rat.mul_le_mul_of_nonneg_right a2 (Rat.le_of_lt h1)
  have c3 := Rat.mul_le_mul_of_nonneg_right b1 (Rat.le_of_lt h0)
  have p1 := Rat.mul_pos k1 h0
  have p2 := Rat.mul_pos k0 h1
  grind
/-- One over a ratio. -/
theorem inv_words {r : Nat} {v w h : Rat} (hr : R r v) (hv : Nr (v * h) w (w / 2000000000000000)) (hv0 : 0 < v) (hw : 1 / 64 ≤ w ∧ w ≤ 20000) (hh : 1 / 64 ≤ h ∧ h ≤ 20000) :
    ∃ i ι, floatBits .quo .f64 w1 r = some i ∧ R i ι ∧ Nr (ι * w) h (h / 900000000000000) := by
  have hv1 : v ≠ 0 := by grind
  have d := divc (p := 1) hv1
  have p0 := div_nonneg (show (0 : Rat) ≤ 1 by decide +kernel) hv0
  obtain ⟨n1, n2⟩ := hv
  -- v is from 1 / 2560000 to 2560000
  have vhi : v ≤ 2560000 := by
    refine le_of_mul (c := h) ?_ (by grind)
    grind
  have vlo : 1 / 2560000 ≤ v := by
    refine le_of_mul (c := h) ?_ (by grind)
    grind
  have ihi : 1 / v ≤ 2560000 := by
    refine le_of_mul (c := v) ?_ hv0
    rw [d]; grind
  have ilo : 1 / 2560000 ≤ 1 / v := by
    refine le_of_mul (c := v) ?_ hv0
    rw [d]; grind
  obtain ⟨i, ι, e, ri, m1, m2⟩ := R_div (B := 1 / v) R_one hr hv1 (by constructor <;> grind) (by grind) (by grind)
  refine ⟨i, ι, e, ri, ?_⟩
  have k1 := Rat.mul_le_mul_of_nonneg_right m1 (Rat.le_of_lt hv0)
  have k2 := Rat.mul_le_mul_of_nonneg_right m2 (Rat.le_of_lt hv0)
  generalize 1 / v = J at *
  have ι0 : 0 ≤ ι := by grind
  have u1 : ι * v ≤ 1 + 1 / 2000000000000000 := by grind
  have u2 : 1 - 1 / 2000000000000000 ≤ ι * v := by grind
  have h0 : 0 ≤ h := by grind
  have j1 := Rat.mul_le_mul_of_nonneg_right u1 h0
  have j2 := Rat.mul_le_mul_of_nonneg_right u2 h0
  have j3 := Rat.mul_le_mul_of_nonneg_right n1 ι0
  have j4 := Rat.mul_le_mul_of_nonneg_right n2 ι0
  constructor <;> grind
theorem wide {a b e : Rat} (h : Nr a b (e / 2000000000000000)) (h0 : 0 ≤ e) : Nr a b (e / 900000000000000) := h.mono (by grind)
theorem geo {p q P Q : Int} (h1 : P < Q) (h2 : q < p) (_ : (0 : Rat) < (P : Rat) / 64) (w0 : (0 : Rat) < (p : Rat) / 64) (Q0 : (0 : Rat) < (Q : Rat) / 64) (h0 : (0 : Rat) < (q : Rat) / 64) : (P : Rat) / 64 * ((q : Rat) / 64) ≤ (Q : Rat) / 64 * ((p : Rat) / 64) * (1 + 1 / 200000000000000) := by
  have a1 := Rat.intCast_lt_intCast.2 h1
  have a2 := Rat.intCast_lt_intCast.2 h2
  have c1 := Rat.mul_le_mul_of_nonneg_right (show (P : Rat) / 64 ≤ (Q : Rat) / 64 by grind) (Rat.le_of_lt h0)
  have c2 := Rat.mul_le_mul_of_nonneg_right (show (q : Rat) / 64 ≤ (p : Rat) / 64 by grind) (Rat.le_of_lt Q0)
  have c3 := Rat.mul_pos Q0 w0
  grind
/-- The halves, where the rectangle is only moved. -/
theorem half_words {x X : Nat} {w W : Rat} (hx : Side x w) (hX : Side X W) :
    ∃ m1 m2 m3 k1 k2, floatBits .quo .f64 X w2 = some m1 ∧ floatBits .quo .f64 x w2 = some m2 ∧ floatBits .sub .f64 m1 m2 = some m3 ∧ floatBits .sub .f64 X x = some k1 ∧ floatBits .quo .f64 k1 w2 = some k2 ∧ NearT m3 k2 ∧ NearT x x := by
  have A : Ap x w 20000 0 := Ap.of hx.r ⟨by have := hx.lo; have := hx.hi; grind, by have := hx.lo; have := hx.hi; grind⟩
  have B : Ap X W 20000 0 := Ap.of hX.r ⟨by have := hX.lo; have := hX.hi; grind, by have := hX.lo; have := hX.hi; grind⟩
  obtain ⟨m1, e1, f1⟩ := B.div Ap.two 2 Rat.le_refl 10000 (1 / 10000000000) (by decide +kernel)
  obtain ⟨m2, e2, f2⟩ := A.div Ap.two 2 Rat.le_refl 10000 (1 / 10000000000) (by decide +kernel)
  obtain ⟨m3, e3, f3⟩ := f1.sub f2 20000 (3 / 10000000000) (by decide +kernel)
  obtain ⟨k1, e4, f4⟩ := B.sub A 40000 (1 / 10000000000) (by decide +kernel)
  obtain ⟨k2, e5, f5⟩ := f4.div Ap.two 2 Rat.le_refl 20000 (3 / 10000000000) (by decide +kernel)
  exact ⟨m1, m2, m3, k1, k2, e1, e2, e3, e4, e5, NearT.of f3 f5 (by grind) (by decide +kernel), NearT.same A (by decide +kernel)⟩
/-- How it comes that the rectangle is scaled. -/
def UpCase (up : Bool) (x y X Y : Nat) : Prop := up = true ∨ (up = false ∧ leqf x X = false) ∨ (up = false ∧ leqf x X = true ∧ leqf y Y = false)
theorem upScales {up : Bool} {a b c d a' b' c' d' x y X Y : Nat} (hD : Diffs a b c d a' b' c' d' x y X Y) (h : UpCase up x y X Y) : Scales up a b c d a' b' c' d' := by
  rcases h with rfl | ⟨rfl, g⟩ | ⟨rfl, g1, g2⟩
  · exact .inl rfl
  · exact .inr ⟨rfl, fun W g' hg => fits_no W hg hD.hx hD.hX g⟩
  · exact .inr ⟨rfl, fun W g' hg => fits_yes W hg hD.hx hD.hX hD.hy hD.hY g1 g2⟩

set_option maxHeartbeats 2000000 in
theorem fitlaw_scaled {a b c d a' b' c' d' x y X Y : Nat} {p q P Q : Int} (orient up : Bool) (w : World) (H1 : Hid (properB a b c d = true)) (H2 : Hid (properB a' b' c' d' = true)) (hD : Diffs a b c d a' b' c' d' x y X Y)
    (rx : R x ((p : Rat) / 64)) (ry : R y ((q : Rat) / 64)) (rX : R X ((P : Rat) / 64)) (rY : R Y ((Q : Rat) / 64)) (sx : Side x ((p : Rat) / 64)) (sy : Side y ((q : Rat) / 64)) (sX : Side X ((P : Rat) / 64)) (sY : Side Y ((Q : Rat) / 64))
    (bp : 1 ≤ p ∧ p ≤ 1280000) (bq : 1 ≤ q ∧ q ≤ 1280000) (bP : 1 ≤ P ∧ P ≤ 1280000) (bQ : 1 ≤ Q ∧ Q ≤ 1280000) (hpq : p ≠ q) (hPQ : P ≠ Q) (hU : UpCase up x y X Y) :
    Calls Try.prog 21 #[.agg #[.float .f64 a, .float .f64 b, .float .f64 c, .float .f64 d], .agg #[.float .f64 a', .float .f64 b', .float .f64 c', .float .f64 d'], .bool orient, .bool up] w fun e w' => e = .returned (.bool true) ∧ Below w.heap.size w w' := by
  have f1 : eqf x y = false := by have := i_eql rx ry (b := decide (p = q)) rfl; rw [decide_eq_false hpq] at this; exact this
  have f2 : eqf X Y = false := by have := i_eql rX rY (b := decide (P = Q)) rfl; rw [decide_eq_false hPQ] at this; exact this
  have gxy : gt x y = decide (q < p) := i_gtr rx ry rfl
  have gXY : gt X Y = decide (Q < P) := i_gtr rX rY rfl
  obtain ⟨r, v, er, rr, nv, v0⟩ := side_quo sx sy
  obtain ⟨s, v', es, rs, nv', v0'⟩ := side_quo sX sY
  obtain ⟨tg, tl⟩ := ratio_one rr nv bp.1 bp.2 bq.1 hpq
  obtain ⟨tg', tl'⟩ := ratio_one rs nv' bP.1 bP.2 bQ.1 hPQ
  have SZ : Sizes a b c d a' b' c' d' x y X Y r s := ⟨hD.hx, hD.hy, hD.hX, hD.hY, er, es⟩
  have HS := upScales hD hU
  have w0 : (0 : Rat) < (p : Rat) / 64 := by have := sx.lo; grind
  have h0 : (0 : Rat) < (q : Rat) / 64 := by have := sy.lo; grind
  have W0 : (0 : Rat) < (P : Rat) / 64 := by have := sX.lo; grind
  have Q0 : (0 : Rat) < (Q : Rat) / 64 := by have := sY.lo; grind
  obtain ⟨i, ι, ei, ri, ni⟩ := inv_words rr nv v0 ⟨sx.lo, sx.hi⟩ ⟨sy.lo, sy.hi⟩
  have N := wide nv (Rat.le_of_lt w0)
  have N' := wide nv' (Rat.le_of_lt W0)
  have gts : gt r s = decide (v' < v) := f_gtr rr rs rfl
  have lts : lt r s = decide (v < v') := f_lss rr rs rfl
  have gti : gt i s = decide (v' < ι) := f_gtr ri rs rfl
  have lti : lt i s = decide (ι < v') := f_lss ri rs rfl
  by_cases hg : q < p
  · by_cases hg' : Q < P
    · by_cases ht : v' < v
      · have hc := cross N' N (Rat.le_of_lt ht) Q0 h0 W0 w0
        rw [Rat.mul_comm ((p : Rat) / 64)] at hc
        obtain ⟨m, n1, n2, q1, q2, sc, k1, k2, k3, l1, l2, l3, hm, hn1, hn2, e1, e2, em, e3, e4, e5, e6, e7, e8, N1, N2, N3, N4⟩ := fit_width sx sy sX sY rr nv v0 hc
        have HF : ∀ W g g', RectAt W g a b c d → RectAt W g' a' b' c' d' → _ := fun W g g' h1 h2 => fit_S1 (g := g) (g' := g') up orient W h1 h2 SZ HS (by rw [tg]; exact decide_eq_true hg) (by rw [tg']; exact decide_eq_true hg') (by rw [gts]; exact decide_eq_true ht) m n1 n2 hm hn1 hn2
        have tt1 : gt x y = true := by rw [gxy]; exact decide_eq_true hg
        have tt2 : gt X Y = true := by rw [gXY]; exact decide_eq_true hg'
        cases orient
        · rcases hU with rfl | ⟨rfl, u1⟩ | ⟨rfl, u1, u2⟩
          · exact fitlaw_u_n w H1 H2 hD f1 f2 HF q1 q2 sc k1 k2 k3 l1 l2 l3 e1 e2 em e3 e4 e5 e6 e7 e8 N1 N2 N3 N4
          · exact fitlaw_x_n w H1 H2 hD f1 f2 u1 HF q1 q2 sc k1 k2 k3 l1 l2 l3 e1 e2 em e3 e4 e5 e6 e7 e8 N1 N2 N3 N4
          · exact fitlaw_y_n w H1 H2 hD f1 f2 u1 u2 HF q1 q2 sc k1 k2 k3 l1 l2 l3 e1 e2 em e3 e4 e5 e6 e7 e8 N1 N2 N3 N4
        · rcases hU with rfl | ⟨rfl, u1⟩ | ⟨rfl, u1, u2⟩
          · exact fitlaw_u_tt w H1 H2 hD f1 f2 tt1 tt2 HF q1 q2 sc k1 k2 k3 l1 l2 l3 e1 e2 em e3 e4 e5 e6 e7 e8 N1 N2 N3 N4
          · exact fitlaw_x_tt w H1 H2 hD f1 f2 u1 tt1 tt2 HF q1 q2 sc k1 k2 k3 l1 l2 l3 e1 e2 em e3 e4 e5 e6 e7 e8 N1 N2 N3 N4
          · exact fitlaw_y_tt w H1 H2 hD f1 f2 u1 u2 tt1 tt2 HF q1 q2 sc k1 k2 k3 l1 l2 l3 e1 e2 em e3 e4 e5 e6 e7 e8 N1 N2 N3 N4
      · have hc := cross N N' (Rat.not_lt.1 ht) h0 Q0 w0 W0
        rw [Rat.mul_comm ((p : Rat) / 64)] at hc
        obtain ⟨m, n1, n2, q1, q2, sc, k1, k2, k3, l1, l2, l3, hm, hn1, hn2, e1, e2, em, e3, e4, e5, e6, e7, e8, N1, N2, N3, N4⟩ := fit_height sx sy sX sY rr nv v0 hc
        have HF : ∀ W g g', RectAt W g a b c d → RectAt W g' a' b' c' d' → _ := fun W g g' h1 h2 => fit_S2 (g := g) (g' := g') up orient W h1 h2 SZ HS (by rw [tg]; exact decide_eq_true hg) (by rw [tg']; exact decide_eq_true hg') (by rw [gts]; exact decide_eq_false ht) m n1 n2 hm hn1 hn2
        have tt1 : gt x y = true := by rw [gxy]; exact decide_eq_true hg
        have tt2 : gt X Y = true := by rw [gXY]; exact decide_eq_true hg'
        cases orient
        · rcases hU with rfl | ⟨rfl, u1⟩ | ⟨rfl, u1, u2⟩
          · exact fitlaw_u_n w H1 H2 hD f1 f2 HF q1 q2 sc k1 k2 k3 l1 l2 l3 e1 e2 em e3 e4 e5 e6 e7 e8 N1 N2 N3 N4
          · exact fitlaw_x_n w H1 H2 hD f1 f2 u1 HF q1 q2 sc k1 k2 k3 l1 l2 l3 e1 e2 em e3 e4 e5 e6 e7 e8 N1 N2 N3 N4
          · exact fitlaw_y_n w H1 H2 hD f1 f2 u1 u2 HF q1 q2 sc k1 k2 k3 l1 l2 l3 e1 e2 em e3 e4 e5 e6 e7 e8 N1 N2 N3 N4
        · rcases hU with rfl | ⟨rfl, u1⟩ | ⟨rfl, u1, u2⟩
          · exact fitlaw_u_tt w H1 H2 hD f1 f2 tt1 tt2 HF q1 q2 sc k1 k2 k3 l1 l2 l3 e1 e2 em e3 e4 e5 e6 e7 e8 N1 N2 N3 N4
          · exact fitlaw_x_tt w H1 H2 hD f1 f2 u1 tt1 tt2 HF q1 q2 sc k1 k2 k3 l1 l2 l3 e1 e2 em e3 e4 e5 e6 e7 e8 N1 N2 N3 N4
          · exact fitlaw_y_tt w H1 H2 hD f1 f2 u1 u2 tt1 tt2 HF q1 q2 sc k1 k2 k3 l1 l2 l3 e1 e2 em e3 e4 e5 e6 e7 e8 N1 N2 N3 N4
    · have hl' : P < Q := by omega
      cases orient
      · have hc : (P : Rat) / 64 * ((q : Rat) / 64) ≤ (Q : Rat) / 64 * ((p : Rat) / 64) * (1 + 1 / 200000000000000) := geo hl' hg W0 w0 Q0 h0
        obtain ⟨m, n1, n2, q1, q2, sc, k1, k2, k3, l1, l2, l3, hm, hn1, hn2, e1, e2, em, e3, e4, e5, e6, e7, e8, N1, N2, N3, N4⟩ := fit_width sx sy sX sY rr nv v0 hc
        have HF : ∀ W g g', RectAt W g a b c d → RectAt W g' a' b' c' d' → _ := fun W g g' h1 h2 => fit_S5 (g := g) (g' := g') up W h1 h2 SZ HS (by rw [tg]; exact decide_eq_true hg) (by rw [tg']; exact decide_eq_false hg') m n1 n2 hm hn1 hn2
        rcases hU with rfl | ⟨rfl, u1⟩ | ⟨rfl, u1, u2⟩
        · exact fitlaw_u_n w H1 H2 hD f1 f2 HF q1 q2 sc k1 k2 k3 l1 l2 l3 e1 e2 em e3 e4 e5 e6 e7 e8 N1 N2 N3 N4
        · exact fitlaw_x_n w H1 H2 hD f1 f2 u1 HF q1 q2 sc k1 k2 k3 l1 l2 l3 e1 e2 em e3 e4 e5 e6 e7 e8 N1 N2 N3 N4
        · exact fitlaw_y_n w H1 H2 hD f1 f2 u1 u2 HF q1 q2 sc k1 k2 k3 l1 l2 l3 e1 e2 em e3 e4 e5 e6 e7 e8 N1 N2 N3 N4
      · by_cases ht : ι < v'
        · have hc := cross ni N' (Rat.le_of_lt ht) w0 Q0 h0 W0
          rw [Rat.mul_comm ((q : Rat) / 64)] at hc
          obtain ⟨m, n1, n2, q1, q2, sc, k1, k2, k3, l1, l2, l3, hm, hn1, hn2, e1, e2, em, e3, e4, e5, e6, e7, e8, N1, N2, N3, N4⟩ := fit_width sx sy sY sX rr nv v0 hc
          have HF : ∀ W g g', RectAt W g a b c d → RectAt W g' a' b' c' d' → _ := fun W g g' h1 h2 => fit_S3 (g := g) (g' := g') up W h1 h2 SZ HS (by rw [tg]; exact decide_eq_true hg) (by rw [tg']; exact decide_eq_false hg') i ei (by rw [lti]; exact decide_eq_true ht) m n1 n2 hm hn1 hn2
          have tt1 : gt x y = true := by rw [gxy]; exact decide_eq_true hg
          have tt2 : gt X Y = false := by rw [gXY]; exact decide_eq_false hg'
          rcases hU with rfl | ⟨rfl, u1⟩ | ⟨rfl, u1, u2⟩
          · exact fitlaw_u_tf w H1 H2 hD f1 f2 tt1 tt2 HF q1 q2 sc k1 k2 k3 l1 l2 l3 e1 e2 em e3 e4 e5 e6 e7 e8 N1 N2 N4 N3
          · exact fitlaw_x_tf w H1 H2 hD f1 f2 u1 tt1 tt2 HF q1 q2 sc k1 k2 k3 l1 l2 l3 e1 e2 em e3 e4 e5 e6 e7 e8 N1 N2 N4 N3
          · exact fitlaw_y_tf w H1 H2 hD f1 f2 u1 u2 tt1 tt2 HF q1 q2 sc k1 k2 k3 l1 l2 l3 e1 e2 em e3 e4 e5 e6 e7 e8 N1 N2 N4 N3
        · have hc := cross N' ni (Rat.not_lt.1 ht) Q0 w0 W0 h0
          rw [Rat.mul_comm ((q : Rat) / 64)] at hc
          obtain ⟨m, n1, n2, q1, q2, sc, k1, k2, k3, l1, l2, l3, hm, hn1, hn2, e1, e2, em, e3, e4, e5, e6, e7, e8, N1, N2, N3, N4⟩ := fit_height sx sy sY sX rr nv v0 hc
          have HF : ∀ W g g', RectAt W g a b c d → RectAt W g' a' b' c' d' → _ := fun W g g' h1 h2 => fit_S4 (g := g) (g' := g') up W h1 h2 SZ HS (by rw [tg]; exact decide_eq_true hg) (by rw [tg']; exact decide_eq_false hg') i ei (by rw [lti]; exact decide_eq_false ht) m n1 n2 hm hn1 hn2
          have tt1 : gt x y = true := by rw [gxy]; exact decide_eq_true hg
          have tt2 : gt X Y = false := by rw [gXY]; exact decide_eq_false hg'
          rcases hU with rfl | ⟨rfl, u1⟩ | ⟨rfl, u1, u2⟩
          · exact fitlaw_u_tf w H1 H2 hD f1 f2 tt1 tt2 HF q1 q2 sc k1 k2 k3 l1 l2 l3 e1 e2 em e3 e4 e5 e6 e7 e8 N1 N2 N4 N3
          · exact fitlaw_x_tf w H1 H2 hD f1 f2 u1 tt1 tt2 HF q1 q2 sc k1 k2 k3 l1 l2 l3 e1 e2 em e3 e4 e5 e6 e7 e8 N1 N2 N4 N3
          · exact fitlaw_y_tf w H1 H2 hD f1 f2 u1 u2 tt1 tt2 HF q1 q2 sc k1 k2 k3 l1 l2 l3 e1 e2 em e3 e4 e5 e6 e7 e8 N1 N2 N4 N3
  · have hl : p < q := by omega
    by_cases hg' : Q < P
    · have hl' : ¬ P < Q := by omega
      cases orient
      · have hc : (Q : Rat) / 64 * ((p : Rat) / 64) ≤ (P : Rat) / 64 * ((q : Rat) / 64) * (1 + 1 / 200000000000000) := geo hg' hl Q0 h0 W0 w0
        obtain ⟨m, n1, n2, q1, q2, sc, k1, k2, k3, l1, l2, l3, hm, hn1, hn2, e1, e2, em, e3, e4, e5, e6, e7, e8, N1, N2, N3, N4⟩ := fit_height sx sy sX sY rr nv v0 hc
        have HF : ∀ W g g', RectAt W g a b c d → RectAt W g' a' b' c' d' → _ := fun W g g' h1 h2 => fit_P5 (g := g) (g' := g') up W h1 h2 SZ HS (by rw [tg]; exact decide_eq_false hg) (by rw [tl]; exact decide_eq_true hl) (by rw [tl']; exact decide_eq_false hl') m n1 n2 hm hn1 hn2
        rcases hU with rfl | ⟨rfl, u1⟩ | ⟨rfl, u1, u2⟩
        · exact fitlaw_u_n w H1 H2 hD f1 f2 HF q1 q2 sc k1 k2 k3 l1 l2 l3 e1 e2 em e3 e4 e5 e6 e7 e8 N1 N2 N3 N4
        · exact fitlaw_x_n w H1 H2 hD f1 f2 u1 HF q1 q2 sc k1 k2 k3 l1 l2 l3 e1 e2 em e3 e4 e5 e6 e7 e8 N1 N2 N3 N4
        · exact fitlaw_y_n w H1 H2 hD f1 f2 u1 u2 HF q1 q2 sc k1 k2 k3 l1 l2 l3 e1 e2 em e3 e4 e5 e6 e7 e8 N1 N2 N3 N4
      · by_cases ht : v' < ι
        · have hc := cross N' ni (Rat.le_of_lt ht) Q0 w0 W0 h0
          rw [Rat.mul_comm ((q : Rat) / 64)] at hc
          obtain ⟨m, n1, n2, q1, q2, sc, k1, k2, k3, l1, l2, l3, hm, hn1, hn2, e1, e2, em, e3, e4, e5, e6, e7, e8, N1, N2, N3, N4⟩ := fit_height sx sy sY sX rr nv v0 hc
          have HF : ∀ W g g', RectAt W g a b c d → RectAt W g' a' b' c' d' → _ := fun W g g' h1 h2 => fit_P3 (g := g) (g' := g') up W h1 h2 SZ HS (by rw [tg]; exact decide_eq_false hg) (by rw [tl]; exact decide_eq_true hl) (by rw [tl']; exact decide_eq_false hl') i ei (by rw [gti]; exact decide_eq_true ht) m n1 n2 hm hn1 hn2
          have tt1 : gt x y = false := by rw [gxy]; exact decide_eq_false hg
          have tt2 : gt X Y = true := by rw [gXY]; exact decide_eq_true hg'
          rcases hU with rfl | ⟨rfl, u1⟩ | ⟨rfl, u1, u2⟩
          · exact fitlaw_u_ft w H1 H2 hD f1 f2 tt1 tt2 HF q1 q2 sc k1 k2 k3 l1 l2 l3 e1 e2 em e3 e4 e5 e6 e7 e8 N1 N2 N4 N3
          · exact fitlaw_x_ft w H1 H2 hD f1 f2 u1 tt1 tt2 HF q1 q2 sc k1 k2 k3 l1 l2 l3 e1 e2 em e3 e4 e5 e6 e7 e8 N1 N2 N4 N3
          · exact fitlaw_y_ft w H1 H2 hD f1 f2 u1 u2 tt1 tt2 HF q1 q2 sc k1 k2 k3 l1 l2 l3 e1 e2 em e3 e4 e5 e6 e7 e8 N1 N2 N4 N3
        · have hc := cross ni N' (Rat.not_lt.1 ht) w0 Q0 h0 W0
          rw [Rat.mul_comm ((q : Rat) / 64)] at hc
          obtain ⟨m, n1, n2, q1, q2, sc, k1, k2, k3, l1, l2, l3, hm, hn1, hn2, e1, e2, em, e3, e4, e5, e6, e7, e8, N1, N2, N3, N4⟩ := fit_width sx sy sY sX rr nv v0 hc
          have HF : ∀ W g g', RectAt W g a b c d → RectAt W g' a' b' c' d' → _ := fun W g g' h1 h2 => fit_P4 (g := g) (g' := g') up W h1 h2 SZ HS (by rw [tg]; exact decide_eq_false hg) (by rw [tl]; exact decide_eq_true hl) (by rw [tl']; exact decide_eq_false hl') i ei (by rw [gti]; exact decide_eq_false ht) m n1 n2 hm hn1 hn2
          have tt1 : gt x y = false := by rw [gxy]; exact decide_eq_false hg
          have tt2 : gt X Y = true := by rw [gXY]; exact decide_eq_true hg'
          rcases hU with rfl | ⟨rfl, u1⟩ | ⟨rfl, u1, u2⟩
          · exact fitlaw_u_ft w H1 H2 hD f1 f2 tt1 tt2 HF q1 q2 sc k1 k2 k3 l1 l2 l3 e1 e2 em e3 e4 e5 e6 e7 e8 N1 N2 N4 N3
          · exact fitlaw_x_ft w H1 H2 hD f1 f2 u1 tt1 tt2 HF q1 q2 sc k1 k2 k3 l1 l2 l3 e1 e2 em e3 e4 e5 e6 e7 e8 N1 N2 N4 N3
          · exact fitlaw_y_ft w H1 H2 hD f1 f2 u1 u2 tt1 tt2 HF q1 q2 sc k1 k2 k3 l1 l2 l3 e1 e2 em e3 e4 e5 e6 e7 e8 N1 N2 N4 N3
    · have hl' : P < Q := by omega
      by_cases ht : v < v'
      · have hc := cross N N' (Rat.le_of_lt ht) h0 Q0 w0 W0
        rw [Rat.mul_comm ((p : Rat) / 64)] at hc
        obtain ⟨m, n1, n2, q1, q2, sc, k1, k2, k3, l1, l2, l3, hm, hn1, hn2, e1, e2, em, e3, e4, e5, e6, e7, e8, N1, N2, N3, N4⟩ := fit_height sx sy sX sY rr nv v0 hc
        have HF : ∀ W g g', RectAt W g a b c d → RectAt W g' a' b' c' d' → _ := fun W g g' h1 h2 => fit_P1 (g := g) (g' := g') up orient W h1 h2 SZ HS (by rw [tg]; exact decide_eq_false hg) (by rw [tl]; exact decide_eq_true hl) (by rw [tl']; exact decide_eq_true hl') (by rw [lts]; exact decide_eq_true ht) m n1 n2 hm hn1 hn2
        have tt1 : gt x y = false := by rw [gxy]; exact decide_eq_false hg
        have tt2 : gt X Y = false := by rw [gXY]; exact decide_eq_false hg'
        cases orient
        · rcases hU with rfl | ⟨rfl, u1⟩ | ⟨rfl, u1, u2⟩
          · exact fitlaw_u_n w H1 H2 hD f1 f2 HF q1 q2 sc k1 k2 k3 l1 l2 l3 e1 e2 em e3 e4 e5 e6 e7 e8 N1 N2 N3 N4
          · exact fitlaw_x_n w H1 H2 hD f1 f2 u1 HF q1 q2 sc k1 k2 k3 l1 l2 l3 e1 e2 em e3 e4 e5 e6 e7 e8 N1 N2 N3 N4
          · exact fitlaw_y_n w H1 H2 hD f1 f2 u1 u2 HF q1 q2 sc k1 k2 k3 l1 l2 l3 e1 e2 em e3 e4 e5 e6 e7 e8 N1 N2 N3 N4
        · rcases hU with rfl | ⟨rfl, u1⟩ | ⟨rfl, u1, u2⟩
          · exact fitlaw_u_ff w H1 H2 hD f1 f2 tt1 tt2 HF q1 q2 sc k1 k2 k3 l1 l2 l3 e1 e2 em e3 e4 e5 e6 e7 e8 N1 N2 N3 N4
          · exact fitlaw_x_ff w H1 H2 hD f1 f2 u1 tt1 tt2 HF q1 q2 sc k1 k2 k3 l1 l2 l3 e1 e2 em e3 e4 e5 e6 e7 e8 N1 N2 N3 N4
          · exact fitlaw_y_ff w H1 H2 hD f1 f2 u1 u2 tt1 tt2 HF q1 q2 sc k1 k2 k3 l1 l2 l3 e1 e2 em e3 e4 e5 e6 e7 e8 N1 N2 N3 N4
      · have hc := cross N' N (Rat.not_lt.1 ht) Q0 h0 W0 w0
        rw [Rat.mul_comm ((p : Rat) / 64)] at hc
        obtain ⟨m, n1, n2, q1, q2, sc, k1, k2, k3, l1, l2, l3, hm, hn1, hn2, e1, e2, em, e3, e4, e5, e6, e7, e8, N1, N2, N3, N4⟩ := fit_width sx sy sX sY rr nv v0 hc
        have HF : ∀ W g g', RectAt W g a b c d → RectAt W g' a' b' c' d' → _ := fun W g g' h1 h2 => fit_P2 (g := g) (g' := g') up orient W h1 h2 SZ HS (by rw [tg]; exact decide_eq_false hg) (by rw [tl]; exact decide_eq_true hl) (by rw [tl']; exact decide_eq_true hl') (by rw [lts]; exact decide_eq_false ht) m n1 n2 hm hn1 hn2
        have tt1 : gt x y = false := by rw [gxy]; exact decide_eq_false hg
        have tt2 : gt X Y = false := by rw [gXY]; exact decide_eq_false hg'
        cases orient
        · rcases hU with rfl | ⟨rfl, u1⟩ | ⟨rfl, u1, u2⟩
          · exact fitlaw_u_n w H1 H2 hD f1 f2 HF q1 q2 sc k1 k2 k3 l1 l2 l3 e1 e2 em e3 e4 e5 e6 e7 e8 N1 N2 N3 N4
          · exact fitlaw_x_n w H1 H2 hD f1 f2 u1 HF q1 q2 sc k1 k2 k3 l1 l2 l3 e1 e2 em e3 e4 e5 e6 e7 e8 N1 N2 N3 N4
          · exact fitlaw_y_n w H1 H2 hD f1 f2 u1 u2 HF q1 q2 sc k1 k2 k3 l1 l2 l3 e1 e2 em e3 e4 e5 e6 e7 e8 N1 N2 N3 N4
        · rcases hU with rfl | ⟨rfl, u1⟩ | ⟨rfl, u1, u2⟩
          · exact fitlaw_u_ff w H1 H2 hD f1 f2 tt1 tt2 HF q1 q2 sc k1 k2 k3 l1 l2 l3 e1 e2 em e3 e4 e5 e6 e7 e8 N1 N2 N3 N4
          · exact fitlaw_x_ff w H1 H2 hD f1 f2 u1 tt1 tt2 HF q1 q2 sc k1 k2 k3 l1 l2 l3 e1 e2 em e3 e4 e5 e6 e7 e8 N1 N2 N3 N4
          · exact fitlaw_y_ff w H1 H2 hD f1 f2 u1 u2 tt1 tt2 HF q1 q2 sc k1 k2 k3 l1 l2 l3 e1 e2 em e3 e4 e5 e6 e7 e8 N1 N2 N3 N4

theorem fit_walk (a b c d a' b' c' d' : Nat) (orient up : Bool) (w : World) :
    Calls Try.prog 21 #[.agg #[.float .f64 a, .float .f64 b, .float .f64 c, .float .f64 d], .agg #[.float .f64 a', .float .f64 b', .float .f64 c', .float .f64 d'], .bool orient, .bool up] w fun e w' => e = .returned (.bool true) ∧ Below w.heap.size w w' := by
  by_cases h1 : properB a b c d = true
  · by_cases h2 : properB a' b' c' d' = true
    · obtain ⟨k, l, m, n, ra, rb, rc, rd, ⟨k1, k2⟩, ⟨l1, l2⟩, ⟨m1, m2⟩, ⟨n1, n2⟩, hkm, hln⟩ := properB_true h1
      obtain ⟨k', l', m', n', ra', rb', rc', rd', ⟨k1', k2'⟩, ⟨l1', l2'⟩, ⟨m1', m2'⟩, ⟨n1', n2'⟩, hkm', hln'⟩ := properB_true h2
      obtain ⟨x, ex, rx, sx⟩ := side_sub ra rc hkm k1 m2
      obtain ⟨y, ey, ry, sy⟩ := side_sub rb rd hln l1 n2
      obtain ⟨X, eX, rX, sX⟩ := side_sub ra' rc' hkm' k1' m2'
      obtain ⟨Y, eY, rY, sY⟩ := side_sub rb' rd' hln' l1' n2'
      have hD : Diffs a b c d a' b' c' d' x y X Y := ⟨ex, ey, eX, eY⟩
      have b1 : 1 ≤ m - k ∧ m - k ≤ 1280000 := by omega
      have b2 : 1 ≤ n - l ∧ n - l ≤ 1280000 := by omega
      have b3 : 1 ≤ m' - k' ∧ m' - k' ≤ 1280000 := by omega
      have b4 : 1 ≤ n' - l' ∧ n' - l' ≤ 1280000 := by omega
      generalize m - k = p at *
      generalize n - l = q at *
      generalize m' - k' = P at *
      generalize n' - l' = Q at *
      by_cases hpq : p = q
      · exact fitlaw_far orient up w (.inr (.inr ⟨h1, h2, x, y, X, Y, hD, .inl (i_eql rx ry (decide_eq_true hpq))⟩))
      by_cases hPQ : P = Q
      · exact fitlaw_far orient up w (.inr (.inr ⟨h1, h2, x, y, X, Y, hD, .inr (i_eql rX rY (decide_eq_true hPQ))⟩))
      have gx : leqf x X = decide (p ≤ P) := i_leq rx rX rfl
      have gy : leqf y Y = decide (q ≤ Q) := i_leq ry rY rfl
      have go := fun hU => fitlaw_scaled orient up w (Lib.hid h1) (Lib.hid h2) hD rx ry rX rY sx sy sX sY b1 b2 b3 b4 hpq hPQ hU
      cases up
      · by_cases c1 : p ≤ P
        · rw [decide_eq_true c1] at gx
          by_cases c2 : q ≤ Q
          · rw [decide_eq_true c2] at gy
            obtain ⟨a1, a2, a3, a4, a5, e1, e2, e3, e4, e5, N3, Nx⟩ := half_words sx sX
            obtain ⟨d1, d2, d3, d4, d5, g1, g2, g3, g4, g5, N4, Ny⟩ := half_words sy sY
            have f1 : eqf x y = false := by have := i_eql rx ry (b := decide (p = q)) rfl; rw [decide_eq_false hpq] at this; exact this
            have f2 : eqf X Y = false := by have := i_eql rX rY (b := decide (P = Q)) rfl; rw [decide_eq_false hPQ] at this; exact this
            exact fitlaw_in orient w (Lib.hid h1) (Lib.hid h2) hD f1 f2 gx gy (fun W g g' h3 h4 => fit_IN orient W h3 h4 ex ey eX eY (fun W g hg => fits_yes W hg ex eX ey eY gx gy) a1 a2 a3 d1 d2 d3 e1 e2 e3 g1 g2 g3) a4 a5 d4 d5 e4 e5 g4 g5 Nx Ny N3 N4
          · exact go (.inr (.inr ⟨rfl, gx, by rw [gy]; exact decide_eq_false c2⟩))
        · exact go (.inr (.inl ⟨rfl, by rw [gx]; exact decide_eq_false c1⟩))
      · exact go (.inl rfl)
    · exact fitlaw_far orient up w (.inr (.inl (by simpa using h2)))
  · exact fitlaw_far orient up w (.inl (by simpa using h1))
end Go.Proofs.Ytooghncdhjdcpaa
