/-
FnFitted: how the words of a rectangle that is fitted stand to the law's: the ratio, the scale, both fits. Conditions: sides from 1 / 64 to 20,000.
-/
import Derived.Test.YtooghncdhjdcpaaA6
import Derived.Test.YtooghncdhjdcpaaFx
namespace Go.Proofs.Ytooghncdhjdcpaa
open Go.RowKit Fl

/-- A side: a word that stands for a number from 1 / 64 to 20,000. -/
structure Side (x : Nat) (w : Rat) : Prop where
  r : R x w
  lo : 1 / 64 ≤ w
  hi : w ≤ 20000
theorem divc {p q : Rat} (h : q ≠ 0) : p / q * q = p := by rw [Rat.div_def, Rat.mul_assoc, Rat.inv_mul_cancel q h, Rat.mul_one]
theorem le_of_mul {a b c : Rat} (h : a * c ≤ b * c) (hc : 0 < c) : a ≤ b := Rat.le_of_mul_le_mul_right h hc
theorem div_nonneg {p q : Rat} (hp : 0 ≤ p) (hq : 0 < q) : 0 ≤ p / q := by
  rw [Rat.div_def]; exact Rat.mul_nonneg hp (Rat.le_of_lt (Rat.inv_pos.2 hq))

/-- A quotient of sides: multiplied back it is the first, but for 1e-15 of it. -/
theorem side_quo {x y : Nat} {w h : Rat} (hx : Side x w) (hy : Side y h) :
    ∃ r v, floatBits .quo .f64 x y = some r ∧ R r v ∧ Nr (v * h) w (w / 2000000000000000) ∧ 0 < v := by
  obtain ⟨r1, l1, u1⟩ := hx
  obtain ⟨r2, l2, u2⟩ := hy
  have h0 : h ≠ 0 := by grind
  have hp : 0 < h := by grind
  have d := divc (p := w) h0
  have q0 := div_nonneg (show 0 ≤ w by grind) hp
  have qhi : w / h ≤ 1280000 := by
    refine le_of_mul (c := h) ?_ hp
    rw [d]; grind
  have qlo : 1 / 1280000 ≤ w / h := by
    refine le_of_mul (c := h) ?_ hp
    rw [d]; grind
  obtain ⟨r, v, e, rv, n1, n2⟩ := R_div (B := w / h) r1 r2 h0 (by constructor <;> grind) (by grind) (by grind)
  generalize w / h = D at *
  have k1 := Rat.mul_le_mul_of_nonneg_right n1 (Rat.le_of_lt hp)
  have k2 := Rat.mul_le_mul_of_nonneg_right n2 (Rat.le_of_lt hp)
  refine ⟨r, v, e, rv, ⟨by grind, by grind⟩, by grind⟩

/-- The scale: the lesser of two quotients. -/
theorem scale_words {x y Pw Qw : Nat} {w h P Q : Rat} (hx : Side x w) (hy : Side y h) (hP : Side Pw P) (hQ : Side Qw Q) :
    ∃ q1 q2 sc σ, floatBits .quo .f64 Pw x = some q1 ∧ floatBits .quo .f64 Qw y = some q2 ∧ (∀ ts t w, (Builtin.min_ ts t #[.float .f64 q1, .float .f64 q2]).run Try.prog w = .ok (.float .f64 sc) w) ∧ R sc σ ∧
      σ * w ≤ P + P / 2000000000000000 ∧ σ * h ≤ Q + Q / 2000000000000000 ∧ (P - P / 2000000000000000 ≤ σ * w ∨ Q - Q / 2000000000000000 ≤ σ * h) ∧ 0 < σ := by
  obtain ⟨q1, v1, e1, r1, ⟨a1, a2⟩, p1⟩ := side_quo hP hx
  obtain ⟨q2, v2, e2, r2, ⟨b1, b2⟩, p2⟩ := side_quo hQ hy
  have hw : 0 < w := by have := hx.lo; grind
  have hh : 0 < h := by have := hy.lo; grind
  have ho := order_R r1 r2
  by_cases c : v1 < v2
  · rw [if_pos c] at ho
    have k := Rat.mul_le_mul_of_nonneg_right (Rat.le_of_lt c) (Rat.le_of_lt hh)
    refine ⟨q1, q2, q1, v1, e1, e2, fun ts t w => ?_, r1, by grind, by grind, .inl (by grind), p1⟩
    simp [Builtin.min_, Builtin.min2, show FloatKind.f64.format.order q1 q2 = some .lt from ho]
  · rw [if_neg c] at ho
    have c' : v2 ≤ v1 := Rat.not_lt.1 c
    have k := Rat.mul_le_mul_of_nonneg_right c' (Rat.le_of_lt hw)
    by_cases c2 : v1 = v2
    · rw [if_pos c2] at ho
      refine ⟨q1, q2, (if (FloatKind.f64.decode q1).neg then q1 else q2), v2, e1, e2, fun ts t w => ?_, ?_, by grind, by grind, .inr (by grind), p2⟩
      · simp [Builtin.min_, Builtin.min2, show FloatKind.f64.format.order q1 q2 = some .eq from ho]
      · split
        · rw [← c2]; exact r1
        · exact r2
    · rw [if_neg c2] at ho
      refine ⟨q1, q2, q2, v2, e1, e2, fun ts t w => ?_, r2, by grind, by grind, .inr (by grind), p2⟩
      simp [Builtin.min_, Builtin.min2, show FloatKind.f64.format.order q1 q2 = some .gt from ho]

/-- What the law reckons from the scale: the sides and the halves of what is left. -/
theorem after_scale {x Pw sc : Nat} {w P σ T : Rat} (hx : Side x w) (hP : Side Pw P) (hs : R sc σ) (_ : 0 < σ) (hT : Nr (σ * w) T (1 / 4000000000)) (hT0 : Nr T 0 20001) :
    ∃ k1 k2 k3, floatBits .mul .f64 x sc = some k1 ∧ floatBits .sub .f64 Pw k1 = some k2 ∧ floatBits .quo .f64 k2 4611686018427387904 = some k3 ∧ Ap k1 T 20001 (3 / 10000000000) ∧ Ap k3 ((P - T) / 2) 40001 (3 / 10000000000) := by
  obtain ⟨k1, v1, e1, r1, n1⟩ := R_mul (B := 20002) hx.r hs (by
    obtain ⟨t1, t2⟩ := hT
    obtain ⟨t3, t4⟩ := hT0
    constructor <;> grind) (by decide +kernel) (by decide +kernel)
  have A1 : Ap k1 T 20001 (3 / 10000000000) := by
    refine ⟨v1, r1, ?_, hT0⟩
    obtain ⟨t1, t2⟩ := hT
    obtain ⟨m1, m2⟩ := n1
    constructor <;> grind
  have A0 : Ap Pw P 20000 0 := Ap.of hP.r ⟨by have := hP.lo; have := hP.hi; grind, by have := hP.lo; have := hP.hi; grind⟩
  obtain ⟨k2, e2, A2⟩ := A0.sub A1 40001 (4 / 10000000000) (by decide +kernel)
  obtain ⟨k3, e3, A3⟩ := A2.div Ap.two 2 Rat.le_refl 40001 (3 / 10000000000) (by decide +kernel)
  exact ⟨k1, k2, k3, e1, e2, e3, A1, A3⟩

/-- Fitted by the width: the other side, half of what it leaves; the law's numbers are near. -/
theorem fit_width {x y Pw Qw r : Nat} {w h P Q v : Rat} (hx : Side x w) (hy : Side y h) (hP : Side Pw P) (hQ : Side Qw Q) (hr : R r v) (hv : Nr (v * h) w (w / 2000000000000000)) (hv0 : 0 < v) (hc : P * h ≤ Q * w * (1 + 1 / 200000000000000)) :
    ∃ m n1 n2 q1 q2 sc k1 k2 k3 l1 l2 l3, floatBits .quo .f64 Pw r = some m ∧ floatBits .sub .f64 Qw m = some n1 ∧ floatBits .quo .f64 n1 4611686018427387904 = some n2 ∧
      floatBits .quo .f64 Pw x = some q1 ∧ floatBits .quo .f64 Qw y = some q2 ∧ (∀ ts t w, (Builtin.min_ ts t #[.float .f64 q1, .float .f64 q2]).run Try.prog w = .ok (.float .f64 sc) w) ∧
      floatBits .mul .f64 x sc = some k1 ∧ floatBits .sub .f64 Pw k1 = some k2 ∧ floatBits .quo .f64 k2 4611686018427387904 = some k3 ∧ floatBits .mul .f64 y sc = some l1 ∧ floatBits .sub .f64 Qw l1 = some l2 ∧ floatBits .quo .f64 l2 4611686018427387904 = some l3 ∧
      NearT Pw k1 ∧ NearT m l1 ∧ NearT 0 k3 ∧ NearT n2 l3 := by
  obtain ⟨q1, q2, sc, σ, e1, e2, em, rs, s1, s2, s3, s0⟩ := scale_words hx hy hP hQ
  have hw0 : 0 < w := by have := hx.lo; grind
  have hh0 : 0 < h := by have := hy.lo; grind
  have hP0 : 0 < P := by have := hP.lo; grind
  have hQ0 : 0 < Q := by have := hQ.lo; grind
  have wne : w ≠ 0 := by grind
  have hv1 : v ≠ 0 := by grind
  -- the exact other side
  have dM := divc (p := P * h) wne
  have Ph : 0 ≤ P * h := Rat.mul_nonneg (Rat.le_of_lt hP0) (Rat.le_of_lt hh0)
  have M0 := div_nonneg Ph hw0
  have MQ : P * h / w ≤ Q * (1 + 1 / 200000000000000) := by
    refine le_of_mul (c := w) ?_ hw0
    rw [dM]; grind
  -- sigma times w is near P
  have lowW : P - P / 100000000000000 ≤ σ * w := by
    rcases s3 with s | s
    · grind
    · refine le_of_mul (c := h) ?_ hh0
      have k := Rat.mul_le_mul_of_nonneg_right s (Rat.le_of_lt hw0)
      grind
  have nW : Nr (σ * w) P (1 / 4000000000) := by
    have := hP.hi
    constructor <;> grind
  have nH : Nr (σ * h) (P * h / w) (1 / 4000000000) := by
    have k1 := Rat.mul_le_mul_of_nonneg_right lowW (Rat.le_of_lt hh0)
    have k2 := Rat.mul_le_mul_of_nonneg_right s1 (Rat.le_of_lt hh0)
    have hi := hQ.hi
    have up : σ * h ≤ P * h / w + (P * h / w) / 2000000000000000 := by
      refine le_of_mul (c := w) ?_ hw0
      grind
    have lo : P * h / w - (P * h / w) / 100000000000000 ≤ σ * h := by
      refine le_of_mul (c := w) ?_ hw0
      grind
    constructor <;> grind
  have bP : Nr P 0 20001 := by have := hP.hi; constructor <;> grind
  have bM : Nr (P * h / w) 0 20001 := by have := hQ.hi; constructor <;> grind
  obtain ⟨k1, k2, k3, f1, f2, f3, A1, A3⟩ := after_scale hx hP rs s0 nW bP
  obtain ⟨l1, l2, l3, g1, g2, g3, B1, B3⟩ := after_scale hy hQ rs s0 nH bM
  -- the word of P / r
  have dv := divc (p := P) hv1
  have qv : Nr (P / v) (P * h / w) (1 / 4000000000) := by
    obtain ⟨c1, c2⟩ := hv
    have hvw : 0 < v * w := Rat.mul_pos hv0 hw0
    have p0 := div_nonneg (Rat.le_of_lt hP0) hv0
    have hi := hQ.hi
    have i1 := Rat.mul_le_mul_of_nonneg_right c1 (Rat.le_of_lt hP0)
    have i2 := Rat.mul_le_mul_of_nonneg_right c2 (Rat.le_of_lt hP0)
    have up : P / v ≤ P * h / w + (P * h / w) / 1000000000000000 := by
      refine le_of_mul (c := v * w) ?_ hvw
      have a1 : P / v * (v * w) = P * w := by rw [← Rat.mul_assoc, dv]
      have a2 : (P * h / w + P * h / w / 1000000000000000) * (v * w) = P * h * v + P * h * v / 1000000000000000 := by
        have : P * h / w * (v * w) = P * h * v := by rw [Rat.mul_comm v w, ← Rat.mul_assoc, dM]
        grind
      rw [a1, a2]
      grind
    have lo : P * h / w - (P * h / w) / 1000000000000000 ≤ P / v := by
      refine le_of_mul (c := v * w) ?_ hvw
      have a1 : P / v * (v * w) = P * w := by rw [← Rat.mul_assoc, dv]
      have a2 : (P * h / w - P * h / w / 1000000000000000) * (v * w) = P * h * v - P * h * v / 1000000000000000 := by
        have : P * h / w * (v * w) = P * h * v := by rw [Rat.mul_comm v w, ← Rat.mul_assoc, dM]
        grind
      rw [a1, a2]
      grind
    constructor <;> grind
  obtain ⟨m, mv, em1, rm, nm⟩ := R_div (B := 20002) hP.r hr hv1 (by
    obtain ⟨t1, t2⟩ := qv
    obtain ⟨t3, t4⟩ := bM
    constructor <;> grind) (by decide +kernel) (by decide +kernel)
  have Am : Ap m (P * h / w) 20001 (3 / 10000000000) := by
    refine ⟨mv, rm, ?_, bM⟩
    obtain ⟨t1, t2⟩ := qv
    obtain ⟨t3, t4⟩ := nm
    constructor <;> grind
  have AQ : Ap Qw Q 20000 0 := Ap.of hQ.r ⟨by have := hQ.hi; grind, by have := hQ.hi; grind⟩
  have AP : Ap Pw P 20001 0 := Ap.of hP.r bP
  obtain ⟨n1, en1, An1⟩ := AQ.sub Am 40001 (4 / 10000000000) (by decide +kernel)
  obtain ⟨n2, en2, An2⟩ := An1.div Ap.two 2 Rat.le_refl 40001 (3 / 10000000000) (by decide +kernel)
  have Z : Ap 0 0 40001 0 := Ap.zero.mono (by decide +kernel) Rat.le_refl
  exact ⟨m, n1, n2, q1, q2, sc, k1, k2, k3, l1, l2, l3, em1, en1, en2, e1, e2, em, f1, f2, f3, g1, g2, g3, NearT.of AP A1 rfl (by decide +kernel), NearT.of Am B1 rfl (by decide +kernel), NearT.of Z A3 (by grind) (by decide +kernel), NearT.of An2 B3 rfl (by decide +kernel)⟩
/-- Fitted by the height: the other side, half of what it leaves; the law's numbers are near. -/
theorem fit_height {x y Pw Qw r : Nat} {w h P Q v : Rat} (hx : Side x w) (hy : Side y h) (hP : Side Pw P) (hQ : Side Qw Q) (hr : R r v) (hv : Nr (v * h) w (w / 2000000000000000)) (_ : 0 < v) (hc : Q * w ≤ P * h * (1 + 1 / 200000000000000)) :
    ∃ m n1 n2 q1 q2 sc k1 k2 k3 l1 l2 l3, floatBits .mul .f64 r Qw = some m ∧ floatBits .sub .f64 Pw m = some n1 ∧ floatBits .quo .f64 n1 4611686018427387904 = some n2 ∧
      floatBits .quo .f64 Pw x = some q1 ∧ floatBits .quo .f64 Qw y = some q2 ∧ (∀ ts t w, (Builtin.min_ ts t #[.float .f64 q1, .float .f64 q2]).run Try.prog w = .ok (.float .f64 sc) w) ∧
      floatBits .mul .f64 x sc = some k1 ∧ floatBits .sub .f64 Pw k1 = some k2 ∧ floatBits .quo .f64 k2 4611686018427387904 = some k3 ∧ floatBits .mul .f64 y sc = some l1 ∧ floatBits .sub .f64 Qw l1 = some l2 ∧ floatBits .quo .f64 l2 4611686018427387904 = some l3 ∧
      NearT m k1 ∧ NearT Qw l1 ∧ NearT n2 k3 ∧ NearT 0 l3 := by
  obtain ⟨q1, q2, sc, σ, e1, e2, em, rs, s1, s2, s3, s0⟩ := scale_words hx hy hP hQ
  have hw0 : 0 < w := by have := hx.lo; grind
  have hh0 : 0 < h := by have := hy.lo; grind
  have hP0 : 0 < P := by have := hP.lo; grind
  have hQ0 : 0 < Q := by have := hQ.lo; grind
  have hne : h ≠ 0 := by grind
  have dM := divc (p := Q * w) hne
  have Qw0 : 0 ≤ Q * w := Rat.mul_nonneg (Rat.le_of_lt hQ0) (Rat.le_of_lt hw0)
  have M0 := div_nonneg Qw0 hh0
  have MP : Q * w / h ≤ P * (1 + 1 / 200000000000000) := by
    refine le_of_mul (c := h) ?_ hh0
    rw [dM]; grind
  have lowH : Q - Q / 100000000000000 ≤ σ * h := by
    rcases s3 with s | s
    · refine le_of_mul (c := w) ?_ hw0
      have k := Rat.mul_le_mul_of_nonneg_right s (Rat.le_of_lt hh0)
      grind
    · grind
  have nH : Nr (σ * h) Q (1 / 4000000000) := by
    have := hQ.hi
    constructor <;> grind
  have nW : Nr (σ * w) (Q * w / h) (1 / 4000000000) := by
    have k1 := Rat.mul_le_mul_of_nonneg_right lowH (Rat.le_of_lt hw0)
    have k2 := Rat.mul_le_mul_of_nonneg_right s2 (Rat.le_of_lt hw0)
    have hi := hP.hi
    have up : σ * w ≤ Q * w / h + (Q * w / h) / 2000000000000000 := by
      refine le_of_mul (c := h) ?_ hh0
      grind
    have lo : Q * w / h - (Q * w / h) / 100000000000000 ≤ σ * w := by
      refine le_of_mul (c := h) ?_ hh0
      grind
    constructor <;> grind
  have bQ : Nr Q 0 20001 := by have := hQ.hi; constructor <;> grind
  have bM : Nr (Q * w / h) 0 20001 := by have := hP.hi; constructor <;> grind
  obtain ⟨k1, k2, k3, f1, f2, f3, A1, A3⟩ := after_scale hx hP rs s0 nW bM
  obtain ⟨l1, l2, l3, g1, g2, g3, B1, B3⟩ := after_scale hy hQ rs s0 nH bQ
  have qv : Nr (v * Q) (Q * w / h) (1 / 4000000000) := by
    obtain ⟨c1, c2⟩ := hv
    have hi := hP.hi
    have i1 := Rat.mul_le_mul_of_nonneg_right c1 (Rat.le_of_lt hQ0)
    have i2 := Rat.mul_le_mul_of_nonneg_right c2 (Rat.le_of_lt hQ0)
    have up : v * Q ≤ Q * w / h + (Q * w / h) / 2000000000000000 := by
      refine le_of_mul (c := h) ?_ hh0
      grind
    have lo : Q * w / h - (Q * w / h) / 2000000000000000 ≤ v * Q := by
      refine le_of_mul (c := h) ?_ hh0
      grind
    constructor <;> grind
  obtain ⟨m, mv, em1, rm, nm⟩ := R_mul (B := 20002) hr hQ.r (by
    obtain ⟨t1, t2⟩ := qv
    obtain ⟨t3, t4⟩ := bM
    constructor <;> grind) (by decide +kernel) (by decide +kernel)
  have Am : Ap m (Q * w / h) 20001 (3 / 10000000000) := by
    refine ⟨mv, rm, ?_, bM⟩
    obtain ⟨t1, t2⟩ := qv
    obtain ⟨t3, t4⟩ := nm
    constructor <;> grind
  have AP : Ap Pw P 20000 0 := Ap.of hP.r ⟨by have := hP.hi; grind, by have := hP.hi; grind⟩
  have AQ : Ap Qw Q 20001 0 := Ap.of hQ.r bQ
  obtain ⟨n1, en1, An1⟩ := AP.sub Am 40001 (4 / 10000000000) (by decide +kernel)
  obtain ⟨n2, en2, An2⟩ := An1.div Ap.two 2 Rat.le_refl 40001 (3 / 10000000000) (by decide +kernel)
  have Z : Ap 0 0 40001 0 := Ap.zero.mono (by decide +kernel) Rat.le_refl
  exact ⟨m, n1, n2, q1, q2, sc, k1, k2, k3, l1, l2, l3, em1, en1, en2, e1, e2, em, f1, f2, f3, g1, g2, g3, NearT.of Am A1 rfl (by decide +kernel), NearT.of AQ B1 rfl (by decide +kernel), NearT.of An2 A3 rfl (by decide +kernel), NearT.of Z B3 (by grind) (by decide +kernel)⟩
end Go.Proofs.Ytooghncdhjdcpaa
