/-
Exact operations on sixty-fourths. Conditions: numerators below 2 ^ 50.
-/
import Derived.Test.YtooghncdhjdcpaaFl
namespace Go.Proofs.Ytooghncdhjdcpaa.Fl
open Go Ieee

theorem q64 (n : Int) : (n : Rat) / 64 = (n : Rat) * two (-6) := by
  have : two (-6) = 1 / 64 := by decide +kernel
  rw [this]
  grind

theorem add64 {x y : Nat} {k n : Int} (hx : R x ((k : Rat) / 64)) (hy : R y ((n : Rat) / 64)) (h : (k + n).natAbs < 9007199254740992) :
    ∃ r, floatBits .add .f64 x y = some r ∧ R r (((k + n : Int) : Rat) / 64) := by
  have e : (k : Rat) / 64 + (n : Rat) / 64 = ((k + n : Int) : Rat) / 64 := by rw [Rat.intCast_add]; grind
  obtain ⟨r, h1, h2⟩ := R_add_exact hx hy (k + n) (-6) (by rw [e, q64]) h (by omega) (by omega)
  rw [e] at h2
  exact ⟨r, h1, h2⟩
theorem sub64 {x y : Nat} {k n : Int} (hx : R x ((k : Rat) / 64)) (hy : R y ((n : Rat) / 64)) (h : (k - n).natAbs < 9007199254740992) :
    ∃ r, floatBits .sub .f64 x y = some r ∧ R r (((k - n : Int) : Rat) / 64) := by
  have e : (k : Rat) / 64 - (n : Rat) / 64 = ((k - n : Int) : Rat) / 64 := by rw [Rat.intCast_sub]; grind
  obtain ⟨r, h1, h2⟩ := R_sub_exact hx hy (k - n) (-6) (by rw [e, q64]) h (by omega) (by omega)
  rw [e] at h2
  exact ⟨r, h1, h2⟩
/-- Twice a number. -/
theorem dbl64 {y : Nat} {n : Int} (hy : R y ((n : Rat) / 64)) (h : n.natAbs < 4503599627370496) :
    ∃ r, floatBits .mul .f64 4611686018427387904 y = some r ∧ R r (((2 * n : Int) : Rat) / 64) := by
  have e : 2 * ((n : Rat) / 64) = ((2 * n : Int) : Rat) / 64 := by
    rw [Rat.intCast_mul]
    have : ((2 : Int) : Rat) = 2 := rfl
    rw [this]; grind
  obtain ⟨r, h1, h2⟩ := R_mul_exact R_two hy (2 * n) (-6) (by rw [e, q64]) (by omega) (by omega) (by omega)
  rw [e] at h2
  exact ⟨r, h1, h2⟩
/-- The bound of a sixty-fourth. -/
theorem nr64 {n B : Int} (h1 : -B ≤ n) (h2 : n ≤ B) : Nr ((n : Rat) / 64) 0 ((B : Rat) / 64) := by
  have a1 := Rat.intCast_le_intCast.2 h1
  have a2 := Rat.intCast_le_intCast.2 h2
  rw [Rat.intCast_neg] at a1
  constructor <;> grind
theorem ap64 {x : Nat} {n : Int} (h : R x ((n : Rat) / 64)) (B : Int) (h1 : -B ≤ n) (h2 : n ≤ B) : Ap x ((n : Rat) / 64) ((B : Rat) / 64) 0 := Ap.of h (nr64 h1 h2)
theorem pos64 {n : Int} (h : 1 ≤ n) : (1 : Rat) / 64 ≤ (n : Rat) / 64 := by
  have h3 : ((1 : Int) : Rat) ≤ (n : Rat) := Rat.intCast_le_intCast.2 h
  have z : ((1 : Int) : Rat) = 1 := rfl
  rw [z] at h3
  grind

theorem lt64 {k m : Int} : (k : Rat) / 64 < (m : Rat) / 64 ↔ k < m := by
  constructor
  · intro h
    have : (k : Rat) < (m : Rat) := by grind
    exact Rat.intCast_lt_intCast.1 this
  · intro h
    have := Rat.intCast_lt_intCast.2 h
    grind
theorem le64 {k m : Int} : (k : Rat) / 64 ≤ (m : Rat) / 64 ↔ k ≤ m := by
  constructor
  · intro h
    have : (k : Rat) ≤ (m : Rat) := by grind
    exact Rat.intCast_le_intCast.1 this
  · intro h
    have := Rat.intCast_le_intCast.2 h
    grind
theorem eq64 {k m : Int} (h : (k : Rat) / 64 = (m : Rat) / 64) : k = m := by
  have : (k : Rat) = (m : Rat) := by grind
  exact Rat.intCast_inj.1 this
theorem eq64i {k m : Int} : (k : Rat) / 64 = (m : Rat) / 64 ↔ k = m := ⟨eq64, fun h => by rw [h]⟩
theorem zero64 : R 0 (((0 : Int) : Rat) / 64) := by
  have : ((0 : Int) : Rat) / 64 = 0 := by decide +kernel
  rw [this]; exact R_zero

/-! Comparisons of sixty-fourths. -/
section
variable {x y : Nat} {k m : Int}
theorem i_lss (hx : R x ((k : Rat) / 64)) (hy : R y ((m : Rat) / 64)) {b : Bool} (h : decide (k < m) = b) : (FloatKind.f64.format.order x y == some Ordering.lt) = b :=
  f_lss hx hy (by rw [← h]; exact decide_eq_decide.2 lt64)
theorem i_leq (hx : R x ((k : Rat) / 64)) (hy : R y ((m : Rat) / 64)) {b : Bool} (h : decide (k ≤ m) = b) : (FloatKind.f64.format.order x y == some Ordering.lt || FloatKind.f64.format.order x y == some Ordering.eq) = b :=
  f_leq hx hy (by rw [← h]; exact decide_eq_decide.2 le64)
theorem i_gtr (hx : R x ((k : Rat) / 64)) (hy : R y ((m : Rat) / 64)) {b : Bool} (h : decide (m < k) = b) : (FloatKind.f64.format.order x y == some Ordering.gt) = b :=
  f_gtr hx hy (by rw [← h]; exact decide_eq_decide.2 lt64)
theorem i_geq (hx : R x ((k : Rat) / 64)) (hy : R y ((m : Rat) / 64)) {b : Bool} (h : decide (m ≤ k) = b) : (FloatKind.f64.format.order x y == some Ordering.gt || FloatKind.f64.format.order x y == some Ordering.eq) = b :=
  f_geq hx hy (by rw [← h]; exact decide_eq_decide.2 le64)
theorem i_eql (hx : R x ((k : Rat) / 64)) (hy : R y ((m : Rat) / 64)) {b : Bool} (h : decide (k = m) = b) : (FloatKind.f64.format.order x y == some Ordering.eq) = b :=
  f_eql hx hy (by rw [← h]; exact decide_eq_decide.2 eq64i)
end
end Go.Proofs.Ytooghncdhjdcpaa.Fl
