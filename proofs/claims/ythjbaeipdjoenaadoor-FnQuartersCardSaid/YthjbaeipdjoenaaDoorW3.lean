/-
Quarters: the turned point is where the quarter turns lead it but for a thousandth. Conditions: small numbers.
-/
import Derived.Test.YthjbaeipdjoenaaDoorW2
import Derived.Test.YthjbaeipdjoenaaDoorQ1
namespace Go.Proofs.YthjbaeipdjoenaaDoor
open Go.RowKit Fl

def milli : Rat := 4611686018427388 / 4611686018427387904
theorem R_milli : R 4562254508917369340 milli := R_lit (s := false) (m := 4611686018427388) (e := -62) (by decide +kernel) (by decide +kernel)
theorem nearW {x y : Nat} {p q v : Rat} (hx : R x p) (hy : R y q) (h1 : Nr p v (1 / 1000000)) (h2 : Nr q v (1 / 1000000)) : NearW x y := by
  have hm : milli = 4611686018427388 / 4611686018427387904 := rfl
  obtain ⟨a1, a2⟩ := h1
  obtain ⟨b1, b2⟩ := h2
  obtain ⟨d, u, e1, r1, n1, n2⟩ := R_sub (B := 1) hx hy (by constructor <;> grind) (by decide +kernel) (by decide +kernel)
  obtain ⟨d', u', e1', r1', n1', n2'⟩ := R_sub (B := 1) hy hx (by constructor <;> grind) (by decide +kernel) (by decide +kernel)
  exact ⟨⟨d, e1, f_lss r1 R_milli (by simp only [decide_eq_true_eq]; rw [hm]; grind)⟩, d', e1', f_lss r1' R_milli (by simp only [decide_eq_true_eq]; rw [hm]; grind)⟩

def sinQ (k : Nat) : Rat := [0, 1, 0, -1].getD k 0
def cosQ (k : Nat) : Rat := [1, 0, -1, 0].getD k 0
def rotV (x y : Rat) : Nat → Rat × Rat
  | 0 => (x, y)
  | k + 1 => (-(rotV x y k).2, (rotV x y k).1)
theorem rotV_eq (x y : Rat) (k : Nat) (hk : k < 4) : (rotV x y k).1 = x * cosQ k - y * sinQ k ∧ (rotV x y k).2 = x * sinQ k + y * cosQ k := by
  rcases (show k = 0 ∨ k = 1 ∨ k = 2 ∨ k = 3 by omega) with rfl | rfl | rfl | rfl
  all_goals
    simp [rotV, sinQ, cosQ]
    try grind
theorem rotW_ap {px py : Nat} {x y : Rat} (hx : Ap px x 10000 0) (hy : Ap py y 10000 0) (k : Nat) : Ap (rotW px py k).1 (rotV x y k).1 10000 0 ∧ Ap (rotW px py k).2 (rotV x y k).2 10000 0 := by
  induction k with
  | zero => exact ⟨hx, hy⟩
  | succ k ih => exact ⟨ih.2.neg, ih.1⟩
def qOk (k : Nat) : Bool := match rad (90 * k) with
  | none => false
  | some x => match sinW x, cosW x with
    | some s, some c => match ratOf s, ratOf c with
      | some a, some b => decide (ab (a - sinQ k) ≤ 1 / 1000000000000000) && decide (ab (b - cosQ k) ≤ 1 / 1000000000000000)
      | _, _ => false
    | _, _ => false
theorem qOks : (List.range 4).all qOk = true := by decide +kernel
theorem qOk_at {k : Nat} (hk : k < 4) {x s c : Nat} {q a b : Rat} (h : Turn (90 * k) x s c q a b) : Nr a (sinQ k) (1 / 1000000000000000) ∧ Nr b (cosQ k) (1 / 1000000000000000) := by
  have h0 := List.all_eq_true.1 qOks k (List.mem_range.2 hk)
  unfold qOk at h0
  rw [h.rad] at h0
  simp only [h.sin, h.cos] at h0
  split at h0
  · rename_i a' b' ha hb
    rw [h.sinR.unique (ratOf_R ha), h.cosR.unique (ratOf_R hb)]
    simp only [Bool.and_eq_true, decide_eq_true_iff] at h0
    have k1 := nr_ab (a' - sinQ k)
    have k2 := nr_ab (b' - cosQ k)
    obtain ⟨l1, l2⟩ := k1
    obtain ⟨l3, l4⟩ := k2
    exact ⟨⟨by grind, by grind⟩, by grind, by grind⟩
  · cases h0

/-- What the walk of FnQuarters asks. -/
theorem quarters_words {k : Nat} (hk : k < 4) {x s c dx dy px py : Nat} {q a b : Rat} (h : Turn (90 * k) x s c q a b) (hdx : SmallW dx) (hdy : SmallW dy) (hpx : SmallW px) (hpy : SmallW py) :
    ∃ m s1 m2 s2, Mul3 (scaleM one1 one1) (turnM s (Op.negFloat .f64 s) c) m s1 ∧ Mul3 (prodM s1) (moveM dx dy) m2 s2 ∧
    ∃ ax ay a1 a2 a3 a4 a5 a6 ex ey, Tr1 (prodM s2) 0 px py ax a1 a2 a3 ∧ Tr1 (prodM s2) 1 px py ay a4 a5 a6 ∧ fa (rotW px py k).1 dx = some ex ∧ fa (rotW px py k).2 dy = some ey ∧ NearW ax ex ∧ NearW ay ey := by
  obtain ⟨kx, rx, kx1, kx2⟩ := hdx
  obtain ⟨ky, ry, ky1, ky2⟩ := hdy
  obtain ⟨i1, t1, i11, i12⟩ := hpx
  obtain ⟨i2, t2, i21, i22⟩ := hpy
  obtain ⟨m, s1, m2, s2, M1, M2, hR⟩ := rot_words (Ap.of h.sinR ((nr_of_ab h.sinB).mono (by decide +kernel))) (Ap.of h.cosR ((nr_of_ab h.cosB).mono (by decide +kernel))) (Ap.small rx kx1 kx2) (Ap.small ry ky1 ky2)
  obtain ⟨ax, ay, a1, a2, a3, a4, a5, a6, w1, w2, ⟨v1, u1, g1, _⟩, v2, u2, g2, _⟩ := moved_words hR (Ap.small t1 i11 i12) (Ap.small t2 i21 i22)
  obtain ⟨r1, r2⟩ := rotW_ap (Ap.small t1 i11 i12) (Ap.small t2 i21 i22) k
  obtain ⟨ex, e1, ⟨z1, y1, x1, _⟩⟩ := r1.add (Ap.small rx kx1 kx2) 20000 (1 / 1000000000) (by decide +kernel)
  obtain ⟨ey, e2, ⟨z2, y2, x2, _⟩⟩ := r2.add (Ap.small ry ky1 ky2) 20000 (1 / 1000000000) (by decide +kernel)
  obtain ⟨q1, q2⟩ := rotV_eq ((i1 : Rat) / 64) ((i2 : Rat) / 64) k hk
  rw [q1] at x1
  rw [q2] at x2
  obtain ⟨A, B⟩ := qOk_at hk h
  have P1 := small_nr i11 i12
  have P2 := small_nr i21 i22
  have c1 := A.mul_err P1
  have c2 := A.mul_err P2
  have c3 := B.mul_err P1
  have c4 := B.mul_err P2
  generalize (i1 : Rat) / 64 = p1 at *
  generalize (i2 : Rat) / 64 = p2 at *
  generalize (kx : Rat) / 64 = x0 at *
  generalize (ky : Rat) / 64 = y0 at *
  generalize sinQ k = sq at *
  generalize cosQ k = cq at *
  obtain ⟨c11, c12⟩ := c1
  obtain ⟨c21, c22⟩ := c2
  obtain ⟨c31, c32⟩ := c3
  obtain ⟨c41, c42⟩ := c4
  obtain ⟨g11, g12⟩ := g1
  obtain ⟨g21, g22⟩ := g2
  obtain ⟨x11, x12⟩ := x1
  obtain ⟨x21, x22⟩ := x2
  exact ⟨m, s1, m2, s2, M1, M2, ax, ay, a1, a2, a3, a4, a5, a6, ex, ey, w1, w2, e1, e2, nearW (v := p1 * cq - p2 * sq + x0) u1 y1 (by constructor <;> grind) (by constructor <;> grind), nearW (v := p1 * sq + p2 * cq + y0) u2 y2 (by constructor <;> grind) (by constructor <;> grind)⟩
end Go.Proofs.YthjbaeipdjoenaaDoor
