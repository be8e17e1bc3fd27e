/-
How far two points are from one another before and behind a turn: the words, and that the law's last comparisons say yes. Conditions: the points' words within 1e-9.
-/
import Derived.Test.YthjbaeipdjoenaaDoorW1
import Derived.Test.YthjbaeipdjoenaaDoorT2
namespace Go.Proofs.YthjbaeipdjoenaaDoor
open Go.RowKit Fl

theorem sq_nonneg (x : Rat) : 0 ≤ x * x := by
  rcases Rat.le_total (a := 0) (b := x) with h | h
  · exact Rat.mul_nonneg h h
  · have := Rat.mul_nonneg (show 0 ≤ -x by grind) (show 0 ≤ -x by grind)
    grind
theorem sq_bound {x B : Rat} (h : Nr x 0 B) : x * x ≤ B * B := by
  obtain ⟨h1, h2⟩ := h
  have k1 := Rat.mul_nonneg (show 0 ≤ B - x by grind) (show 0 ≤ B + x by grind)
  grind

/-- The sum of two squares, as the law reckons it. -/
theorem far_words {px py qx qy : Nat} {p1 p2 q1 q2 : Rat} (h1 : R px p1) (h2 : R py p2) (h3 : R qx q1) (h4 : R qy q2) (b1 : Nr (p1 - q1) 0 1000000) (b2 : Nr (p2 - q2) 0 1000000) :
    ∃ far a b c d e v, FarW px py qx qy far a b c ∧ R far v ∧ Nr d (p1 - q1) (1000001 / 4503599627370496) ∧ Nr e (p2 - q2) (1000001 / 4503599627370496) ∧ Nr v (d * d + e * e) (6 * (d * d + e * e + 1) / 4503599627370496) := by
  obtain ⟨a, d, e1, r1, n1⟩ := R_sub (B := 1000001) h1 h3 (b1.mono (by grind)) (by grind) (by grind)
  obtain ⟨a', e, e2, r2, n2⟩ := R_sub (B := 1000001) h2 h4 (b2.mono (by grind)) (by grind) (by grind)
  have d1 := n1.sub0 b1
  have d2 := n2.sub0 b2
  have s1 := sq_bound (d1.mono (show _ ≤ (2000000 : Rat) by grind))
  have s2 := sq_bound (d2.mono (show _ ≤ (2000000 : Rat) by grind))
  have z1 := sq_nonneg d
  have z2 := sq_nonneg e
  obtain ⟨b, v1, e3, r3, n3⟩ := R_mul (B := d * d + 1) r1 r1 (by constructor <;> grind) (by grind) (by grind)
  obtain ⟨c, v2, e4, r4, n4⟩ := R_mul (B := e * e + 1) r2 r2 (by constructor <;> grind) (by grind) (by grind)
  obtain ⟨n31, n32⟩ := n3
  obtain ⟨n41, n42⟩ := n4
  obtain ⟨far, v, e5, r5, n51, n52⟩ := R_add (B := 2 * (d * d + e * e + 1)) r3 r4 (by constructor <;> grind) (by grind) (by grind)
  exact ⟨far, a, b, c, d, e, v, ⟨e1, e3, ⟨a', e2, e4⟩, e5⟩, r5, n1, n2, by constructor <;> grind⟩

/-- Two squares whose roots differ by little. -/
theorem sq_near {d u η : Rat} (h : Nr d u η) (h0 : η ≤ 1 / 100000000) : Nr (d * d) (u * u) (1 / 100000000 * (u * u + 2)) := by
  have hn := h.nonneg
  have k1 : Nr (d - u) 0 η := by obtain ⟨h1, h2⟩ := h; constructor <;> grind
  have hu := sq_nonneg (u - 1)
  have hu' := sq_nonneg (u + 1)
  have b : Nr (d + u) 0 (u * u + 2) := by
    obtain ⟨h1, h2⟩ := h
    constructor <;> grind
  have m := k1.mul b
  have z := sq_nonneg u
  have mm := Rat.mul_nonneg (show 0 ≤ 1 / 100000000 - η by grind) (show 0 ≤ u * u + 2 by grind)
  obtain ⟨m1, m2⟩ := m
  constructor <;> grind

def micro : Rat := 4722366482869645 / 4722366482869645213696
theorem R_micro : R 4517329193108106637 micro := R_lit (s := false) (m := 4722366482869645) (e := -72) (by decide +kernel) (by decide +kernel)

/-- The last comparison. -/
theorem end_one {far now : Nat} {v f F : Rat} (hF : 0 ≤ F) (hB : F ≤ 10000000000) (h1 : R far v) (h2 : R now f) (n1 : Nr v F ((F + 1) / 10000000)) (n2 : Nr f F ((F + 1) / 10000000)) :
    (∃ d e g, fs far now = some d ∧ fa 4607182418800017408 far = some e ∧ fm 4517329193108106637 e = some g ∧ (FloatKind.f64.format.order d g == some Ordering.lt || FloatKind.f64.format.order d g == some Ordering.eq) = true) ∧
    (∃ d e g, fs now far = some d ∧ fa 4607182418800017408 far = some e ∧ fm 4517329193108106637 e = some g ∧ (FloatKind.f64.format.order d g == some Ordering.lt || FloatKind.f64.format.order d g == some Ordering.eq) = true) := by
  obtain ⟨n11, n12⟩ := n1
  obtain ⟨n21, n22⟩ := n2
  have hm : micro = 4722366482869645 / 4722366482869645213696 := rfl
  obtain ⟨d, x, e1, r1, x1, x2⟩ := R_sub (B := F + 1) h1 h2 (by constructor <;> grind) (by grind) (by grind)
  obtain ⟨d', x', e1', r1', x1', x2'⟩ := R_sub (B := F + 1) h2 h1 (by constructor <;> grind) (by grind) (by grind)
  obtain ⟨e, y, e2, r2, y1, y2⟩ := R_add (B := 2 * (F + 1)) R_one h1 (by constructor <;> grind) (by grind) (by grind)
  obtain ⟨g, z, e3, r3, z1, z2⟩ := R_mul (B := F + 1) R_micro r2 (by rw [hm]; constructor <;> grind) (by grind) (by grind)
  rw [hm] at z1 z2
  exact ⟨⟨d, e, g, e1, e2, e3, f_leq r1 r3 (by simp only [decide_eq_true_eq]; grind)⟩, d', e, g, e1', e2, e3, f_leq r1' r3 (by simp only [decide_eq_true_eq]; grind)⟩

theorem nr_of_ab {q e : Rat} (h : ab q ≤ e) : Nr q 0 e := (nr_ab q).mono h
theorem fine_sub {x y : Rat} (h1 : Nr x 0 10000) (h2 : Nr y 0 10000) : Nr (x - y) 0 20000 := (h1.dif0 h2).mono (by decide +kernel)

/-- What the walk of FnTurned asks. -/
theorem turned_words {s c dx dy px py qx qy : Nat} {a b : Rat} (hs : R s a) (hc : R c b) (ha : ab a ≤ 1001 / 1000) (hb : ab b ≤ 1001 / 1000) (h1 : ab (a * a + b * b - 1) ≤ 1 / 1000000000000000)
    (hdx : SmallW dx) (hdy : SmallW dy) (hpx : SmallW px) (hpy : SmallW py) (hqx : SmallW qx) (hqy : SmallW qy) :
    ∃ m s1 m2 s2, Mul3 (scaleM one1 one1) (turnM s (Op.negFloat .f64 s) c) m s1 ∧ Mul3 (prodM s1) (moveM dx dy) m2 s2 ∧
    ∃ ax ay bx byy a1 a2 a3 a4 a5 a6 b1 b2 b3 b4 b5 b6 far now f1 f2 f3 n1 n2 n3, Tr1 (prodM s2) 0 px py ax a1 a2 a3 ∧ Tr1 (prodM s2) 1 px py ay a4 a5 a6 ∧ Tr1 (prodM s2) 0 qx qy bx b1 b2 b3 ∧ Tr1 (prodM s2) 1 qx qy byy b4 b5 b6 ∧
      FarW px py qx qy far f1 f2 f3 ∧ FarW ax ay bx byy now n1 n2 n3 ∧ EndW far now := by
  obtain ⟨kx, rx, kx1, kx2⟩ := hdx
  obtain ⟨ky, ry, ky1, ky2⟩ := hdy
  obtain ⟨i1, t1, i11, i12⟩ := hpx
  obtain ⟨i2, t2, i21, i22⟩ := hpy
  obtain ⟨i3, t3, i31, i32⟩ := hqx
  obtain ⟨i4, t4, i41, i42⟩ := hqy
  have Aa := nr_of_ab ha
  have Ab := nr_of_ab hb
  obtain ⟨m, s1, m2, s2, M1, M2, hR⟩ := rot_words (Ap.of hs (Aa.mono (by decide +kernel))) (Ap.of hc (Ab.mono (by decide +kernel))) (Ap.small rx kx1 kx2) (Ap.small ry ky1 ky2)
  obtain ⟨ax, ay, a1, a2, a3, a4, a5, a6, w1, w2, ⟨v1, u1, g1, g1'⟩, v2, u2, g2, g2'⟩ := moved_words hR (Ap.small t1 i11 i12) (Ap.small t2 i21 i22)
  obtain ⟨bx, byy, b1, b2, b3, b4, b5, b6, w3, w4, ⟨v3, u3, g3, g3'⟩, v4, u4, g4, g4'⟩ := moved_words hR (Ap.small t3 i31 i32) (Ap.small t4 i41 i42)
  have P1 := small_nr i11 i12
  have P2 := small_nr i21 i22
  have P3 := small_nr i31 i32
  have P4 := small_nr i41 i42
  generalize (i1 : Rat) / 64 = p1 at *
  generalize (i2 : Rat) / 64 = p2 at *
  generalize (i3 : Rat) / 64 = q1 at *
  generalize (i4 : Rat) / 64 = q2 at *
  generalize (kx : Rat) / 64 = x0 at *
  generalize (ky : Rat) / 64 = y0 at *
  have D1 := fine_sub P1 P3
  have D2 := fine_sub P2 P4
  obtain ⟨far, f1, f2, f3, d, e, f, F1, F2, F3, F4, F5⟩ := far_words t1 t2 t3 t4 (D1.mono (by decide +kernel)) (D2.mono (by decide +kernel))
  have G1 := ((g1.sub0 g1').dif0 (g3.sub0 g3')).mono (show _ ≤ (1000000 : Rat) by decide +kernel)
  have G2 := ((g2.sub0 g2').dif0 (g4.sub0 g4')).mono (show _ ≤ (1000000 : Rat) by decide +kernel)
  obtain ⟨now, n1, n2, n3, d', e', f', N1, N2, N3, N4, N5⟩ := far_words u1 u2 u3 u4 G1 G2
  -- the exact differences
  have U : Nr d' ((p1 - q1) * b - (p2 - q2) * a) (1 / 100000000) := by
    obtain ⟨h1, h2⟩ := (N3.trans (g1.sub g3)).mono (show _ ≤ (1 / 100000000 : Rat) by decide +kernel)
    constructor <;> grind
  have V : Nr e' ((p1 - q1) * a + (p2 - q2) * b) (1 / 100000000) := by
    obtain ⟨h1, h2⟩ := (N4.trans (g2.sub g4)).mono (show _ ≤ (1 / 100000000 : Rat) by decide +kernel)
    constructor <;> grind
  have S1 := sq_near U Rat.le_refl
  have S2 := sq_near V Rat.le_refl
  have S3 := sq_near (F3.mono (show _ ≤ (1 / 100000000 : Rat) by decide +kernel)) Rat.le_refl
  have S4 := sq_near (F4.mono (show _ ≤ (1 / 100000000 : Rat) by decide +kernel)) Rat.le_refl
  have Z1 := sq_nonneg (p1 - q1)
  have Z2 := sq_nonneg (p2 - q2)
  have Y1 := sq_bound D1
  have Y2 := sq_bound D2
  have T : ((p1 - q1) * b - (p2 - q2) * a) * ((p1 - q1) * b - (p2 - q2) * a) + ((p1 - q1) * a + (p2 - q2) * b) * ((p1 - q1) * a + (p2 - q2) * b) = ((p1 - q1) * (p1 - q1) + (p2 - q2) * (p2 - q2)) + ((p1 - q1) * (p1 - q1) + (p2 - q2) * (p2 - q2)) * (a * a + b * b - 1) := by grind
  have K := (nr_of_ab h1).mul (show Nr ((p1 - q1) * (p1 - q1) + (p2 - q2) * (p2 - q2)) 0 ((p1 - q1) * (p1 - q1) + (p2 - q2) * (p2 - q2)) by constructor <;> grind)
  rw [Rat.mul_comm] at K
  generalize ((p1 - q1) * b - (p2 - q2) * a) * ((p1 - q1) * b - (p2 - q2) * a) = uu at *
  generalize ((p1 - q1) * a + (p2 - q2) * b) * ((p1 - q1) * a + (p2 - q2) * b) = vv at *
  generalize ((p1 - q1) * (p1 - q1) + (p2 - q2) * (p2 - q2)) * (a * a + b * b - 1) = tt at *
  generalize (p1 - q1) * (p1 - q1) = dd at *
  generalize (p2 - q2) * (p2 - q2) = ee at *
  generalize d * d = d2 at *
  generalize e * e = e2 at *
  generalize d' * d' = d2' at *
  generalize e' * e' = e2' at *
  clear U V F3 F4 N3 N4 D1 D2 G1 G2 P1 P2 P3 P4 g1 g1' g2 g2' g3 g3' g4 g4' Aa Ab h1 ha hb hR
  obtain ⟨S11, S12⟩ := S1
  obtain ⟨S21, S22⟩ := S2
  obtain ⟨S31, S32⟩ := S3
  obtain ⟨S41, S42⟩ := S4
  obtain ⟨F51, F52⟩ := F5
  obtain ⟨N51, N52⟩ := N5
  obtain ⟨K1, K2⟩ := K
  have E := end_one (F := dd + ee) (by grind) (by grind) F2 N2 (by constructor <;> grind) (by constructor <;> grind)
  exact ⟨m, s1, m2, s2, M1, M2, ax, ay, bx, byy, a1, a2, a3, a4, a5, a6, b1, b2, b3, b4, b5, b6, far, now, f1, f2, f3, n1, n2, n3, w1, w2, w3, w4, F1, N1, ⟨E.1, E.2⟩⟩
end Go.Proofs.YthjbaeipdjoenaaDoor
