/-
FnMultiplied: the words of the products and of the moved points exist, and are near. Conditions: affine matrices, a small point.
-/
import Derived.Test.YtooghncdhjdcpaaB20
namespace Go.Proofs.Ytooghncdhjdcpaa
open Go.RowKit Fl

theorem R_100 : R 4636737291354636288 100 := R_lit (s := false) (m := 7036874417766400) (e := -46) (by decide +kernel) (by decide +kernel)
theorem R_m100 : R 13860109328209412096 (-100) := R_lit (s := true) (m := 7036874417766400) (e := -46) (by decide +kernel) (by decide +kernel)
def milli : Rat := 4611686018427388 / 4611686018427387904
theorem R_milli : R 4562254508917369340 milli := R_lit (s := false) (m := 4611686018427388) (e := -62) (by decide +kernel) (by decide +kernel)
theorem nearW {x y : Nat} {p q v : Rat} (hx : R x p) (hy : R y q) (h1 : Nr p v (1 / 100000)) (h2 : Nr q v (1 / 100000)) : NearW x y := by
  have hm : milli = 4611686018427388 / 4611686018427387904 := rfl
  obtain ⟨a1, a2⟩ := h1
  obtain ⟨b1, b2⟩ := h2
  obtain ⟨d, u, e1, r1, n1, n2⟩ := R_sub (B := 1) hx hy (by constructor <;> grind) (by decide +kernel) (by decide +kernel)
  obtain ⟨d', u', e1', r1', n1', n2'⟩ := R_sub (B := 1) hy hx (by constructor <;> grind) (by decide +kernel) (by decide +kernel)
  exact ⟨⟨d, e1, f_lss r1 R_milli (by simp only [decide_eq_true_eq]; rw [hm]; grind)⟩, d', e1', f_lss r1' R_milli (by simp only [decide_eq_true_eq]; rw [hm]; grind)⟩

theorem eq_R {x c : Nat} {q : Rat} (hc : R c q) (h : eqB x c = true) : R x q := by
  have h : (Ieee.double.order x c == some Ordering.eq) = true := h
  rcases kinds x with ⟨p, hp⟩ | ⟨s, hi⟩ | ⟨s, f, hn⟩
  · have := cmp_eql hp hc
    rw [h] at this
    rw [← of_decide_eq_true this.symm]
    exact hp
  · have := (order_inf hi hc).1
    rw [this] at h
    cases s <;> simp at h
  · have := (order_nan hn c).1
    rw [this] at h
    simp at h
theorem row_ap {x y : Nat} (h : rowB x y = true) : (∃ v, Ap x v 100 0) ∧ ∃ v, Ap y v 100 0 := by
  unfold rowB at h
  simp only [List.all_cons, List.all_nil, Bool.and_true, Bool.and_eq_true, Bool.not_eq_true'] at h
  obtain ⟨⟨⟨⟨⟨h1, h2⟩, h3⟩, h4⟩, h5⟩, h6⟩ := h
  have key : ∀ {z : Nat}, smallB z = true → gt1 z = false → lt1 z = false → ∃ v, Ap z v 100 0 := by
    intro z a b c
    obtain ⟨n, r, _, _⟩ := smallB_true a
    have g := cmp_gtr r R_100
    have l := cmp_lss r R_m100
    rw [show (Ieee.double.order z 4636737291354636288 == some Ordering.gt) = false from b] at g
    rw [show (Ieee.double.order z 13860109328209412096 == some Ordering.lt) = false from c] at l
    have g' := of_decide_eq_false g.symm
    have l' := of_decide_eq_false l.symm
    exact ⟨_, Ap.of r ⟨by grind, by grind⟩⟩
  exact ⟨key h1 h3 h5, key h2 h4 h6⟩

def bA : Nat → Rat := nine 100 100 0 100 100 0 100 100 1
theorem aff_ap {X : Nat → Nat} (h : affB X = true) : ∃ a0 a1 a3 a4 a6 a7 : Rat, ApM X (nine a0 a1 0 a3 a4 0 a6 a7 1) bA noE := by
  unfold affB at h
  simp only [Bool.and_eq_true] at h
  obtain ⟨⟨⟨⟨⟨h1, h2⟩, h3⟩, h4⟩, h5⟩, h6⟩ := h
  obtain ⟨⟨a0, r0⟩, a1, r1⟩ := row_ap h1
  obtain ⟨⟨a3, r3⟩, a4, r4⟩ := row_ap h2
  obtain ⟨⟨a6, r6⟩, a7, r7⟩ := row_ap h3
  refine ⟨a0, a1, a3, a4, a6, a7, fun o ho => ?_⟩
  rcases nine_lt o ho with rfl | rfl | rfl | rfl | rfl | rfl | rfl | rfl | rfl
  · exact r0
  · exact r1
  · exact Ap.of (eq_R R_zero h4) (Nr.refl Rat.le_refl)
  · exact r3
  · exact r4
  · exact Ap.of (eq_R R_zero h5) (Nr.refl Rat.le_refl)
  · exact r6
  · exact r7
  · exact Ap.of (eq_R R_one h6) (show Nr 1 0 1 from ⟨by decide +kernel, by decide +kernel⟩)
theorem okAA : okB bA bA noE noE = true := by decide +kernel
theorem fineAA : ∀ o, o < 9 → pV bA bA o + pE bA bA noE noE o ≤ 1000000000000 := by decide +kernel

/-- A point moved by a matrix: one of its sides. -/
theorem side {X : Nat → Nat} {v0 v3 v6 x y M E N F : Rat} {j px py : Nat} (h0 : Ap (X j) v0 M E) (h3 : Ap (X (3 + j)) v3 M E) (h6 : Ap (X (6 + j)) v6 M E) (hx : Ap px x N F) (hy : Ap py y N F) (M1 E1 M2 E2 M3 E3 : Rat)
    (c1 : N * M ≤ M1 ∧ F * (M + E) + N * E + ((N + F) * (M + E) + 1) / 4503599627370496 ≤ E1 ∧ (N + F) * (M + E) ≤ 1000000000000000000000000)
    (c2 : M1 + M1 ≤ M2 ∧ E1 + E1 + (M1 + M1 + E1 + E1 + 1) / 4503599627370496 ≤ E2 ∧ M1 + M1 + E1 + E1 ≤ 1000000000000000000000000)
    (c3 : M2 + M ≤ M3 ∧ E2 + E + (M2 + M + E2 + E + 1) / 4503599627370496 ≤ E3 ∧ M2 + M + E2 + E ≤ 1000000000000000000000000) :
    ∃ r a b c, Tr1 X j px py r a b c ∧ Ap r (x * v0 + y * v3 + v6) M3 E3 := by
  obtain ⟨a, e1, f1⟩ := hx.mul h0 M1 E1 c1
  obtain ⟨b, e2, f2⟩ := hy.mul h3 M1 E1 c1
  obtain ⟨c, e3, f3⟩ := f1.add f2 M2 E2 c2
  obtain ⟨r, e4, f4⟩ := f3.add h6 M3 E3 c3
  exact ⟨r, a, b, c, ⟨e1, e2, e3, e4⟩, f4⟩

theorem mul_walk (A B : Nat → Nat) (px py : Nat) (w : World) :
    Calls Try.prog 8 #[matV A, matV B, pt px py] w fun e w' => e = .returned (.bool true) ∧ Below w.heap.size w w' := by
  by_cases h1 : affB A = true
  · by_cases h2 : affB B = true
    · by_cases h3 : [px, py].all smallB = true
      · have k := h3
        simp only [List.all_cons, List.all_nil, Bool.and_true, Bool.and_eq_true] at k
        obtain ⟨a0, a1, a3, a4, a6, a7, hA⟩ := aff_ap h1
        obtain ⟨b0, b1, b3, b4, b6, b7, hB⟩ := aff_ap h2
        obtain ⟨n1, r1, i1, i2⟩ := smallB_true k.1
        obtain ⟨n2, r2, i3, i4⟩ := smallB_true k.2
        have X := Ap.small r1 i1 i2
        have Y := Ap.small r2 i3 i4
        generalize (n1 : Rat) / 64 = x at *
        generalize (n2 : Rat) / 64 = y at *
        have P := prod_of hA hB okAA
        have bP : ∀ o, o < 9 → pV bA bA o ≤ 20100 ∧ pE bA bA noE noE o ≤ 1 / 10000000000 := by decide +kernel
        have Q : ∀ o, o < 9 → Ap (prodM (sW A B) o) (pV (nine a0 a1 0 a3 a4 0 a6 a7 1) (nine b0 b1 0 b3 b4 0 b6 b7 1) o) 20100 (1 / 10000000000) := fun o ho => (P o ho).mono (bP o ho).1 (bP o ho).2
        have bB : ∀ o, o < 9 → bA o ≤ 100 := by decide +kernel
        have A' : ∀ o, o < 9 → Ap (A o) (nine a0 a1 0 a3 a4 0 a6 a7 1 o) 100 0 := fun o ho => (hA o ho).mono (bB o ho) Rat.le_refl
        have B' : ∀ o, o < 9 → Ap (B o) (nine b0 b1 0 b3 b4 0 b6 b7 1 o) 100 0 := fun o ho => (hB o ho).mono (bB o ho) Rat.le_refl
        obtain ⟨cx, c1, c2, c3, C1, cX⟩ := side (j := 0) (Q 0 (by omega)) (Q 3 (by omega)) (Q 6 (by omega)) X Y 201000000 (2 / 1000000) 402000000 (5 / 1000000) 403000000 (8 / 1000000) (by decide +kernel) (by decide +kernel) (by decide +kernel)
        obtain ⟨cy, c4, c5, c6, C2, cY⟩ := side (j := 1) (Q 1 (by omega)) (Q 4 (by omega)) (Q 7 (by omega)) X Y 201000000 (2 / 1000000) 402000000 (5 / 1000000) 403000000 (8 / 1000000) (by decide +kernel) (by decide +kernel) (by decide +kernel)
        obtain ⟨ax, d1, d2, d3, D1, dX⟩ := side (j := 0) (A' 0 (by omega)) (A' 3 (by omega)) (A' 6 (by omega)) X Y 1000000 (1 / 1000000000) 2000000 (3 / 1000000000) 2000100 (5 / 1000000000) (by decide +kernel) (by decide +kernel) (by decide +kernel)
        obtain ⟨ay, d4, d5, d6, D2, dY⟩ := side (j := 1) (A' 1 (by omega)) (A' 4 (by omega)) (A' 7 (by omega)) X Y 1000000 (1 / 1000000000) 2000000 (3 / 1000000000) 2000100 (5 / 1000000000) (by decide +kernel) (by decide +kernel) (by decide +kernel)
        obtain ⟨bx, e1, e2, e3, E1, eX⟩ := side (j := 0) (B' 0 (by omega)) (B' 3 (by omega)) (B' 6 (by omega)) dX dY 200010000 (1 / 1000000) 400020000 (3 / 1000000) 400020100 (5 / 1000000) (by decide +kernel) (by decide +kernel) (by decide +kernel)
        obtain ⟨byy, e4, e5, e6, E2, eY⟩ := side (j := 1) (B' 1 (by omega)) (B' 4 (by omega)) (B' 7 (by omega)) dX dY 200010000 (1 / 1000000) 400020000 (3 / 1000000) 400020100 (5 / 1000000) (by decide +kernel) (by decide +kernel) (by decide +kernel)
        have N1 := NearT.same dX (by decide +kernel)
        have N2 := NearT.same dY (by decide +kernel)
        obtain ⟨q1, s1, t1, _⟩ := cX
        obtain ⟨q2, s2, t2, _⟩ := cY
        obtain ⟨q3, s3, t3, _⟩ := eX
        obtain ⟨q4, s4, t4, _⟩ := eY
        have W1 : NearW cx bx := nearW s1 s3 (t1.mono (by decide +kernel)) (by
          rw [← show (x * nine a0 a1 0 a3 a4 0 a6 a7 1 0 + y * nine a0 a1 0 a3 a4 0 a6 a7 1 3 + nine a0 a1 0 a3 a4 0 a6 a7 1 6) * nine b0 b1 0 b3 b4 0 b6 b7 1 0 + (x * nine a0 a1 0 a3 a4 0 a6 a7 1 1 + y * nine a0 a1 0 a3 a4 0 a6 a7 1 4 + nine a0 a1 0 a3 a4 0 a6 a7 1 7) * nine b0 b1 0 b3 b4 0 b6 b7 1 3 + nine b0 b1 0 b3 b4 0 b6 b7 1 6 = x * pV (nine a0 a1 0 a3 a4 0 a6 a7 1) (nine b0 b1 0 b3 b4 0 b6 b7 1) 0 + y * pV (nine a0 a1 0 a3 a4 0 a6 a7 1) (nine b0 b1 0 b3 b4 0 b6 b7 1) 3 + pV (nine a0 a1 0 a3 a4 0 a6 a7 1) (nine b0 b1 0 b3 b4 0 b6 b7 1) 6 from by simp [pV, dV, nine]; grind]
          exact t3.mono (by decide +kernel))
        have W2 : NearW cy byy := nearW s2 s4 (t2.mono (by decide +kernel)) (by
          rw [← show (x * nine a0 a1 0 a3 a4 0 a6 a7 1 0 + y * nine a0 a1 0 a3 a4 0 a6 a7 1 3 + nine a0 a1 0 a3 a4 0 a6 a7 1 6) * nine b0 b1 0 b3 b4 0 b6 b7 1 1 + (x * nine a0 a1 0 a3 a4 0 a6 a7 1 1 + y * nine a0 a1 0 a3 a4 0 a6 a7 1 4 + nine a0 a1 0 a3 a4 0 a6 a7 1 7) * nine b0 b1 0 b3 b4 0 b6 b7 1 4 + nine b0 b1 0 b3 b4 0 b6 b7 1 7 = x * pV (nine a0 a1 0 a3 a4 0 a6 a7 1) (nine b0 b1 0 b3 b4 0 b6 b7 1) 1 + y * pV (nine a0 a1 0 a3 a4 0 a6 a7 1) (nine b0 b1 0 b3 b4 0 b6 b7 1) 4 + pV (nine a0 a1 0 a3 a4 0 a6 a7 1) (nine b0 b1 0 b3 b4 0 b6 b7 1) 7 from by simp [pV, dV, nine]; grind]
          exact t4.mono (by decide +kernel))
        exact mul_near A B px py (mW A B) (sW A B) (mul3_of hA hB okAA) cx cy ax ay bx byy d1 d2 d3 d4 d5 d6 e1 e2 e3 e4 e5 e6 c1 c2 c3 c4 c5 c6 D1 D2 E1 E2 C1 C2 (fun o ho => NearT.same (P o ho) (fineAA o ho)) N1 N2 W1 W2 w h1 h2 h3
      · exact mul_far A B px py w (.inr (.inr (by simpa using h3)))
    · exact mul_far A B px py w (.inr (.inl (by simpa using h2)))
  · exact mul_far A B px py w (.inl (by simpa using h1))
end Go.Proofs.Ytooghncdhjdcpaa
