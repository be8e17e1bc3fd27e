/-
FnCutsOfPoster: the law's walks of all cases joined. No condition.
-/
import Derived.Test.YtooghncdhjdcpaaB45
import Derived.Test.YtooghncdhjdcpaaB47
namespace Go.Proofs.Ytooghncdhjdcpaa
open Go.RowKit Fl

theorem R_50 : R 4632233691727265792 50 := R_lit (s := false) (m := 7036874417766400) (e := -47) (by decide +kernel) (by decide +kernel)
/-- How often a part stands along a side: at most fifty times exactly if the word says so. -/
theorem times_word {P W : Nat} {a b : Int} (hP : R P ((a : Rat) / 64)) (hW : R W ((b : Rat) / 64)) (h1 : 1 ≤ a) (h2 : a ≤ 640000) (hb1 : 64 ≤ b) (hb2 : b ≤ 640000) :
    ∃ q, floatBits .quo .f64 W P = some q ∧ (gtp q 4632233691727265792 = false → b ≤ 50 * a ∧ (FloatKind.f64.format.order q 4636737291354636288 == some Ordering.lt) = true) := by
  have c4 := Rat.intCast_le_intCast.2 h1
  have z2 : ((1 : Int) : Rat) = 1 := rfl
  rw [z2] at c4
  have hc : (1 : Rat) / 64 ≤ (a : Rat) / 64 := by grind
  obtain ⟨q, e, v, r, ⟨n1, n2⟩, _⟩ := (Ap.small hW (by omega) hb2).div (Ap.small hP (by omega) h2) (1 / 64) hc 640000 (1 / 100000000) (by decide +kernel)
  refine ⟨q, e, fun hg => ?_⟩
  have g := f_gtr r R_50 rfl
  unfold gtp at hg
  rw [hg] at g
  have g' := of_decide_eq_false g.symm
  refine ⟨?_, f_lss r R_hundred (decide_eq_true ?_)⟩
  · refine Int.not_lt.1 fun c => ?_
    have c5 : ((50 * a + 1 : Int) : Rat) ≤ (b : Rat) := Rat.intCast_le_intCast.2 (by omega)
    have z5 : ((50 * a + 1 : Int) : Rat) = 50 * (a : Rat) + 1 := by rw [Rat.intCast_add, Rat.intCast_mul]; rfl
    rw [z5] at c5
    have c6 : (a : Rat) ≤ ((640000 : Int) : Rat) := Rat.intCast_le_intCast.2 h2
    have z6 : ((640000 : Int) : Rat) = 640000 := rfl
    rw [z6] at c6
    obtain ⟨u, hu⟩ : ∃ u, u = (b : Rat) / 64 / ((a : Rat) / 64) := ⟨_, rfl⟩
    rw [← hu] at n1 n2
    have hm : u * ((a : Rat) / 64) = (b : Rat) / 64 := by rw [hu, Rat.div_def ((b : Rat) / 64), Rat.mul_assoc, Rat.inv_mul_cancel _ (by grind), Rat.mul_one]
    have k : u ≤ 50 + 1 / 100000000 := by grind
    have := Rat.mul_le_mul_of_nonneg_right k (show 0 ≤ (a : Rat) / 64 by grind)
    grind
  · grind
theorem poster_walk (x y P Q : Nat) (w : World) : Calls Try.prog 19 #[.float .f64 x, .float .f64 y, pt P Q] w fun e w' => e = .returned (.bool true) ∧ Below w.heap.size w w' := by
  cases hs : [x, y, P, Q].all smallB
  · exact poster_far x y P Q w (.inl hs)
  rcases Bool.eq_false_or_eq_true (ltp x 4607182418800017408) with f0 | f0
  · exact poster_far x y P Q w (.inr (.inl f0))
  rcases Bool.eq_false_or_eq_true (ltp y 4607182418800017408) with f1 | f1
  · exact poster_far x y P Q w (.inr (.inr (.inl f1)))
  rcases Bool.eq_false_or_eq_true (leqp P 0) with f2 | f2
  · exact poster_far x y P Q w (.inr (.inr (.inr (.inl f2))))
  rcases Bool.eq_false_or_eq_true (leqp Q 0) with f3 | f3
  · exact poster_far x y P Q w (.inr (.inr (.inr (.inr (.inl f3)))))
  rcases Bool.eq_false_or_eq_true (gtp P x) with f4 | f4
  · exact poster_far x y P Q w (.inr (.inr (.inr (.inr (.inr (.inl f4))))))
  rcases Bool.eq_false_or_eq_true (gtp Q y) with f5 | f5
  · exact poster_far x y P Q w (.inr (.inr (.inr (.inr (.inr (.inr f5))))))
  have k := hs
  simp only [List.all_cons, List.all_nil, Bool.and_true, Bool.and_eq_true] at k
  obtain ⟨k1, k2, k3, k4⟩ := k
  obtain ⟨nx, rx, _, x2⟩ := smallB_true k1
  obtain ⟨ny, ry, _, y2⟩ := smallB_true k2
  obtain ⟨np, rp, _, p2⟩ := smallB_true k3
  obtain ⟨nq, rq, _, q2⟩ := smallB_true k4
  have c1 := f_lss rx R_one rfl
  have c2 := f_lss ry R_one rfl
  have c3 := f_leq rp R_zero rfl
  have c4 := f_leq rq R_zero rfl
  have c5 := f_gtr rp rx rfl
  have c6 := f_gtr rq ry rfl
  rw [show (FloatKind.f64.format.order x 4607182418800017408 == some Ordering.lt) = false from f0] at c1
  rw [show (FloatKind.f64.format.order y 4607182418800017408 == some Ordering.lt) = false from f1] at c2
  rw [show (FloatKind.f64.format.order P 0 == some Ordering.lt || FloatKind.f64.format.order P 0 == some Ordering.eq) = false from f2] at c3
  rw [show (FloatKind.f64.format.order Q 0 == some Ordering.lt || FloatKind.f64.format.order Q 0 == some Ordering.eq) = false from f3] at c4
  rw [show (FloatKind.f64.format.order P x == some Ordering.gt) = false from f4] at c5
  rw [show (FloatKind.f64.format.order Q y == some Ordering.gt) = false from f5] at c6
  have d1 := of_decide_eq_false c1.symm
  have d2 := of_decide_eq_false c2.symm
  have d3 := of_decide_eq_false c3.symm
  have d4 := of_decide_eq_false c4.symm
  have d5 := of_decide_eq_false c5.symm
  have d6 := of_decide_eq_false c6.symm
  obtain ⟨p1, pp⟩ := small_pos (Rat.not_le.1 d3)
  obtain ⟨q1, qq⟩ := small_pos (Rat.not_le.1 d4)
  have z64 : ((64 : Int) : Rat) = 64 := rfl
  have x1 : 64 ≤ nx := Rat.intCast_le_intCast.1 (by rw [z64]; grind)
  have y1 : 64 ≤ ny := Rat.intCast_le_intCast.1 (by rw [z64]; grind)
  have px : np ≤ nx := Rat.intCast_le_intCast.1 (by grind)
  have qy : nq ≤ ny := Rat.intCast_le_intCast.1 (by grind)
  obtain ⟨t1, e1, T1⟩ := times_word rp rx p1 p2 x1 x2
  obtain ⟨t2, e2, T2⟩ := times_word rq ry q1 q2 y1 y2
  rcases Bool.eq_false_or_eq_true (gtp t1 4632233691727265792) with g1 | g1
  · exact poster_far1 x y P Q t1 w hs f0 f1 f2 f3 f4 f5 e1 g1
  rcases Bool.eq_false_or_eq_true (gtp t2 4632233691727265792) with g2 | g2
  · exact poster_far2 x y P Q t1 t2 w hs f0 f1 f2 f3 f4 f5 e1 g1 e2 g2
  obtain ⟨b1, l1⟩ := T1 g1
  obtain ⟨b2, l2⟩ := T2 g2
  have W0 : ∀ {X : Nat} {n : Int}, R X ((n : Rat) / 64) → 64 ≤ n → n ≤ 640000 → ∃ V, floatBits .sub .f64 X 0 = some V ∧ R V ((n : Rat) / 64) := fun {X n} r h1 h2 => by
    obtain ⟨V, e, h⟩ := R_sub_exact r R_zero n (-6) (by rw [show two (-6) = 1 / 64 by decide +kernel]; grind) (by omega) (by omega) (by omega)
    exact ⟨V, e, (show (n : Rat) / 64 - 0 = (n : Rat) / 64 by grind) ▸ h⟩
  obtain ⟨Wd, w1, s1⟩ := W0 rx x1 x2
  obtain ⟨Hd, w2, s2⟩ := W0 ry y1 y2
  obtain ⟨J, K, s, c, F, G, r, T, m, d, e, V, e3, M⟩ := side_all rp rx s1 p1 px b1 x1 x2
  obtain ⟨J', K', s', c', F', G', r', T', m', d', e', V', e4, M'⟩ := side_all rq ry s2 q1 qy b2 y1 y2
  refine poster_law w hs f0 f1 f2 f3 f4 f5 e1 g1 e2 g2 e3 e4 (fun W => cutsof W ?_ ?_ ?_ ?_ e1 l1 e2 l2 w1 w2 V V') M M'
  · exact f_gtr rx R_zero (decide_eq_true (by grind))
  · exact f_gtr ry R_zero (decide_eq_true (by grind))
  · exact f_gtr rp R_zero (decide_eq_true (by grind))
  · exact f_gtr rq R_zero (decide_eq_true (by grind))
end Go.Proofs.Ytooghncdhjdcpaa
