/-
FnCutsOfPoster: the law's words of all sides; the walks joined. No condition.
-/
import Derived.Test.YtooghncdhjdcpaaB46
namespace Go.Proofs.Ytooghncdhjdcpaa
open Go.RowKit Fl

theorem R_micro : R 4517329193108106637 (mkRat 4722366482869645 (2 ^ 72)) := R_lit (s := false) (m := 4722366482869645) (e := -72) (by decide +kernel) (by decide +kernel)
theorem R_98 : R 4607002274814922588 (mkRat 8827055269646172 (2 ^ 53)) := R_lit (s := false) (m := 8827055269646172) (e := -53) (by decide +kernel) (by decide +kernel)
theorem ap_int60 {n : Nat} (h : n ≤ 60) : Ap (floatOfInt .f64 (n : Int)) (n : Rat) 60 0 := by
  have hr := ofInt_R (n : Int) (by omega)
  have h1 : ((0 : Int) : Rat) ≤ ((n : Int) : Rat) := Rat.intCast_le_intCast.2 (by omega)
  have h2 : ((n : Int) : Rat) ≤ ((60 : Int) : Rat) := Rat.intCast_le_intCast.2 (by omega)
  have z0 : ((0 : Int) : Rat) = 0 := rfl
  have z1 : ((60 : Int) : Rat) = 60 := rfl
  rw [z0, Rat.intCast_natCast] at h1
  rw [z1, Rat.intCast_natCast] at h2
  rw [Rat.intCast_natCast] at hr
  exact Ap.of hr ⟨by grind, by grind⟩
/-- The words of one side, for the walk and for the law. -/
theorem side_all {P W W0 : Nat} {a b : Int} (hP : R P ((a : Rat) / 64)) (hW : R W ((b : Rat) / 64)) (hW0 : R W0 ((b : Rat) / 64)) (h1 : 1 ≤ a) (h2 : a ≤ b) (h3 : b ≤ 50 * a) (hb1 : 64 ≤ b) (hb2 : b ≤ 640000) :
    ∃ (J K s : Nat) (c : Bool) (F G r T m d e : Nat → Nat), CutW P W0 J c (xs P) F G r T ∧ floatBits .quo .f64 P W = some s ∧ MulW (J + 1 + c.toNat) K s (plw F) m d e := by
  obtain ⟨ρ, J, f, g, r, t, N, hm, lo, hi, hJ, hr, hlt, hge⟩ := cut_words hP hW0 h1 h2 h3 hb1 hb2
  have hbR : (b : Rat) / 64 ≠ 0 := by
    have c1 := Rat.intCast_le_intCast.2 hb1
    have z1 : ((64 : Int) : Rat) = 64 := rfl
    rw [z1] at c1
    grind
  have hc1 : (1 : Rat) ≤ (b : Rat) / 64 := by
    have c1 := Rat.intCast_le_intCast.2 hb1
    have z1 : ((64 : Int) : Rat) = 64 := rfl
    rw [z1] at c1
    grind
  have hρ : (a : Rat) / 64 / ((b : Rat) / 64) = ρ := by rw [← hm, Rat.div_def, Rat.mul_assoc, Rat.mul_inv_cancel _ hbR, Rat.mul_one]
  obtain ⟨s, e1, S0⟩ := (Ap.small hP (by omega) (by omega)).div (Ap.small hW (by omega) hb2) 1 hc1 10000 (1 / 10000000000) (by decide +kernel)
  rw [hρ] at S0
  have S : Ap s ρ 1 (1 / 10000000000) := by
    obtain ⟨q, q1, q2, _⟩ := S0
    exact ⟨q, q1, q2, by constructor <;> grind⟩
  have M1 : ∀ k : Nat, ∃ m, k ≤ 60 → floatBits .mul .f64 (floatOfInt .f64 ((k : Nat) : Int)) s = some m ∧ Ap m ((k : Rat) * ρ) 60 (1 / 100000000) := fun k => by
    by_cases hk : k ≤ 60
    · obtain ⟨m, e, A⟩ := (ap_int60 hk).mul S 60 (1 / 100000000) (by decide +kernel)
      exact ⟨m, fun _ => ⟨e, A⟩⟩
    · exact ⟨0, fun h => absurd h hk⟩
  obtain ⟨m, M⟩ := Classical.axiomOfChoice M1
  have h98 : (979999 : Rat) / 1000000 < mkRat 8827055269646172 (2 ^ 53) ∧ mkRat 8827055269646172 (2 ^ 53) < 980001 / 1000000 := by decide +kernel
  have z1 : ((1 : Nat) : Rat) = 1 := rfl
  have Nle : ∀ k, N k < 100 → (N k : Rat) ≤ 99 := fun k h => by
    have : (N k : Rat) ≤ ((99 : Nat) : Rat) := Rat.natCast_le_natCast.2 (by omega)
    exact this
  have Nge : (100 : Rat) ≤ (N J : Rat) := by
    have : ((100 : Nat) : Rat) ≤ (N J : Rat) := Rat.natCast_le_natCast.2 hge
    exact this
  -- below 0.98
  have low : ∀ k : Nat, k ≤ 60 → (FloatKind.f64.format.order (m k) 4607002274814922588 == some Ordering.lt) = true → (k : Rat) * ρ < 981 / 1000 := fun k hk h => by
    obtain ⟨_, q, q1, ⟨q2, q3⟩, _⟩ := M k hk
    have := f_lss q1 R_98 rfl
    rw [h] at this
    have := of_decide_eq_true this.symm
    obtain ⟨u1, u2⟩ := h98
    generalize mkRat 8827055269646172 (2 ^ 53) = z at *
    grind
  have high : ∀ k : Nat, k ≤ 60 → (FloatKind.f64.format.order (m k) 4607002274814922588 == some Ordering.lt) = false → 979 / 1000 < (k : Rat) * ρ := fun k hk h => by
    obtain ⟨_, q, q1, ⟨q2, q3⟩, _⟩ := M k hk
    have := f_lss q1 R_98 rfl
    rw [h] at this
    have := of_decide_eq_false this.symm
    obtain ⟨u1, u2⟩ := h98
    generalize mkRat 8827055269646172 (2 ^ 53) = z at *
    grind
  -- the first multiple that is not below
  have key : ∀ n : Nat, n ≤ 51 → (∃ K, K < n ∧ (∀ k, k < K → (FloatKind.f64.format.order (m k) 4607002274814922588 == some Ordering.lt) = true) ∧ (FloatKind.f64.format.order (m K) 4607002274814922588 == some Ordering.lt) = false) ∨ (∀ k, k < n → (FloatKind.f64.format.order (m k) 4607002274814922588 == some Ordering.lt) = true) := by
    intro n
    induction n with
    | zero => intro _; right; intro k hk; omega
    | succ n ih =>
      intro hn
      rcases ih (by omega) with ⟨K, hK, h⟩ | hall
      · exact .inl ⟨K, by omega, h⟩
      · cases hx : (FloatKind.f64.format.order (m n) 4607002274814922588 == some Ordering.lt)
        · exact .inl ⟨n, by omega, hall, hx⟩
        · right
          intro k hk
          rcases Nat.lt_or_ge k n with d | d
          · exact hall k d
          · obtain rfl : k = n := by omega
            exact hx
  obtain ⟨K, hK, k1, k2⟩ : ∃ K, K < 51 ∧ (∀ k, k < K → (FloatKind.f64.format.order (m k) 4607002274814922588 == some Ordering.lt) = true) ∧ (FloatKind.f64.format.order (m K) 4607002274814922588 == some Ordering.lt) = false := by
    rcases key 51 (by omega) with h | h
    · exact h
    · exfalso
      have := low 50 (by omega) (h 50 (by omega))
      have zz : ((50 : Nat) : Rat) = 50 := rfl
      rw [zz] at this
      grind
  have mono : ∀ i j : Nat, i ≤ j → (i : Rat) * ρ ≤ (j : Rat) * ρ := fun i j h => Rat.mul_le_mul_of_nonneg_right (Rat.natCast_le_natCast.2 h) (by grind)
  have KJ : K ≤ J + 1 := by
    refine Nat.le_of_not_lt fun c => ?_
    have l := low (J + 1) (by omega) (k1 (J + 1) c)
    have q := (hr J (by omega)).2.2.2.2.2.2.2.1
    grind
  have JK : J ≤ K := by
    refine Nat.le_of_not_lt fun c => ?_
    obtain ⟨j, rfl⟩ : ∃ j, J = j + 1 := ⟨J - 1, by omega⟩
    have q := (hr j (by omega)).2.2.2.2.2.2.1
    have n1 := Nle j (hlt j (by omega))
    have u := high K (by omega) k2
    have v := mono (K + 1) (j + 1) (by omega)
    rw [Rat.natCast_add K 1, z1] at v
    grind
  -- the differences
  have D1 : ∀ k : Nat, ∃ d e, k < K → floatBits .sub .f64 (plw f k) (m k) = some d ∧ (FloatKind.f64.format.order d 4517329193108106637 == some Ordering.gt) = false ∧ floatBits .sub .f64 (m k) (plw f k) = some e ∧ (FloatKind.f64.format.order e 4517329193108106637 == some Ordering.gt) = false := fun k => by
    by_cases hk : k < K
    · have A : Ap (plw f k) ((k : Rat) * ρ) 600000 (1 / 100000000) := by
        cases k with
        | zero =>
          have zz : ((0 : Nat) : Rat) = 0 := rfl
          rw [zz, Rat.zero_mul]
          exact Ap.zero.mono (by decide +kernel) (by decide +kernel)
        | succ k => exact (hr k (by omega)).2.2.2.2.2.2.2.2
      have B := (M k (by omega)).2
      obtain ⟨d, f1, q, q1, ⟨q2, _⟩, _⟩ := A.sub B 600060 (1 / 10000000) (by decide +kernel)
      obtain ⟨e, f2, q', q1', ⟨q2', _⟩, _⟩ := B.sub A 600060 (1 / 10000000) (by decide +kernel)
      have h6 : (1 : Rat) / 2000000 < mkRat 4722366482869645 (2 ^ 72) := by decide +kernel
      refine ⟨d, e, fun _ => ⟨f1, f_gtr q1 R_micro (decide_eq_false ?_), f2, f_gtr q1' R_micro (decide_eq_false ?_)⟩⟩
      all_goals
        generalize mkRat 4722366482869645 (2 ^ 72) = z at *
        grind
    · exact ⟨0, 0, fun h => absurd h hk⟩
  obtain ⟨d, D2⟩ := Classical.axiomOfChoice D1
  obtain ⟨e, D3⟩ := Classical.axiomOfChoice D2
  obtain ⟨c, hc⟩ : ∃ c, decide (N J ≠ 100) = c := ⟨_, rfl⟩
  have hcn : c.toNat ≤ 1 := by cases c <;> decide
  refine ⟨J, K, s, c, f, g, r, t, m, d, e, ⟨rfl, fun k hk => (xs_R hP h1 (by omega) k (by omega)).2, fun k hk => (hr k hk).1, fun k hk => (hr k hk).2.1, fun k hk => (hr k hk).2.2.1, fun k hk => (hr k hk).2.2.2.1, fun k hk => ?_, fun k hk => ?_, ?_, ?_, by omega⟩, e1,
    ⟨fun k hk => (M k (by omega)).1, k1, k2, by omega, fun k hk => (D3 k hk).1, fun k hk => (D3 k hk).2.1, fun k hk => (D3 k hk).2.2.1, fun k hk => (D3 k hk).2.2.2, by omega, by omega⟩⟩
  · rw [(hr k (by omega)).2.2.2.2.1]; exact decide_eq_true (by have := hlt k hk; omega)
  · rw [(hr k (by omega)).2.2.2.2.2.1]; exact decide_eq_false (by have := hlt k hk; omega)
  · rw [(hr J (by omega)).2.2.2.2.1]; exact hc
  · rw [(hr J (by omega)).2.2.2.2.2.1]; exact decide_eq_true hge
end Go.Proofs.Ytooghncdhjdcpaa
