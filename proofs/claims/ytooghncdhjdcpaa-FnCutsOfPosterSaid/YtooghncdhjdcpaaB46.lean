/-
FnCutsOfPoster: the words of a poster's cuts. No condition.
-/
import Derived.Test.YtooghncdhjdcpaaB45
namespace Go.Proofs.Ytooghncdhjdcpaa
open Go.RowKit Fl

/-- The places: k parts. -/
def xs (P : Nat) : Nat → Nat
  | 0 => 0
  | k + 1 => (floatBits .add .f64 (xs P k) P).getD 0
theorem xs_R {P : Nat} {a : Int} (hP : R P ((a : Rat) / 64)) (h1 : 1 ≤ a) (h2 : a ≤ 640000) : ∀ k : Nat, k ≤ 60 → R (xs P k) ((((k : Int) * a : Int) : Rat) / 64) ∧ floatBits .add .f64 (xs P k) P = some (xs P (k + 1)) := by
  intro k
  induction k with
  | zero =>
    intro _
    have r0 : R (xs P 0) ((((0 : Nat) : Int) * a : Int) / 64) := by
      rw [show (((0 : Nat) : Int) * a) = 0 by simp]; exact zero64
    obtain ⟨r, e, _⟩ := add64 zero64 hP (by omega)
    exact ⟨r0, by simp only [xs]; rw [e]; rfl⟩
  | succ k ih =>
    intro hk
    obtain ⟨r0, e0⟩ := ih (by omega)
    obtain ⟨r, e, hr⟩ := add64 r0 hP (by
      have : (k : Int) * a ≤ 60 * 640000 := Int.mul_le_mul (by omega) h2 (by omega) (by omega)
      have : 0 ≤ (k : Int) * a := Int.mul_nonneg (by omega) (by omega)
      omega)
    rw [e0] at e
    have e' : xs P (k + 1) = r := Option.some.inj e
    have hr' : R (xs P (k + 1)) (((((k + 1 : Nat) : Int) * a : Int) : Rat) / 64) := by
      rw [e', show (((k + 1 : Nat) : Int) * a) = (k : Int) * a + a by rw [Int.natCast_add, Int.add_mul]; simp]; exact hr
    obtain ⟨r2, e2, _⟩ := add64 hr' hP (by
      have : ((k + 1 : Nat) : Int) * a ≤ 60 * 640000 := Int.mul_le_mul (by omega) h2 (by omega) (by omega)
      have : 0 ≤ ((k + 1 : Nat) : Int) * a := Int.mul_nonneg (by omega) (by omega)
      omega)
    exact ⟨hr', by rw [show xs P (k + 1 + 1) = (floatBits .add .f64 (xs P (k + 1)) P).getD 0 from rfl, e2]; rfl⟩
theorem R_hundred : R 4636737291354636288 100 := R_lit (s := false) (m := 7036874417766400) (e := -46) (by decide +kernel) (by decide +kernel)
/-- A part and a hundred parts of a part, as words. -/
theorem part_words {P W : Nat} {a b : Int} (hP : R P ((a : Rat) / 64)) (hW : R W ((b : Rat) / 64)) (h1 : 1 ≤ a) (h2 : a ≤ 640000) (hb1 : 64 ≤ b) (hb2 : b ≤ 640000) (k : Nat) (hk : k ≤ 50) :
    ∃ f g, floatBits .quo .f64 (xs P (k + 1)) W = some f ∧ floatBits .mul .f64 f 4636737291354636288 = some g ∧
      Ap f (((((k + 1 : Nat) : Int) * a : Int) : Rat) / 64 / ((b : Rat) / 64)) 600000 (1 / 100000000) ∧ Ap g (((((k + 1 : Nat) : Int) * a : Int) : Rat) / 64 / ((b : Rat) / 64) * 100) 60000000 (1 / 100000) := by
  obtain ⟨r, _⟩ := xs_R hP h1 h2 (k + 1) (by omega)
  have m1 : ((k + 1 : Nat) : Int) * a ≤ 51 * 640000 := Int.mul_le_mul (by omega) h2 (by omega) (by omega)
  have m0 : 0 ≤ ((k + 1 : Nat) : Int) * a := Int.mul_nonneg (by omega) (by omega)
  have A : Ap (xs P (k + 1)) (((((k + 1 : Nat) : Int) * a : Int) : Rat) / 64) 600000 0 := Ap.of r (by
    have c1 := Rat.intCast_le_intCast.2 m1
    have c0 := Rat.intCast_le_intCast.2 m0
    have z1 : ((51 * 640000 : Int) : Rat) = 32640000 := rfl
    have z0 : ((0 : Int) : Rat) = 0 := rfl
    rw [z1] at c1
    rw [z0] at c0
    constructor <;> grind)
  have B := Ap.small hW (by omega) hb2
  have hc : (1 : Rat) ≤ (b : Rat) / 64 := by
    have c1 := Rat.intCast_le_intCast.2 hb1
    have z1 : ((64 : Int) : Rat) = 64 := rfl
    rw [z1] at c1
    grind
  obtain ⟨f, e1, fA⟩ := A.div B 1 hc 600000 (1 / 100000000) (by decide +kernel)
  have H : Ap 4636737291354636288 100 100 0 := Ap.of R_hundred ⟨by decide +kernel, by decide +kernel⟩
  obtain ⟨g, e2, gA⟩ := fA.mul H 60000000 (1 / 100000) (by decide +kernel)
  exact ⟨f, g, e1, e2, fA, gA⟩
theorem back_words {r N : Nat} (hr : R r (((N : Nat) : Int) : Rat)) (hN : N ≤ 1000) (h100 : N = 100 → r = 4636737291354636288) :
    ∃ t, floatBits .quo .f64 r 4636737291354636288 = some t ∧ (FloatKind.f64.format.order t 4607182418800017408 != some Ordering.eq) = decide (N ≠ 100) ∧ (FloatKind.f64.format.order t 4607182418800017408 == some Ordering.gt || FloatKind.f64.format.order t 4607182418800017408 == some Ordering.eq) = decide (100 ≤ N) := by
  by_cases h : N = 100
  · subst h
    rw [h100 rfl]
    exact ⟨4607182418800017408, by decide +kernel, by decide +kernel, by decide +kernel⟩
  · have c0 : ((0 : Int) : Rat) ≤ ((N : Int) : Rat) := Rat.intCast_le_intCast.2 (by omega)
    have c1 : ((N : Int) : Rat) ≤ ((1000 : Int) : Rat) := Rat.intCast_le_intCast.2 (by omega)
    have z0 : ((0 : Int) : Rat) = 0 := rfl
    have z1 : ((1000 : Int) : Rat) = 1000 := rfl
    rw [z0] at c0
    rw [z1] at c1
    have H : Ap 4636737291354636288 100 100 0 := Ap.of R_hundred ⟨by decide +kernel, by decide +kernel⟩
    obtain ⟨t, e, q, hq, hn, _⟩ := (Ap.of (M := 1000) hr ⟨by grind, by grind⟩).div H 100 Rat.le_refl 1000 (1 / 1000000) (by decide +kernel)
    obtain ⟨n1, n2⟩ := hn
    refine ⟨t, e, ?_, ?_⟩
    · refine f_neq hq R_one (decide_eq_decide.2 ⟨fun _ => h, fun _ hc => ?_⟩)
      rcases Nat.lt_or_ge N 100 with c | c
      · have : ((N : Int) : Rat) ≤ ((99 : Int) : Rat) := Rat.intCast_le_intCast.2 (by omega)
        have z : ((99 : Int) : Rat) = 99 := rfl
        rw [z] at this
        grind
      · have : ((101 : Int) : Rat) ≤ ((N : Int) : Rat) := Rat.intCast_le_intCast.2 (by omega)
        have z : ((101 : Int) : Rat) = 101 := rfl
        rw [z] at this
        grind
    · refine f_geq hq R_one (decide_eq_decide.2 ⟨fun hc => ?_, fun hc => ?_⟩)
      · refine Nat.le_of_not_lt fun c => ?_
        have : ((N : Int) : Rat) ≤ ((99 : Int) : Rat) := Rat.intCast_le_intCast.2 (by omega)
        have z : ((99 : Int) : Rat) = 99 := rfl
        rw [z] at this
        grind
      · have : ((101 : Int) : Rat) ≤ ((N : Int) : Rat) := Rat.intCast_le_intCast.2 (by omega)
        have z : ((101 : Int) : Rat) = 101 := rfl
        rw [z] at this
        grind
/-- One round's words. -/
def Round1 (P W k : Nat) (v : Rat) (f g r t N : Nat) : Prop :=
  floatBits .quo .f64 (xs P (k + 1)) W = some f ∧ floatBits .mul .f64 f 4636737291354636288 = some g ∧ (∀ w : World, Calls Try.prog 115 #[.float .f64 g] w fun e w' => e = .returned (.float .f64 r) ∧ w = w') ∧ floatBits .quo .f64 r 4636737291354636288 = some t ∧
    (FloatKind.f64.format.order t 4607182418800017408 != some Ordering.eq) = decide (N ≠ 100) ∧ (FloatKind.f64.format.order t 4607182418800017408 == some Ordering.gt || FloatKind.f64.format.order t 4607182418800017408 == some Ordering.eq) = decide (100 ≤ N) ∧
    v * 100 - (N : Rat) ≤ 51 / 100 ∧ (N : Rat) - v * 100 ≤ 51 / 100 ∧ Ap f v 600000 (1 / 100000000)
theorem round_words {P W : Nat} {a b : Int} (hP : R P ((a : Rat) / 64)) (hW : R W ((b : Rat) / 64)) (h1 : 1 ≤ a) (h2 : a ≤ 640000) (hb1 : 64 ≤ b) (hb2 : b ≤ 640000) (k : Nat) (hk : k ≤ 50) {v : Rat} (hv : ((((k + 1 : Nat) : Int) * a : Int) : Rat) / 64 / ((b : Rat) / 64) = v) (v0 : 1 / 100 ≤ v) (v1 : v ≤ 24 / 10) :
    ∃ f g r t N, Round1 P W k v f g r t N := by
  obtain ⟨f, g, e1, e2, A, B⟩ := part_words hP hW h1 h2 hb1 hb2 k hk
  rw [hv] at A B
  obtain ⟨q, hq, ⟨n1, n2⟩, _⟩ := B
  have hlt : g < 18446744073709551616 := by simpa [Lit.wf] using floatBits_wf e2
  obtain ⟨r, N, hr, m1, m2, h100, hc⟩ := round_any hq hlt (by grind) (by grind)
  have hN : N ≤ 1000 := by
    refine Nat.le_of_not_lt fun c => ?_
    have : ((1001 : Nat) : Rat) ≤ (N : Rat) := Rat.natCast_le_natCast.2 c
    have z : ((1001 : Nat) : Rat) = 1001 := rfl
    rw [z] at this
    grind
  obtain ⟨t, e3, b1, b2⟩ := back_words hr hN h100
  exact ⟨f, g, r, t, N, e1, e2, hc, e3, b1, b2, by grind, by grind, A⟩
/-- The rounds up to the last. -/
theorem cut_words {P W : Nat} {a b : Int} (hP : R P ((a : Rat) / 64)) (hW : R W ((b : Rat) / 64)) (h1 : 1 ≤ a) (h2 : a ≤ b) (h3 : b ≤ 50 * a) (hb1 : 64 ≤ b) (hb2 : b ≤ 640000) :
    ∃ (ρ : Rat) (J : Nat) (f g r t N : Nat → Nat), ρ * ((b : Rat) / 64) = (a : Rat) / 64 ∧ 1 / 50 ≤ ρ ∧ ρ ≤ 1 ∧ J ≤ 49 ∧ (∀ k, k ≤ J → Round1 P W k (((k + 1 : Nat) : Rat) * ρ) (f k) (g k) (r k) (t k) (N k)) ∧ (∀ k, k < J → N k < 100) ∧ 100 ≤ N J := by
  have c1 := Rat.intCast_le_intCast.2 hb1
  have c2 := Rat.intCast_le_intCast.2 h2
  have c3 := Rat.intCast_le_intCast.2 h3
  have c4 := Rat.intCast_le_intCast.2 h1
  have z1 : ((64 : Int) : Rat) = 64 := rfl
  have z2 : ((1 : Int) : Rat) = 1 := rfl
  have z3 : ((50 * a : Int) : Rat) = 50 * (a : Rat) := by rw [Rat.intCast_mul]; rfl
  rw [z1] at c1
  rw [z3] at c3
  rw [z2] at c4
  have hb0 : ((b : Rat) / 64) ≠ 0 := by grind
  have hbp : 0 < (b : Rat) / 64 := by grind
  obtain ⟨ρ, hρ⟩ : ∃ ρ, ρ = (a : Rat) / 64 / ((b : Rat) / 64) := ⟨_, rfl⟩
  have hm : ρ * ((b : Rat) / 64) = (a : Rat) / 64 := by rw [hρ, Rat.div_def ((a : Rat) / 64), Rat.mul_assoc, Rat.inv_mul_cancel _ hb0, Rat.mul_one]
  have lo : 1 / 50 ≤ ρ := by
    refine Rat.not_lt.1 fun c => ?_
    have := Rat.mul_lt_mul_of_pos_right c hbp
    grind
  have hi : ρ ≤ 1 := by
    refine Rat.not_lt.1 fun c => ?_
    have := Rat.mul_lt_mul_of_pos_right c hbp
    grind
  have hv : ∀ k : Nat, ((((k + 1 : Nat) : Int) * a : Int) : Rat) / 64 / ((b : Rat) / 64) = ((k + 1 : Nat) : Rat) * ρ := fun k => by
    rw [hρ, Rat.intCast_mul, Rat.intCast_natCast, Rat.div_def, Rat.div_def, Rat.div_def ((a : Rat) / 64), Rat.div_def (a : Rat)]
    grind
  have F1 : ∀ k : Nat, ∃ f g r t N, k ≤ 50 → ((k + 1 : Nat) : Rat) * ρ ≤ 24 / 10 → Round1 P W k (((k + 1 : Nat) : Rat) * ρ) f g r t N := fun k => by
    by_cases hk : k ≤ 50 ∧ ((k + 1 : Nat) : Rat) * ρ ≤ 24 / 10
    · have k1 : ((1 : Nat) : Rat) ≤ ((k + 1 : Nat) : Rat) := Rat.natCast_le_natCast.2 (by omega)
      have zz : ((1 : Nat) : Rat) = 1 := rfl
      rw [zz] at k1
      have := Rat.mul_le_mul_of_nonneg_right k1 (show 0 ≤ ρ by grind)
      obtain ⟨f, g, r, t, N, h⟩ := round_words hP hW h1 (by omega) hb1 hb2 k hk.1 (hv k) (by grind) hk.2
      exact ⟨f, g, r, t, N, fun _ _ => h⟩
    · exact ⟨0, 0, 0, 0, 0, fun x y => absurd ⟨x, y⟩ hk⟩
  obtain ⟨f, F2⟩ := Classical.axiomOfChoice F1
  obtain ⟨g, F3⟩ := Classical.axiomOfChoice F2
  obtain ⟨r, F4⟩ := Classical.axiomOfChoice F3
  obtain ⟨t, F5⟩ := Classical.axiomOfChoice F4
  obtain ⟨N, F6⟩ := Classical.axiomOfChoice F5
  have suc : ∀ k : Nat, ((k + 1 + 1 : Nat) : Rat) * ρ = ((k + 1 : Nat) : Rat) * ρ + ρ := fun k => by
    have zz : ((1 : Nat) : Rat) = 1 := rfl
    rw [Rat.natCast_add (k + 1) 1, zz]; grind
  have key : ∀ n : Nat, n ≤ 50 → (∃ J, J < n ∧ (∀ k, k ≤ J → Round1 P W k (((k + 1 : Nat) : Rat) * ρ) (f k) (g k) (r k) (t k) (N k)) ∧ (∀ k, k < J → N k < 100) ∧ 100 ≤ N J) ∨
      ((∀ k, k < n → Round1 P W k (((k + 1 : Nat) : Rat) * ρ) (f k) (g k) (r k) (t k) (N k) ∧ N k < 100) ∧ ((n + 1 : Nat) : Rat) * ρ ≤ 24 / 10) := by
    intro n
    induction n with
    | zero =>
      intro _
      right
      refine ⟨fun k hk => by omega, ?_⟩
      have zz : ((0 + 1 : Nat) : Rat) = 1 := rfl
      rw [zz]; grind
    | succ n ih =>
      intro hn
      rcases ih (by omega) with ⟨J, hJ, h⟩ | ⟨hall, hle⟩
      · exact .inl ⟨J, by omega, h⟩
      · have hr := F6 n (by omega) hle
        rcases Nat.lt_or_ge (N n) 100 with c | c
        · right
          refine ⟨fun k hk => ?_, ?_⟩
          · rcases Nat.lt_or_ge k n with d | d
            · exact hall k d
            · obtain rfl : k = n := by omega
              exact ⟨hr, c⟩
          · have q := hr.2.2.2.2.2.2.1
            have nn : (N n : Rat) ≤ ((99 : Nat) : Rat) := Rat.natCast_le_natCast.2 (by omega)
            have zz : ((99 : Nat) : Rat) = 99 := rfl
            rw [zz] at nn
            rw [suc n]
            grind
        · left
          refine ⟨n, by omega, fun k hk => ?_, fun k hk => (hall k hk).2, c⟩
          rcases Nat.lt_or_ge k n with d | d
          · exact (hall k d).1
          · obtain rfl : k = n := by omega
            exact hr
  rcases key 50 (by omega) with ⟨J, hJ, x1, x2, x3⟩ | ⟨hall, _⟩
  · exact ⟨ρ, J, f, g, r, t, N, hm, lo, hi, by omega, x1, x2, x3⟩
  · exfalso
    obtain ⟨hr, hn⟩ := hall 49 (by omega)
    have q := hr.2.2.2.2.2.2.1
    have nn : (N 49 : Rat) ≤ ((99 : Nat) : Rat) := Rat.natCast_le_natCast.2 (by omega)
    have zz : ((99 : Nat) : Rat) = 99 := rfl
    have z50 : ((49 + 1 : Nat) : Rat) = 50 := rfl
    rw [zz] at nn
    rw [z50] at q
    grind
end Go.Proofs.Ytooghncdhjdcpaa
