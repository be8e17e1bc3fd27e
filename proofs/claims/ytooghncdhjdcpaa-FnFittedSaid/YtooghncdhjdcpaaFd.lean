/-
A quotient that fits is exact. Conditions: finite operands, the divisor not 0.
-/
import Derived.Test.YtooghncdhjdcpaaFx
namespace Go.Proofs.Ytooghncdhjdcpaa.Fl
open Go Ieee

theorem two_cancel (e : Int) {a b : Rat} (h : a * two e = b * two e) : a = b := by
  have h5 := congrArg (· * (two e)⁻¹) h
  simp only [Rat.mul_assoc, Rat.mul_inv_cancel _ (two_ne e), Rat.mul_one] at h5
  exact h5

/-- The quotient's digits where it has at most 53 of them: all of it. -/
theorem quotient_exact (m n : Nat) (i j : Int) (hn : 0 < n) (N : Nat) (e : Int) (hN : N < 9007199254740992) (h : (m : Rat) * two i = (N : Rat) * two e * ((n : Rat) * two j)) :
    ∃ (A : Nat) (base : Int), (∀ s t, (Datum.number s m i).quotient 54 (.number t n j) = some (.number (s ^^ t) A base)) ∧ (A : Rat) * two base = (N : Rat) * two e := by
  have hn0 : n ≠ 0 := by omega
  refine ⟨_, _, fun s t => by unfold Datum.quotient; dsimp only; rw [if_neg hn0], ?_⟩
  generalize hmore : 54 + n.log2 - m.log2 = more
  rw [Nat.shiftLeft_eq]
  have hnp : (0 : Rat) < n := Rat.natCast_pos.2 hn
  rcases Nat.eq_zero_or_pos m with rfl | hm
  · have z : (((0 : Nat) : Rat)) = 0 := rfl
    rw [Nat.zero_mul, Nat.zero_div, Nat.zero_mod]
    simp only [bne_self_eq_false, Bool.toNat_false, Nat.mul_zero, Nat.add_zero]
    rw [z, Rat.zero_mul] at h ⊢
    have hp := Rat.mul_pos hnp (two_pos j)
    rcases Rat.mul_eq_zero.1 h.symm with h1 | h1
    · exact h1.symm
    · rw [h1] at hp; exact absurd hp Rat.lt_irrefl
  generalize hD : m * 2 ^ more = D
  have hbig : n * 2 ^ 53 ≤ D := by
    have h1 := Nat.log2_self_le (n := m) (by omega)
    have h2 := Nat.lt_log2_self (n := n)
    have h3 : 2 ^ (m.log2 + more) ≤ D := by
      rw [Nat.pow_add, ← hD]; exact Nat.mul_le_mul_right _ h1
    have h4 : 2 ^ (n.log2 + 1 + 53) ≤ 2 ^ (m.log2 + more) := Nat.pow_le_pow_right (by omega) (by omega)
    have h5 : n * 2 ^ 53 ≤ 2 ^ (n.log2 + 1 + 53) := by
      rw [Nat.pow_add 2 (n.log2 + 1)]; exact Nat.mul_le_mul_right _ (by omega)
    omega
  -- D = n * N * 2 ^ k, k the place
  have hk : (D : Rat) = (n : Rat) * (N : Rat) * two (e + j - i + more) := by
    apply two_cancel i
    have e1 : (D : Rat) = (m : Rat) * ((2 ^ more : Nat) : Rat) := by rw [← hD, Rat.natCast_mul]
    have e2 : two (e + j - i + more) * two i = two e * two j * ((2 ^ more : Nat) : Rat) := by
      rw [← two_nat, ← two_add, ← two_add, ← two_add]; congr 1; omega
    rw [e1, Rat.mul_assoc ((n : Rat) * (N : Rat)), e2]
    have : (m : Rat) * ((2 ^ more : Nat) : Rat) * two i = (m : Rat) * two i * ((2 ^ more : Nat) : Rat) := by grind
    rw [this, h]
    grind
  have hpos : 0 ≤ e + j - i + (more : Int) := by
    rcases Int.lt_or_le (e + j - i + (more : Int)) 0 with hlt | hge
    · exfalso
      have c1 : ((n * 2 ^ 53 : Nat) : Rat) ≤ (D : Rat) := Rat.natCast_le_natCast.2 hbig
      rw [hk, Rat.natCast_mul] at c1
      have c2 := Rat.le_of_mul_le_mul_left (by rw [Rat.mul_assoc] at c1; exact c1) hnp
      have c3 : two (e + j - i + more) ≤ 1 := by rw [← two_zero]; exact two_le (by omega)
      have c4 : (N : Rat) < ((2 ^ 53 : Nat) : Rat) := Rat.natCast_lt_natCast.2 (by omega)
      have c5 := Rat.mul_le_mul_of_nonneg_left c3 (Rat.natCast_nonneg (a := N))
      rw [Rat.mul_one] at c5
      grind
    · exact hge
  obtain ⟨k, hkk⟩ : ∃ k : Nat, e + j - i + (more : Int) = k := ⟨(e + j - i + more).toNat, by omega⟩
  rw [hkk, two_nat, ← Rat.natCast_mul, ← Rat.natCast_mul] at hk
  have hDn : D = n * N * 2 ^ k := Rat.natCast_inj.1 hk
  have hmod : D % n = 0 := by rw [hDn, Nat.mul_assoc]; exact Nat.mul_mod_right n _
  have hdiv : D / n = N * 2 ^ k := by rw [hDn, Nat.mul_assoc]; exact Nat.mul_div_cancel_left _ hn
  rw [hmod, hdiv]
  have : ((0 : Nat) != 0) = false := rfl
  rw [this, Bool.toNat_false, Nat.add_zero]
  have e3 : two (i - j - (more : Int) - 1) * (2 * ((2 ^ k : Nat) : Rat)) = two e := by
    rw [← two_nat, ← two_succ, ← two_add]; congr 1; omega
  rw [← e3, Rat.natCast_mul, Rat.natCast_mul]
  have : ((2 : Nat) : Rat) = 2 := rfl
  rw [this]
  grind

theorem sg_nonneg {s : Bool} {a : Rat} (h : 0 ≤ a) {n : Int} {q : Rat} (hq : 0 ≤ q) (e : sg s a = (n : Rat) * q) : a = (n.natAbs : Rat) * q := by
  have h1 := sg_int n q
  rw [← e] at h1
  have h2 : 0 ≤ (n.natAbs : Rat) * q := Rat.mul_nonneg Rat.natCast_nonneg hq
  generalize (n.natAbs : Rat) * q = b at *
  cases s <;> cases decide (n < 0) <;> simp [sg] at h1 <;> grind

theorem R_div_exact {x y : Nat} {p q : Rat} (hx : R x p) (hy : R y q) (hq0 : q ≠ 0) (n : Int) (e : Int) (hq : p / q = (n : Rat) * two e) (hn : n.natAbs < 9007199254740992) (he : -1074 ≤ e) (he' : e ≤ 900) :
    ∃ r, floatBits .quo .f64 x y = some r ∧ R r (p / q) := by
  obtain ⟨s, m, i, hx, rfl⟩ := hx
  obtain ⟨t, n', j, hy, rfl⟩ := hy
  have hn' : 0 < n' := by
    rcases Nat.eq_zero_or_pos n' with rfl | h
    · exfalso; apply hq0
      have z : (((0 : Nat) : Rat)) = 0 := rfl
      rw [z, Rat.zero_mul, sg_zero]
    · exact h
  have hnp : (0 : Rat) < n' := Rat.natCast_pos.2 hn'
  have hpos := Rat.mul_pos hnp (two_pos j)
  have hne : (n' : Rat) * two j ≠ 0 := Rat.ne_of_gt hpos
  have hdiv : sg s ((m : Rat) * two i) / sg t ((n' : Rat) * two j) = sg (s ^^ t) ((m : Rat) * two i / ((n' : Rat) * two j)) := by
    generalize (m : Rat) * two i = a at *
    generalize (n' : Rat) * two j = b at *
    cases s <;> cases t <;> simp [sg] <;> grind
  rw [hdiv] at hq ⊢
  have ha0 : 0 ≤ (m : Rat) * two i / ((n' : Rat) * two j) := by
    rw [Rat.div_def]
    exact Rat.mul_nonneg (mag_nonneg m i) (Rat.le_of_lt (Rat.inv_pos.2 hpos))
  have hmag := sg_nonneg ha0 (Rat.le_of_lt (two_pos e)) hq
  obtain ⟨A, base, e1, e2⟩ := quotient_exact m n' i j hn' n.natAbs e hn (by rw [← hmag]; exact (Rat.div_mul_cancel hne).symm)
  refine ⟨double.write (.number (s ^^ t) A base), ?_, ?_⟩
  · show (((double.read x).quotient 54 (double.read y)).map double.write) = _
    rw [hx, hy, e1]; rfl
  · refine write_exact (s ^^ t) A base ?_ n e hq hn he he'
    rw [e2, ← hmag]

/-! Quotients of sixty-fourths above 0: how they stand to 1. -/
theorem ratio64 {x y : Nat} {k n : Int} (hx : R x ((k : Rat) / 64)) (hy : R y ((n : Rat) / 64)) (k1 : 1 ≤ k) (k2 : k ≤ 1280000) (n1 : 1 ≤ n) (n2 : n ≤ 1280000) :
    ∃ r v, floatBits .quo .f64 x y = some r ∧ R r v ∧ Nr v ((k : Rat) / 64 / ((n : Rat) / 64)) (1 / 1000000000) ∧ (decide (1 < v) = decide (n < k)) ∧ (decide (v < 1) = decide (k < n)) := by
  have p0 := pos64 n1
  have hq0 : (n : Rat) / 64 ≠ 0 := by grind
  rcases Int.lt_trichotomy k n with h | h | h
  · obtain ⟨r, v, h1, h2, h3⟩ := R_div (B := 20000 / (1 / 64)) hx hy hq0 ((nr64 (B := 1280000) (by omega) (by omega)).mono (by decide +kernel) |>.div (by decide +kernel) p0) (by decide +kernel) (by decide +kernel)
    refine ⟨r, v, h1, h2, h3.mono (by decide +kernel), ?_⟩
    have hle : (k : Rat) / 64 / ((n : Rat) / 64) ≤ 1 - 1 / 1280001 := by
      have a1 : (k : Rat) ≤ ((n - 1 : Int) : Rat) := Rat.intCast_le_intCast.2 (by omega)
      have a2 : (n : Rat) ≤ ((1280000 : Int) : Rat) := Rat.intCast_le_intCast.2 n2
      have z1 : ((1280000 : Int) : Rat) = 1280000 := rfl
      have z2 : ((1 : Int) : Rat) = 1 := rfl
      rw [Rat.intCast_sub, z2] at a1
      rw [z1] at a2
      have e := Rat.div_mul_cancel (a := (k : Rat) / 64) hq0
      generalize (k : Rat) / 64 / ((n : Rat) / 64) = t at *
      rcases Rat.le_total (a := t) (b := 1 - 1 / 1280001) with hh | hh
      · exact hh
      · have := Rat.mul_le_mul_of_nonneg_right hh (show (0 : Rat) ≤ (n : Rat) / 64 by grind)
        grind
    obtain ⟨b1, b2⟩ := h3.mono (show 20000 / (1 / 64) / 2251799813685248 ≤ (1 / 1000000000 : Rat) by decide +kernel)
    exact ⟨by rw [decide_eq_false (by grind), decide_eq_false (by omega)], by rw [decide_eq_true (by grind), decide_eq_true h]⟩
  · subst h
    have e : (k : Rat) / 64 / ((k : Rat) / 64) = ((1 : Int) : Rat) * two 0 := by
      have z2 : ((1 : Int) : Rat) = 1 := rfl
      rw [two_zero, z2, Rat.mul_one, Rat.div_def, Rat.mul_inv_cancel _ hq0]
    obtain ⟨r, h1, h2⟩ := R_div_exact hx hy hq0 1 0 e (by decide) (by omega) (by omega)
    refine ⟨r, _, h1, h2, Nr.refl (by decide +kernel), ?_⟩
    have z2 : ((1 : Int) : Rat) = 1 := rfl
    rw [e, two_zero, z2, Rat.mul_one]
    exact ⟨by rw [decide_eq_false Rat.lt_irrefl, decide_eq_false (by omega)], by rw [decide_eq_false Rat.lt_irrefl, decide_eq_false (by omega)]⟩
  · obtain ⟨r, v, h1, h2, h3⟩ := R_div (B := 20000 / (1 / 64)) hx hy hq0 ((nr64 (B := 1280000) (by omega) (by omega)).mono (by decide +kernel) |>.div (by decide +kernel) p0) (by decide +kernel) (by decide +kernel)
    refine ⟨r, v, h1, h2, h3.mono (by decide +kernel), ?_⟩
    have hle : 1 + 1 / 1280001 ≤ (k : Rat) / 64 / ((n : Rat) / 64) := by
      have a1 : ((n + 1 : Int) : Rat) ≤ (k : Rat) := Rat.intCast_le_intCast.2 (by omega)
      have a2 : (n : Rat) ≤ ((1280000 : Int) : Rat) := Rat.intCast_le_intCast.2 n2
      have z1 : ((1280000 : Int) : Rat) = 1280000 := rfl
      have z2 : ((1 : Int) : Rat) = 1 := rfl
      rw [Rat.intCast_add, z2] at a1
      rw [z1] at a2
      have e := Rat.div_mul_cancel (a := (k : Rat) / 64) hq0
      generalize (k : Rat) / 64 / ((n : Rat) / 64) = t at *
      rcases Rat.le_total (a := 1 + 1 / 1280001) (b := t) with hh | hh
      · exact hh
      · have := Rat.mul_le_mul_of_nonneg_right hh (show (0 : Rat) ≤ (n : Rat) / 64 by grind)
        grind
    obtain ⟨b1, b2⟩ := h3.mono (show 20000 / (1 / 64) / 2251799813685248 ≤ (1 / 1000000000 : Rat) by decide +kernel)
    exact ⟨by rw [decide_eq_true (by grind), decide_eq_true h], by rw [decide_eq_false (by grind), decide_eq_false (by omega)]⟩

end Go.Proofs.Ytooghncdhjdcpaa.Fl
