/-
Doubles of the model as rational numbers: a finite word stands for one; each operation's answer lies as near to the exact one as rounding allows; exact where the answer fits. Conditions: finite operands, answers below 2 ^ 1000.
-/
import Derived.Laws.FloatArith
namespace Go.Proofs.Ytooghncdhjdcpaa.Fl
open Go Ieee

def two (e : Int) : Rat := (2 : Rat) ^ e

theorem two_pos (e : Int) : 0 < two e := Rat.zpow_pos (by decide)
theorem two_ne (e : Int) : two e ≠ 0 := fun h => by have := two_pos e; rw [h] at this; exact absurd this (by decide)
theorem two_add (a b : Int) : two (a + b) = two a * two b := Rat.zpow_add (by decide) a b
theorem two_nat (n : Nat) : two (n : Int) = ((2 ^ n : Nat) : Rat) := by
  unfold two; rw [Rat.zpow_natCast, Rat.natCast_pow]; rfl
theorem two_zero : two 0 = 1 := Rat.zpow_zero 2
theorem two_one : two 1 = 2 := Rat.zpow_one 2
theorem two_succ (e : Int) : two (e + 1) = 2 * two e := by rw [two_add, two_one, Rat.mul_comm]
theorem two_pred (e : Int) : 2 * two (e - 1) = two e := by rw [← two_succ]; congr 1; omega
theorem two_le {a b : Int} (h : a ≤ b) : two a ≤ two b := by
  obtain ⟨n, rfl⟩ : ∃ n : Nat, b = a + n := ⟨(b - a).toNat, by omega⟩
  rw [two_add, two_nat]
  have h1 : (1 : Rat) ≤ ((2 ^ n : Nat) : Rat) := by
    have := Rat.natCast_le_natCast.2 (Nat.one_le_two_pow (n := n))
    exact this
  have := Rat.mul_le_mul_of_nonneg_left h1 (Rat.le_of_lt (two_pos a))
  rw [Rat.mul_one] at this; exact this
theorem two_lt {a b : Int} (h : a < b) : two a < two b := by
  have h1 := two_le (a := a + 1) (b := b) (by omega)
  have h2 := two_pos a
  rw [two_succ] at h1
  grind
theorem lt_of_two {a b : Int} (h : two a < two b) : a < b := by
  rcases Int.lt_or_le a b with h1 | h1
  · exact h1
  · have := two_le h1; grind
theorem le_of_two {a b : Int} (h : two a ≤ two b) : a ≤ b := by
  rcases Int.lt_or_le b a with h1 | h1
  · have := two_lt h1; grind
  · exact h1
theorem nat_two (m : Nat) (p : Int) : (m : Rat) * two p = ((m : Nat) : Rat) * two p := rfl
theorem shl_two (m a : Nat) (p : Int) : ((m * 2 ^ a : Nat) : Rat) * two (p - a) = (m : Rat) * two p := by
  have h : two p = two a * two (p - a) := by rw [← two_add]; congr 1; omega
  rw [h, two_nat, Rat.natCast_mul, Rat.mul_assoc]

/-- The sign of a datum, on its magnitude. -/
def sg (s : Bool) (q : Rat) : Rat := if s then -q else q

theorem sg_zero (s : Bool) : sg s 0 = 0 := by cases s <;> rfl
theorem sg_xor (s t : Bool) (p q : Rat) : sg (s ^^ t) (p * q) = sg s p * sg t q := by
  cases s <;> cases t <;> simp [sg] <;> grind
theorem sg_sg (s : Bool) (p : Rat) : sg s (sg s p) = p := by cases s <;> simp [sg, Rat.neg_neg]

/-- Nearness. -/
def Nr (a b e : Rat) : Prop := a - b ≤ e ∧ b - a ≤ e

theorem Nr.sg {a b e : Rat} (h : Nr a b e) (s : Bool) : Nr (sg s a) (sg s b) e := by
  obtain ⟨h1, h2⟩ := h
  cases s <;> simp [Fl.sg, Nr] <;> grind
theorem Nr.mono {a b e f : Rat} (h : Nr a b e) (hf : e ≤ f) : Nr a b f := ⟨Rat.le_trans h.1 hf, Rat.le_trans h.2 hf⟩
theorem Nr.refl {a e : Rat} (h : 0 ≤ e) : Nr a a e := by constructor <;> grind

/-- The word x is finite and stands for q. -/
def R (x : Nat) (q : Rat) : Prop := ∃ (s : Bool) (m : Nat) (e : Int), double.read x = .number s m e ∧ q = sg s ((m : Rat) * two e)

theorem R.unique {x : Nat} {p q : Rat} (h : R x p) (h' : R x q) : p = q := by
  obtain ⟨s, m, e, h1, rfl⟩ := h
  obtain ⟨s', m', e', h1', rfl⟩ := h'
  rw [h1] at h1'
  cases h1'
  rfl

theorem cut_even (s : Bool) (n drop : Nat) :
    2 * n ≤ (2 * Toward.even.cut s n drop + 1) * 2 ^ drop ∧ 2 * Toward.even.cut s n drop * 2 ^ drop ≤ 2 * n + 2 ^ drop := by
  unfold Toward.cut
  rw [Nat.one_shiftLeft]
  by_cases hd : drop ≤ n.log2 + 2
  · rw [Nat.min_eq_left hd]
    have hg : 0 < 2 ^ drop := Nat.two_pow_pos _
    have hdm : 2 ^ drop * (n / 2 ^ drop) + n % 2 ^ drop = n := Nat.div_add_mod ..
    have hr : n % 2 ^ drop < 2 ^ drop := Nat.mod_lt _ hg
    dsimp only
    generalize 2 ^ drop = g at *
    generalize n / g = low at *
    generalize n % g = rest at *
    have e1 : ∀ k : Nat, (2 * (low + k) + 1) * g = 2 * (g * low) + 2 * (k * g) + g := fun k => by grind
    have e2 : ∀ k : Nat, 2 * (low + k) * g = 2 * (g * low) + 2 * (k * g) := fun k => by grind
    rw [e1, e2]
    by_cases hm : (decide (g < 2 * rest) || (g == 2 * rest && low % 2 == 1)) = true
    · rw [hm]
      have : g ≤ 2 * rest := by
        simp only [Bool.or_eq_true, decide_eq_true_eq, Bool.and_eq_true, beq_iff_eq] at hm
        omega
      simp only [Bool.toNat_true, Nat.one_mul]
      omega
    · rw [Bool.not_eq_true] at hm
      rw [hm]
      have : ¬ g < 2 * rest := by
        simp only [Bool.or_eq_false_iff, decide_eq_false_iff_not] at hm
        exact hm.1
      simp only [Bool.toNat_false, Nat.zero_mul, Nat.mul_zero]
      omega
  · have hn : n < 2 ^ (n.log2 + 1) := Nat.lt_log2_self
    have e : 2 ^ (n.log2 + 2) = 2 * 2 ^ (n.log2 + 1) := by rw [Nat.pow_succ 2 (n.log2 + 1), Nat.mul_comm]
    have hle : 2 ^ (n.log2 + 2) ≤ 2 ^ drop := Nat.pow_le_pow_right (by omega) (by omega)
    rw [Nat.min_eq_right (by omega)]
    have h0 : n / 2 ^ (n.log2 + 2) = 0 := Nat.div_eq_of_lt (by omega)
    have h1 : n % 2 ^ (n.log2 + 2) = n := Nat.mod_eq_of_lt (by omega)
    dsimp only
    rw [h0, h1]
    have hm : (decide (2 ^ (n.log2 + 2) < 2 * n) || (2 ^ (n.log2 + 2) == 2 * n && 0 % 2 == 1)) = false := by
      have : ¬ 2 ^ (n.log2 + 2) < 2 * n := by omega
      simp [this]
    rw [hm]
    simp only [Bool.toNat_false, Nat.add_zero, Nat.mul_zero, Nat.zero_mul, Nat.zero_add, Nat.one_mul]
    omega

theorem read_word (s : Bool) (c D : Nat) (h53 : c ≤ 9007199254740992) (hl : D = 0 ∨ 4503599627370496 ≤ c) (hD : D ≤ 2040) :
    R (double.word s (min (D * double.binade + c) double.infRung)) (sg s ((c : Rat) * two ((D : Int) - 1074))) := by
  have hb : double.binade = 4503599627370496 := by decide
  have hi : double.infRung = 9218868437227405312 := by decide
  have hw : double.signWeight = 9223372036854775808 := by decide
  have hp : double.leastPlace = -1074 := by decide
  rw [hb, hi, Nat.min_eq_left (by omega)]
  generalize hr : D * 4503599627370496 + c = r
  have hlt : r < 9218868437227405312 := by omega
  have w1 : (double.word s r / 9223372036854775808 % 2 == 1) = s := by
    unfold Format.word
    rw [hw]
    cases s
    · have : r / 9223372036854775808 % 2 = 0 := by omega
      simp [this]
    · have : (9223372036854775808 + r) / 9223372036854775808 % 2 = 1 := by omega
      rw [if_pos rfl, this]; rfl
  have w2 : double.word s r % 9223372036854775808 = r := by
    unfold Format.word
    rw [hw]
    cases s
    · simp only [Bool.false_eq_true, if_false]; omega
    · simp only [if_true]; omega
  unfold R Format.read
  rw [hb, hi, hw, hp]
  dsimp only
  rw [w1, w2]
  by_cases h1 : r < 4503599627370496
  · rw [if_pos h1]
    refine ⟨s, r, -1074, rfl, ?_⟩
    have hD0 : D = 0 := by omega
    subst hD0
    have : r = c := by omega
    subst this
    rfl
  · rw [if_neg h1, if_pos hlt]
    refine ⟨s, _, _, rfl, ?_⟩
    by_cases hc : c = 9007199254740992
    · have e1 : 4503599627370496 + r % 4503599627370496 = 4503599627370496 := by omega
      have e2 : r / 4503599627370496 - 1 = D + 1 := by omega
      rw [e1, e2, hc]
      have e3 : (-1074 + ((D + 1 : Nat) : Int)) = ((D : Int) - 1074) + 1 := by omega
      rw [e3, two_succ]
      congr 1
      have : ((9007199254740992 : Nat) : Rat) = ((4503599627370496 : Nat) : Rat) * 2 := by decide +kernel
      rw [this]
      grind
    · have e1 : 4503599627370496 + r % 4503599627370496 = c := by omega
      have e2 : r / 4503599627370496 - 1 = D := by omega
      rw [e1, e2]
      have e3 : (-1074 + (D : Int)) = ((D : Int) - 1074) := by omega
      rw [e3]

/-- Where rounding lands: a multiple of the last place, at most half of one away. -/
theorem nearest_core (s : Bool) (m : Nat) (p : Int) (hm : 0 < m) (hb : p + m.log2 ≤ 1000) :
    ∃ (k : Nat) (last : Int), last = max (p + m.log2 - 52) (-1074) ∧ R (double.nearest s m p) (sg s ((k : Rat) * two last)) ∧ Nr ((k : Rat) * two last) ((m : Rat) * two p) (two (last - 1)) := by
  have hf : (double.fractionBits : Int) = 52 := by decide
  have hp : double.leastPlace = -1074 := by decide
  unfold Format.nearest
  rw [if_neg (by omega), hf, hp]
  dsimp only
  generalize hlast : max (p + (m.log2 : Int) - 52) (-1074) = last
  rw [Nat.shiftLeft_eq]
  generalize ha : (p - last).toNat = a
  generalize hd : (last - p).toNat = drop
  have hlog := Nat.log2_self_le (n := m) (by omega)
  have hlog' := Nat.lt_log2_self (n := m)
  have had : (a : Int) - drop = p - last := by omega
  have hU : m * 2 ^ a < 2 ^ (53 + drop) := by
    refine Nat.lt_of_lt_of_le (Nat.mul_lt_mul_of_pos_right hlog' (Nat.two_pow_pos a)) ?_
    rw [← Nat.pow_add]
    exact Nat.pow_le_pow_right (by omega) (by omega)
  have hL : last = -1074 ∨ 2 ^ (52 + drop) ≤ m * 2 ^ a := by
    by_cases h : last = -1074
    · exact .inl h
    · refine .inr (Nat.le_trans ?_ (Nat.mul_le_mul_right (2 ^ a) hlog))
      rw [← Nat.pow_add]
      exact Nat.pow_le_pow_right (by omega) (by omega)
  obtain ⟨c1, c2⟩ := cut_even s (m * 2 ^ a) drop
  generalize hc : Toward.even.cut s (m * 2 ^ a) drop = c at c1 c2 ⊢
  have hval : (m : Rat) * two p = ((m * 2 ^ a : Nat) : Rat) * two (last - drop) := by
    have : last - (drop : Int) = p - a := by omega
    rw [this, shl_two]
  generalize hM : m * 2 ^ a = M at hU hL c1 c2 hval
  rw [Nat.pow_add] at hU
  have hg : 0 < 2 ^ drop := Nat.two_pow_pos _
  have hcv : (c : Rat) * two last = ((c * 2 ^ drop : Nat) : Rat) * two (last - drop) := (shl_two c drop last).symm
  have hhalf : 2 * two (last - 1) = ((2 ^ drop : Nat) : Rat) * two (last - drop) := by
    rw [two_pred]
    have := shl_two 1 drop last
    rw [Nat.one_mul] at this
    rw [this]
    simp
  have b53 : c ≤ 9007199254740992 := by
    have h1 : 2 * c * 2 ^ drop < (2 * 2 ^ 53 + 1) * 2 ^ drop := by
      have e : (2 * 2 ^ 53 + 1) * 2 ^ drop = 2 * (2 ^ 53 * 2 ^ drop) + 2 ^ drop := by grind
      rw [e]; omega
    have h2 := Nat.lt_of_mul_lt_mul_right h1
    omega
  have b52 : (last + 1074).toNat = 0 ∨ 4503599627370496 ≤ c := by
    rcases hL with h | h
    · exact .inl (by omega)
    · right
      rw [Nat.pow_add] at h
      have h1 : (2 * 2 ^ 52) * 2 ^ drop ≤ (2 * c + 1) * 2 ^ drop := by
        have e : (2 * 2 ^ 52) * 2 ^ drop = 2 * (2 ^ 52 * 2 ^ drop) := by grind
        rw [e]; omega
      have h2 := Nat.le_of_mul_le_mul_right h1 hg
      omega
  refine ⟨c, last, rfl, ?_, ?_⟩
  · have hlt : (last - -1074).toNat = (last + 1074).toNat := by congr 1
    rw [hlt]
    have := read_word s c (last + 1074).toNat b53 b52 (by omega)
    have e : (((last + 1074).toNat : Nat) : Int) - 1074 = last := by omega
    rw [e] at this
    exact this
  · rw [hval, hcv]
    have hpos := two_pos (last - drop)
    generalize two (last - drop) = t at *
    have d1 : ((2 * M : Nat) : Rat) ≤ (((2 * c + 1) * 2 ^ drop : Nat) : Rat) := Rat.natCast_le_natCast.2 c1
    have d2 : ((2 * c * 2 ^ drop : Nat) : Rat) ≤ ((2 * M + 2 ^ drop : Nat) : Rat) := Rat.natCast_le_natCast.2 c2
    have e1 : (2 * c + 1) * 2 ^ drop = 2 * (c * 2 ^ drop) + 2 ^ drop := by grind
    have e2 : 2 * c * 2 ^ drop = 2 * (c * 2 ^ drop) := by grind
    rw [e1] at d1
    rw [e2] at d2
    simp only [Rat.natCast_add, Rat.natCast_mul] at d1 d2
    simp only [Rat.natCast_mul] at hhalf ⊢
    generalize (M : Rat) = M' at *
    generalize ((2 ^ drop : Nat) : Rat) = g at *
    generalize (c : Rat) = c' at *
    have k1 := Rat.mul_le_mul_of_nonneg_right d1 (Rat.le_of_lt hpos)
    have k2 := Rat.mul_le_mul_of_nonneg_right d2 (Rat.le_of_lt hpos)
    have two' : ((2 : Nat) : Rat) = 2 := rfl
    rw [two'] at k1 k2
    constructor <;> grind

theorem nearest_zero (s : Bool) (p : Int) : R (double.nearest s 0 p) 0 := by
  have h := read_word s 0 0 (by omega) (.inl rfl) (by omega)
  have e : double.nearest s 0 p = double.word s (min (0 * double.binade + 0) double.infRung) := by
    unfold Format.nearest
    rw [if_pos rfl]
    congr 1
  rw [e]
  have z : sg s (((0 : Nat) : Rat) * two (((0 : Nat) : Int) - 1074)) = 0 := by
    have : (((0 : Nat) : Rat)) = 0 := rfl
    rw [this, Rat.zero_mul, sg_zero]
  rw [z] at h
  exact h

theorem log_le {m : Nat} {p b : Int} (hm : 0 < m) (h : (m : Rat) * two p ≤ two b) : p + m.log2 ≤ b := by
  have h1 : ((2 ^ m.log2 : Nat) : Rat) ≤ (m : Rat) := Rat.natCast_le_natCast.2 (Nat.log2_self_le (by omega))
  have h2 := Rat.mul_le_mul_of_nonneg_right h1 (Rat.le_of_lt (two_pos p))
  rw [← two_nat, ← two_add] at h2
  have h3 := le_of_two (Rat.le_trans h2 h)
  omega

/-- A magnitude rounded: the error is at most half the last place. -/
theorem nearest_R (s : Bool) (m : Nat) (p : Int) (hb : (m : Rat) * two p ≤ two 1000) :
    ∃ v, R (double.nearest s m p) v ∧ Nr v (sg s ((m : Rat) * two p)) ((m : Rat) * two p * two (-53) + two (-1075)) := by
  rcases Nat.eq_zero_or_pos m with rfl | hm
  · refine ⟨0, nearest_zero s p, ?_⟩
    have : (((0 : Nat) : Rat)) = 0 := rfl
    rw [this, Rat.zero_mul, sg_zero, Rat.zero_mul]
    refine Nr.refl ?_
    have := two_pos (-1075)
    grind
  · obtain ⟨k, last, hl, hr, hn⟩ := nearest_core s m p hm (log_le hm hb)
    refine ⟨_, hr, (hn.sg s).mono ?_⟩
    have h1 : ((2 ^ m.log2 : Nat) : Rat) ≤ (m : Rat) := Rat.natCast_le_natCast.2 (Nat.log2_self_le (by omega))
    have h2 := Rat.mul_le_mul_of_nonneg_right h1 (Rat.le_of_lt (two_pos p))
    have h3 := Rat.mul_le_mul_of_nonneg_right h2 (Rat.le_of_lt (two_pos (-53)))
    rw [← two_nat, ← two_add, ← two_add] at h3
    have p1 := two_pos (-1075)
    have p2 := two_pos (((m.log2 : Nat) : Int) + p + -53)
    rcases Int.le_total (p + m.log2 - 52) (-1074) with h | h
    · have e : last - 1 = -1075 := by omega
      rw [e]
      grind
    · have e : last - 1 = ((m.log2 : Nat) : Int) + p + -53 := by omega
      rw [e]
      grind

/-- A magnitude that fits is written as it is. -/
theorem nearest_exact (s : Bool) (m : Nat) (p : Int) (n : Nat) (e : Int) (hn : n < 9007199254740992) (he : -1074 ≤ e) (h : (m : Rat) * two p = (n : Rat) * two e) (hb : (m : Rat) * two p ≤ two 1000) :
    R (double.nearest s m p) (sg s ((m : Rat) * two p)) := by
  rcases Nat.eq_zero_or_pos m with rfl | hm
  · have : (((0 : Nat) : Rat)) = 0 := rfl
    rw [this, Rat.zero_mul, sg_zero]
    exact nearest_zero s p
  · obtain ⟨k, last, hl, hr, hn'⟩ := nearest_core s m p hm (log_le hm hb)
    have h0 : (n : Rat) ≤ ((2 ^ 53 : Nat) : Rat) := Rat.natCast_le_natCast.2 (by omega)
    have hle : p + m.log2 - 52 ≤ e := by
      have h1 : ((2 ^ m.log2 : Nat) : Rat) ≤ (m : Rat) := Rat.natCast_le_natCast.2 (Nat.log2_self_le (by omega))
      have h2 := Rat.mul_le_mul_of_nonneg_right h1 (Rat.le_of_lt (two_pos p))
      rw [h, ← two_nat, ← two_add] at h2
      have h3 : (n : Rat) < ((2 ^ 53 : Nat) : Rat) := Rat.natCast_lt_natCast.2 (by omega)
      have h4 := Rat.mul_lt_mul_of_pos_right h3 (two_pos e)
      rw [← two_nat, ← two_add] at h4
      have h5 : ((m.log2 : Nat) : Int) + p < ((53 : Nat) : Int) + e := lt_of_two (by grind)
      omega
    obtain ⟨j, hj⟩ : ∃ j : Nat, (m : Rat) * two p = (j : Rat) * two last := by
      refine ⟨n * 2 ^ (e - last).toNat, ?_⟩
      have hh : e - (((e - last).toNat : Nat) : Int) = last := by omega
      have h6 := shl_two n (e - last).toNat e
      rw [hh] at h6
      rw [h, h6]
    have hk : k = j := by
      obtain ⟨a1, a2⟩ := hn'
      rw [hj] at a1 a2
      have hh := two_pred last
      have hp := two_pos (last - 1)
      rw [← hh] at a1 a2
      generalize two (last - 1) = t at *
      rcases Nat.lt_trichotomy k j with hlt | heq | hlt
      · have c1 : ((k + 1 : Nat) : Rat) ≤ (j : Rat) := Rat.natCast_le_natCast.2 hlt
        have c2 := Rat.mul_le_mul_of_nonneg_right c1 (Rat.le_of_lt hp)
        simp only [Rat.natCast_add] at c2
        have one' : ((1 : Nat) : Rat) = 1 := rfl
        rw [one'] at c2
        grind
      · exact heq
      · have c1 : ((j + 1 : Nat) : Rat) ≤ (k : Rat) := Rat.natCast_le_natCast.2 hlt
        have c2 := Rat.mul_le_mul_of_nonneg_right c1 (Rat.le_of_lt hp)
        simp only [Rat.natCast_add] at c2
        have one' : ((1 : Nat) : Rat) = 1 := rfl
        rw [one'] at c2
        grind
    rw [hj, ← hk]
    exact hr

/-- An integer times a power of two, as sign and magnitude. -/
theorem sg_int (n : Int) (q : Rat) : sg (decide (n < 0)) ((n.natAbs : Rat) * q) = (n : Rat) * q := by
  rcases Int.lt_or_le n 0 with h | h
  · have e : (n : Rat) = -((n.natAbs : Nat) : Rat) := by
      have : n = -((n.natAbs : Nat) : Int) := by omega
      have h2 : ((n : Int) : Rat) = ((-((n.natAbs : Nat) : Int) : Int) : Rat) := by rw [← this]
      rw [h2, Rat.intCast_neg]; rfl
    simp only [h, decide_true, sg, if_true]
    rw [e, Rat.neg_mul]
  · have e : (n : Rat) = ((n.natAbs : Nat) : Rat) := by
      have : n = ((n.natAbs : Nat) : Int) := by omega
      have h2 : ((n : Int) : Rat) = ((((n.natAbs : Nat) : Int) : Int) : Rat) := by rw [← this]
      rw [h2]; rfl
    have : ¬ n < 0 := by omega
    simp only [this, decide_false, sg]
    rw [e]; rfl

theorem signed_two (s : Bool) (m up : Nat) (p : Int) : ((signed s m up : Int) : Rat) * two (p - up) = sg s ((m : Rat) * two p) := by
  unfold signed
  rw [Nat.shiftLeft_eq]
  cases s
  · simp only [sg, Bool.false_eq_true, if_false]
    exact shl_two m up p
  · simp only [sg, if_true]
    rw [Rat.intCast_neg, Rat.neg_mul]
    congr 1
    exact shl_two m up p

/-- What both adding and taking away come to: the exact sum, written. -/
theorem sum_R {d d' : Datum} {s t : Bool} {m n : Nat} {i j : Int} (hd : d = .number s m i) (hd' : d' = .number t n j) :
    ∃ (z : Bool) (mag : Nat) (base : Int), d.sum d' = some (.number z mag base) ∧ (mag = 0 → sg s ((m : Rat) * two i) + sg t ((n : Rat) * two j) = 0) ∧ sg z ((mag : Rat) * two base) = sg s ((m : Rat) * two i) + sg t ((n : Rat) * two j) := by
  subst hd; subst hd'
  unfold Datum.sum
  refine ⟨_, _, _, rfl, ?_, ?_⟩
  all_goals
    have e1 := signed_two s m (i - min i j).toNat i
    have e2 := signed_two t n (j - min i j).toNat j
    have f1 : i - ((i - min i j).toNat : Int) = min i j := by omega
    have f2 : j - ((j - min i j).toNat : Int) = min i j := by omega
    rw [f1] at e1
    rw [f2] at e2
    rw [← e1, ← e2, ← Rat.add_mul, ← Rat.intCast_add]
    generalize signed s m (i - min i j).toNat + signed t n (j - min i j).toNat = total
  · intro h
    have : total = 0 := by omega
    rw [this]
    exact Rat.zero_mul _
  · by_cases h : total = 0
    · subst h
      have z1 : ((Int.natAbs 0 : Nat) : Rat) = 0 := rfl
      have z2 : ((0 : Int) : Rat) = 0 := rfl
      rw [z1, z2, Rat.zero_mul, sg_zero]
    · rw [if_neg h]
      exact sg_int total _

theorem abs_of_sg {s : Bool} {a b : Rat} (h : Nr (sg s a) 0 b) : a ≤ b := by
  obtain ⟨h1, h2⟩ := h
  cases s <;> simp [sg] at h1 h2 <;> grind

theorem mag_nonneg (m : Nat) (p : Int) : 0 ≤ (m : Rat) * two p := Rat.mul_nonneg Rat.natCast_nonneg (Rat.le_of_lt (two_pos p))

/-- The tiny parts of an error, under one bound. -/
theorem err_le {a B : Rat} (h : a ≤ B) (h1 : 1 / 1267650600228229401496703205376 ≤ B) : a * two (-53) + two (-1075) ≤ B / 4503599627370496 := by
  have e1 : two (-53) = 1 / 9007199254740992 := by decide +kernel
  have e2 : two (-1075) ≤ 1 / 1267650600228229401496703205376 / 9007199254740992 := by decide +kernel
  rw [e1]
  grind

/-- Writing a signed magnitude that is at most B. -/
theorem write_R (z : Bool) (mag : Nat) (base : Int) {q B : Rat} (h : sg z ((mag : Rat) * two base) = q) (hb : Nr q 0 B) (h1 : 1 / 1267650600228229401496703205376 ≤ B) (h2 : B ≤ 1267650600228229401496703205376) :
    ∃ v, R (double.write (.number z mag base)) v ∧ Nr v q (B / 4503599627370496) := by
  rw [← h] at hb
  have hle := abs_of_sg hb
  have h3 : (1267650600228229401496703205376 : Rat) ≤ two 1000 := by decide +kernel
  obtain ⟨v, hv, hn⟩ := nearest_R z mag base (by grind)
  rw [h] at hn
  exact ⟨v, hv, hn.mono (err_le hle h1)⟩

theorem write_exact (z : Bool) (mag : Nat) (base : Int) {q : Rat} (h : sg z ((mag : Rat) * two base) = q) (n : Int) (e : Int) (hq : q = (n : Rat) * two e) (hn : n.natAbs < 9007199254740992) (he : -1074 ≤ e) (he' : e ≤ 900) :
    R (double.write (.number z mag base)) q := by
  have hm : (mag : Rat) * two base = (n.natAbs : Rat) * two e := by
    have h0 := sg_int n (two e)
    rw [← hq, ← h] at h0
    have a := mag_nonneg mag base
    have b := mag_nonneg n.natAbs e
    generalize (mag : Rat) * two base = x at *
    generalize (n.natAbs : Rat) * two e = y at *
    cases z <;> cases decide (n < 0) <;> simp [sg] at h0 <;> grind
  have hb : (mag : Rat) * two base ≤ two 1000 := by
    rw [hm]
    have h3 : (n.natAbs : Rat) ≤ ((2 ^ 53 : Nat) : Rat) := Rat.natCast_le_natCast.2 (by omega)
    have h4 := Rat.mul_le_mul_of_nonneg_right h3 (Rat.le_of_lt (two_pos e))
    rw [← two_nat, ← two_add] at h4
    exact Rat.le_trans h4 (two_le (by omega))
  rw [← h]
  exact nearest_exact z mag base n.natAbs e hn he hm hb

section ops
variable {x y : Nat} {p q B : Rat}

theorem R_add (hx : R x p) (hy : R y q) (hb : Nr (p + q) 0 B) (h1 : 1 / 1267650600228229401496703205376 ≤ B) (h2 : B ≤ 1267650600228229401496703205376) :
    ∃ r v, floatBits .add .f64 x y = some r ∧ R r v ∧ Nr v (p + q) (B / 4503599627370496) := by
  obtain ⟨s, m, i, hx, rfl⟩ := hx
  obtain ⟨t, n, j, hy, rfl⟩ := hy
  obtain ⟨z, mag, base, e1, _, e2⟩ := sum_R hx hy
  obtain ⟨v, hv, hn⟩ := write_R z mag base e2 hb h1 h2
  refine ⟨_, v, ?_, hv, hn⟩
  show (((double.read x).sum (double.read y)).map double.write) = _
  rw [e1]; rfl

theorem R_add_exact (hx : R x p) (hy : R y q) (n : Int) (e : Int) (hq : p + q = (n : Rat) * two e) (hn : n.natAbs < 9007199254740992) (he : -1074 ≤ e) (he' : e ≤ 900) :
    ∃ r, floatBits .add .f64 x y = some r ∧ R r (p + q) := by
  obtain ⟨s, m, i, hx, rfl⟩ := hx
  obtain ⟨t, n', j, hy, rfl⟩ := hy
  obtain ⟨z, mag, base, e1, _, e2⟩ := sum_R hx hy
  refine ⟨_, ?_, write_exact z mag base e2 n e hq hn he he'⟩
  show (((double.read x).sum (double.read y)).map double.write) = _
  rw [e1]; rfl

theorem opp (t : Bool) (n : Nat) (j : Int) : (Datum.number t n j).opposite = .number (!t) n j := rfl
theorem sg_not (t : Bool) (q : Rat) : sg (!t) q = -sg t q := by cases t <;> simp [sg, Rat.neg_neg]

theorem R_sub (hx : R x p) (hy : R y q) (hb : Nr (p - q) 0 B) (h1 : 1 / 1267650600228229401496703205376 ≤ B) (h2 : B ≤ 1267650600228229401496703205376) :
    ∃ r v, floatBits .sub .f64 x y = some r ∧ R r v ∧ Nr v (p - q) (B / 4503599627370496) := by
  obtain ⟨s, m, i, hx, rfl⟩ := hx
  obtain ⟨t, n, j, hy, rfl⟩ := hy
  obtain ⟨z, mag, base, e1, _, e2⟩ := sum_R hx (show (double.read y).opposite = _ by rw [hy, opp])
  rw [sg_not, ← Rat.sub_eq_add_neg] at e2
  obtain ⟨v, hv, hn⟩ := write_R z mag base e2 hb h1 h2
  refine ⟨_, v, ?_, hv, hn⟩
  show (((double.read x).sum (double.read y).opposite).map double.write) = _
  rw [e1]; rfl

theorem R_sub_exact (hx : R x p) (hy : R y q) (n : Int) (e : Int) (hq : p - q = (n : Rat) * two e) (hn : n.natAbs < 9007199254740992) (he : -1074 ≤ e) (he' : e ≤ 900) :
    ∃ r, floatBits .sub .f64 x y = some r ∧ R r (p - q) := by
  obtain ⟨s, m, i, hx, rfl⟩ := hx
  obtain ⟨t, n', j, hy, rfl⟩ := hy
  obtain ⟨z, mag, base, e1, _, e2⟩ := sum_R hx (show (double.read y).opposite = _ by rw [hy, opp])
  rw [sg_not, ← Rat.sub_eq_add_neg] at e2
  refine ⟨_, ?_, write_exact z mag base e2 n e hq hn he he'⟩
  show (((double.read x).sum (double.read y).opposite).map double.write) = _
  rw [e1]; rfl

theorem prod_val (s t : Bool) (m n : Nat) (i j : Int) : sg (s ^^ t) (((m * n : Nat) : Rat) * two (i + j)) = sg s ((m : Rat) * two i) * sg t ((n : Rat) * two j) := by
  rw [← sg_xor]
  congr 1
  rw [two_add, Rat.natCast_mul]
  grind

theorem R_mul (hx : R x p) (hy : R y q) (hb : Nr (p * q) 0 B) (h1 : 1 / 1267650600228229401496703205376 ≤ B) (h2 : B ≤ 1267650600228229401496703205376) :
    ∃ r v, floatBits .mul .f64 x y = some r ∧ R r v ∧ Nr v (p * q) (B / 4503599627370496) := by
  obtain ⟨s, m, i, hx, rfl⟩ := hx
  obtain ⟨t, n, j, hy, rfl⟩ := hy
  obtain ⟨v, hv, hn⟩ := write_R (s ^^ t) (m * n) (i + j) (prod_val s t m n i j) hb h1 h2
  refine ⟨_, v, ?_, hv, hn⟩
  show (((double.read x).product (double.read y)).map double.write) = _
  rw [hx, hy]; rfl

theorem R_mul_exact (hx : R x p) (hy : R y q) (n : Int) (e : Int) (hq : p * q = (n : Rat) * two e) (hn : n.natAbs < 9007199254740992) (he : -1074 ≤ e) (he' : e ≤ 900) :
    ∃ r, floatBits .mul .f64 x y = some r ∧ R r (p * q) := by
  obtain ⟨s, m, i, hx, rfl⟩ := hx
  obtain ⟨t, n', j, hy, rfl⟩ := hy
  refine ⟨_, ?_, write_exact (s ^^ t) (m * n') (i + j) (prod_val s t m n' i j) n e hq hn he he'⟩
  show (((double.read x).product (double.read y)).map double.write) = _
  rw [hx, hy]; rfl

end ops

/-- The quotient's digits: as near to the exact quotient as 54 of them tell. -/
theorem quotient_near (m n : Nat) (i j : Int) (hn : 0 < n) :
    ∃ (A : Nat) (base : Int), (∀ s t, (Datum.number s m i).quotient 54 (.number t n j) = some (.number (s ^^ t) A base)) ∧
      Nr ((A : Rat) * two base) ((m : Rat) * two i / ((n : Rat) * two j)) ((m : Rat) * two i / ((n : Rat) * two j) / 18014398509481984) := by
  have hn0 : n ≠ 0 := by omega
  refine ⟨_, _, fun s t => by unfold Datum.quotient; dsimp only; rw [if_neg hn0], ?_⟩
  generalize hmore : 54 + n.log2 - m.log2 = more
  rw [Nat.shiftLeft_eq]
  rcases Nat.eq_zero_or_pos m with rfl | hm
  · have z : (((0 : Nat) : Rat)) = 0 := rfl
    rw [Nat.zero_mul, Nat.zero_div, Nat.zero_mod]
    simp only [bne_self_eq_false, Bool.toNat_false, Nat.mul_zero, Nat.add_zero]
    rw [z, Rat.zero_mul, Rat.zero_mul, Rat.div_def, Rat.zero_mul]
    exact Nr.refl (by decide +kernel)
  generalize hD : m * 2 ^ more = D
  have hdm : n * (D / n) + D % n = D := Nat.div_add_mod ..
  have hr : D % n < n := Nat.mod_lt _ hn
  have hbig : n * 2 ^ 53 ≤ D := by
    have h1 := Nat.log2_self_le (n := m) (by omega)
    have h2 := Nat.lt_log2_self (n := n)
    have h3 : 2 ^ (m.log2 + more) ≤ D := by
      rw [Nat.pow_add, ← hD]; exact Nat.mul_le_mul_right _ h1
    have h4 : 2 ^ (n.log2 + 1 + 53) ≤ 2 ^ (m.log2 + more) := Nat.pow_le_pow_right (by omega) (by omega)
    have h5 : n * 2 ^ 53 ≤ 2 ^ (n.log2 + 1 + 53) := by
      rw [Nat.pow_add 2 (n.log2 + 1)]; exact Nat.mul_le_mul_right _ (by omega)
    omega
  generalize hA : 2 * (D / n) + (D % n != 0).toNat = A
  have hAn : A * n ≤ 2 * D + n ∧ 2 * D ≤ A * n + n := by
    have e : A * n = 2 * (n * (D / n)) + (D % n != 0).toNat * n := by rw [← hA]; grind
    rw [e]
    rcases Nat.eq_zero_or_pos (D % n) with h | h
    · rw [h]
      have : ((0 : Nat) != 0) = false := rfl
      rw [this, Bool.toNat_false, Nat.zero_mul]
      omega
    · have : ((D % n) != 0) = true := by simp; omega
      rw [this, Bool.toNat_true, Nat.one_mul]
      omega
  generalize hT : i - j - (more : Int) - 1 = base
  have hi : two i = two j * two base * (2 * ((2 ^ more : Nat) : Rat)) := by
    rw [← two_nat, ← two_succ, ← two_add, ← two_add]
    congr 1
    omega
  have hnp : (0 : Rat) < n := Rat.natCast_pos.2 hn
  have hjp := two_pos j
  have hbp := two_pos base
  have hne : (n : Rat) * two j ≠ 0 := Rat.ne_of_gt (Rat.mul_pos hnp hjp)
  generalize ha : (m : Rat) * two i / ((n : Rat) * two j) = a
  have han : a * (n : Rat) = 2 * (D : Rat) * two base := by
    have h1 : a * ((n : Rat) * two j) = (m : Rat) * two i := by rw [← ha]; exact Rat.div_mul_cancel hne
    have h2 : (D : Rat) = (m : Rat) * ((2 ^ more : Nat) : Rat) := by rw [← hD, Rat.natCast_mul]
    have h3 : (a * (n : Rat)) * two j = (2 * (D : Rat) * two base) * two j := by
      rw [h2]
      rw [hi] at h1
      grind
    have h4 := two_ne j
    have h5 := congrArg (· * (two j)⁻¹) h3
    simp only [Rat.mul_assoc, Rat.mul_inv_cancel _ h4, Rat.mul_one] at h5
    rw [Rat.mul_assoc]
    exact h5
  have c1 : ((A * n : Nat) : Rat) ≤ ((2 * D + n : Nat) : Rat) := Rat.natCast_le_natCast.2 hAn.1
  have c2 : ((2 * D : Nat) : Rat) ≤ ((A * n + n : Nat) : Rat) := Rat.natCast_le_natCast.2 hAn.2
  have c3 : ((n * 2 ^ 53 : Nat) : Rat) ≤ (D : Rat) := Rat.natCast_le_natCast.2 hbig
  simp only [Rat.natCast_add, Rat.natCast_mul] at c1 c2 c3
  have t2 : ((2 : Nat) : Rat) = 2 := rfl
  have t53 : ((2 ^ 53 : Nat) : Rat) = 9007199254740992 := by decide +kernel
  rw [t2] at c1 c2
  rw [t53] at c3
  generalize two base = T at *
  generalize (D : Rat) = D' at *
  generalize (A : Rat) = A' at *
  generalize (n : Rat) = n' at *
  have k1 := Rat.mul_le_mul_of_nonneg_right c1 (Rat.le_of_lt hbp)
  have k2 := Rat.mul_le_mul_of_nonneg_right c2 (Rat.le_of_lt hbp)
  have k3 := Rat.mul_le_mul_of_nonneg_right c3 (Rat.le_of_lt hbp)
  have g : ∀ u v : Rat, u * n' ≤ v * n' → u ≤ v := fun u v h => Rat.le_of_mul_le_mul_right h hnp
  constructor
  · apply g
    grind
  · apply g
    grind

theorem R_div {x y : Nat} {p q B : Rat} (hx : R x p) (hy : R y q) (hq : q ≠ 0) (hb : Nr (p / q) 0 B) (h1 : 1 / 1267650600228229401496703205376 ≤ B) (h2 : B ≤ 1267650600228229401496703205376 / 2) :
    ∃ r v, floatBits .quo .f64 x y = some r ∧ R r v ∧ Nr v (p / q) (B / 2251799813685248) := by
  obtain ⟨s, m, i, hx, rfl⟩ := hx
  obtain ⟨t, n, j, hy, rfl⟩ := hy
  have hn : 0 < n := by
    rcases Nat.eq_zero_or_pos n with rfl | h
    · exfalso; apply hq
      have z : (((0 : Nat) : Rat)) = 0 := rfl
      rw [z, Rat.zero_mul, sg_zero]
    · exact h
  obtain ⟨A, base, e1, e2⟩ := quotient_near m n i j hn
  have hnp : (0 : Rat) < n := Rat.natCast_pos.2 hn
  have hne : (n : Rat) * two j ≠ 0 := Rat.ne_of_gt (Rat.mul_pos hnp (two_pos j))
  have hdiv : sg s ((m : Rat) * two i) / sg t ((n : Rat) * two j) = sg (s ^^ t) ((m : Rat) * two i / ((n : Rat) * two j)) := by
    generalize (m : Rat) * two i = a at *
    generalize (n : Rat) * two j = b at *
    cases s <;> cases t <;> simp [sg] <;> grind
  rw [hdiv] at hb ⊢
  have ha0 : 0 ≤ (m : Rat) * two i / ((n : Rat) * two j) := by
    rw [Rat.div_def]
    exact Rat.mul_nonneg (mag_nonneg m i) (Rat.le_of_lt (Rat.inv_pos.2 (Rat.mul_pos hnp (two_pos j))))
  have hle := abs_of_sg hb
  generalize (m : Rat) * two i / ((n : Rat) * two j) = a at *
  have h3 : (1267650600228229401496703205376 : Rat) ≤ two 1000 := by decide +kernel
  obtain ⟨d1, d2⟩ := e2
  obtain ⟨v, hv, hnr⟩ := nearest_R (s ^^ t) A base (by grind)
  refine ⟨_, v, ?_, hv, ?_⟩
  · show (((double.read x).quotient 54 (double.read y)).map double.write) = _
    rw [hx, hy, e1]; rfl
  · have c1 := err_le (a := (A : Rat) * two base) (B := B + B / 18014398509481984) (by grind) (by grind)
    have f1 := hnr.mono c1
    have f2 := (Nr.sg ⟨d1, d2⟩ (s ^^ t) : Nr (sg (s ^^ t) ((A : Rat) * two base)) (sg (s ^^ t) a) (a / 18014398509481984))
    obtain ⟨f11, f12⟩ := f1
    obtain ⟨f21, f22⟩ := f2
    constructor <;> grind

/-- How two finite words stand to each other. -/
theorem order_R {x y : Nat} {p q : Rat} (hx : R x p) (hy : R y q) : double.order x y = some (if p < q then .lt else if p = q then .eq else .gt) := by
  obtain ⟨s, m, i, hx, rfl⟩ := hx
  obtain ⟨t, n, j, hy, rfl⟩ := hy
  unfold Format.order
  rw [hx, hy]
  unfold Datum.order
  dsimp only
  have e1 := signed_two s m (i - min i j).toNat i
  have e2 := signed_two t n (j - min i j).toNat j
  have f1 : i - ((i - min i j).toNat : Int) = min i j := by omega
  have f2 : j - ((j - min i j).toNat : Int) = min i j := by omega
  rw [f1] at e1
  rw [f2] at e2
  rw [← e1, ← e2]
  generalize signed s m (i - min i j).toNat = a
  generalize signed t n (j - min i j).toNat = b
  have hp := two_pos (min i j)
  rcases Int.lt_trichotomy a b with h | h | h
  · have h1 : (a : Rat) * two (min i j) < (b : Rat) * two (min i j) := Rat.mul_lt_mul_of_pos_right (Rat.intCast_lt_intCast.2 h) hp
    rw [if_pos h1]
    congr 1
    exact Int.compare_eq_lt.2 h
  · subst h
    rw [if_neg Rat.lt_irrefl, if_pos rfl]
    congr 1
    exact Int.compare_eq_eq.2 rfl
  · have h1 : (b : Rat) * two (min i j) < (a : Rat) * two (min i j) := Rat.mul_lt_mul_of_pos_right (Rat.intCast_lt_intCast.2 h) hp
    have h2 : ¬ (a : Rat) * two (min i j) < (b : Rat) * two (min i j) := by grind
    have h3 : ¬ (a : Rat) * two (min i j) = (b : Rat) * two (min i j) := by grind
    rw [if_neg h2, if_neg h3]
    congr 1
    exact Int.compare_eq_gt.2 h

section cmp
variable {x y : Nat} {p q : Rat}
theorem cmp_eql (hx : R x p) (hy : R y q) : (double.order x y == some .eq) = decide (p = q) := by
  rw [order_R hx hy]
  by_cases h : p < q
  · have : ¬ p = q := by grind
    simp [h, this]
  · by_cases h' : p = q <;> simp [h, h']
theorem cmp_neq (hx : R x p) (hy : R y q) : (double.order x y != some .eq) = decide (p ≠ q) := by
  rw [bne, cmp_eql hx hy]; simp
theorem cmp_lss (hx : R x p) (hy : R y q) : (double.order x y == some .lt) = decide (p < q) := by
  rw [order_R hx hy]
  by_cases h : p < q
  · simp [h]
  · by_cases h' : p = q <;> simp [h, h']
theorem cmp_gtr (hx : R x p) (hy : R y q) : (double.order x y == some .gt) = decide (q < p) := by
  rw [order_R hx hy]
  by_cases h : p < q
  · have : ¬ q < p := by grind
    simp [h, this]
  · by_cases h' : p = q
    · subst h'; simp [h]
    · have : q < p := by grind
      simp [h, h', this]
theorem cmp_leq (hx : R x p) (hy : R y q) : (double.order x y == some .lt || double.order x y == some .eq) = decide (p ≤ q) := by
  rw [cmp_lss hx hy, cmp_eql hx hy]
  rw [Bool.eq_iff_iff]
  simp only [Bool.or_eq_true, decide_eq_true_eq]
  grind
theorem cmp_geq (hx : R x p) (hy : R y q) : (double.order x y == some .gt || double.order x y == some .eq) = decide (q ≤ p) := by
  rw [cmp_gtr hx hy, cmp_eql hx hy]
  rw [Bool.eq_iff_iff]
  simp only [Bool.or_eq_true, decide_eq_true_eq]
  grind
end cmp

/-- The three kinds of words. -/
theorem kinds (x : Nat) : (∃ q, R x q) ∨ (∃ s, double.read x = .infinity s) ∨ (∃ s f, double.read x = .nan s f) := by
  cases h : double.read x with
  | number s m e => exact .inl ⟨_, s, m, e, h, rfl⟩
  | infinity s => exact .inr (.inl ⟨s, rfl⟩)
  | nan s f => exact .inr (.inr ⟨s, f, rfl⟩)

theorem order_nan {x : Nat} {s : Bool} {f : Nat} (h : double.read x = .nan s f) (y : Nat) : double.order x y = none ∧ double.order y x = none := by
  unfold Format.order
  rw [h]
  cases double.read y <;> exact ⟨rfl, rfl⟩
theorem order_inf {x y : Nat} {s : Bool} {q : Rat} (h : double.read x = .infinity s) (hy : R y q) : double.order x y = some (if s then .lt else .gt) ∧ double.order y x = some (if s then .gt else .lt) := by
  obtain ⟨t, m, e, hy, _⟩ := hy
  unfold Format.order
  rw [h, hy]
  exact ⟨rfl, rfl⟩
theorem order_inf_self {x : Nat} {s : Bool} (h : double.read x = .infinity s) : double.order x x = some .eq := by
  unfold Format.order
  rw [h]
  cases s <;> rfl

/-- A finite word's number has at most 53 digits. -/
theorem R.fits {x : Nat} {q : Rat} (h : R x q) : ∃ (n : Int) (e : Int), q = (n : Rat) * two e ∧ n.natAbs < 9007199254740992 ∧ -1074 ≤ e ∧ e ≤ 971 := by
  obtain ⟨s, m, e, h, rfl⟩ := h
  have hb : double.binade = 4503599627370496 := by decide
  have hi : double.infRung = 9218868437227405312 := by decide
  have hw : double.signWeight = 9223372036854775808 := by decide
  have hp : double.leastPlace = -1074 := by decide
  have hm : m < 9007199254740992 ∧ -1074 ≤ e ∧ e ≤ 971 := by
    unfold Format.read at h
    rw [hb, hi, hw, hp] at h
    dsimp only at h
    split at h
    · cases h; omega
    · split at h
      · cases h; omega
      · split at h <;> cases h
  refine ⟨if s then -(m : Int) else m, e, ?_, by split <;> omega, hm.2⟩
  cases s
  · rfl
  · simp only [sg, if_true]
    rw [Rat.intCast_neg, Rat.neg_mul]; rfl

theorem neg_R {x : Nat} {q : Rat} (h : R x q) : R (Op.negFloat .f64 x) (-q) := by
  obtain ⟨s, m, e, h, rfl⟩ := h
  refine ⟨!s, m, e, ?_, (sg_not s _).symm⟩
  have hw : double.signWeight = 9223372036854775808 := by decide
  have e0 : Op.negFloat .f64 x = x ^^^ 2 ^ 63 := rfl
  have e1 : (x ^^^ 2 ^ 63) % 9223372036854775808 = x % 9223372036854775808 := by
    have := Nat.xor_mod_two_pow (a := x) (b := 2 ^ 63) (n := 63)
    rw [Nat.mod_self, Nat.xor_zero] at this
    exact this
  have e2 : ((x ^^^ 2 ^ 63) / 9223372036854775808 % 2 == 1) = !(x / 9223372036854775808 % 2 == 1) := by
    have h1 : (x ^^^ 2 ^ 63).testBit 63 = !(x.testBit 63) := by
      rw [Nat.testBit_xor, Nat.testBit_two_pow_self]; simp
    rw [Nat.testBit_eq_decide_div_mod_eq, Nat.testBit_eq_decide_div_mod_eq] at h1
    exact h1
  rw [e0]
  unfold Format.read at h ⊢
  rw [hw] at h ⊢
  dsimp only at h ⊢
  rw [e1, e2]
  split at h
  · rename_i h1; rw [if_pos h1]; cases h; rfl
  · rename_i h1
    split at h
    · rename_i h2; rw [if_neg h1, if_pos h2]; cases h; rfl
    · split at h <;> cases h

theorem cut_zero (s : Bool) (n drop : Nat) : Toward.zero.cut s n drop = n / 2 ^ drop := by
  unfold Toward.cut
  rw [Nat.one_shiftLeft]
  dsimp only
  rw [Bool.toNat_false, Nat.add_zero]
  by_cases hd : drop ≤ n.log2 + 2
  · rw [Nat.min_eq_left hd]
  · rw [Nat.min_eq_right (by omega)]
    have hn : n < 2 ^ (n.log2 + 1) := Nat.lt_log2_self
    have h1 : 2 ^ (n.log2 + 1) ≤ 2 ^ (n.log2 + 2) := Nat.pow_le_pow_right (by omega) (by omega)
    have h2 : 2 ^ (n.log2 + 1) ≤ 2 ^ drop := Nat.pow_le_pow_right (by omega) (by omega)
    rw [Nat.div_eq_of_lt (by omega), Nat.div_eq_of_lt (by omega)]

/-- A finite word cut towards zero, within 62 bits. -/
theorem toInt_R {x : Nat} {q : Rat} (h : R x q) (hb : Nr q 0 4611686018427387904) :
    ∃ n : Int, floatToIntVal .f64 x .i64 = some n ∧ (0 ≤ q → (n : Rat) ≤ q ∧ q < (n : Rat) + 1) ∧ (q ≤ 0 → q ≤ (n : Rat) ∧ (n : Rat) - 1 < q) := by
  obtain ⟨s, m, e, h, rfl⟩ := h
  have hle := abs_of_sg hb
  have ht : (double.read x).toInt .zero = some (signed s ((m <<< e.toNat) / 2 ^ (-e).toNat) 0) := by
    unfold Datum.toInt Datum.integral
    rw [h]
    dsimp only
    rw [cut_zero]
  rw [Nat.shiftLeft_eq] at ht
  generalize ha : e.toNat = a at ht
  generalize hd : (-e).toNat = d at ht
  have hval : (m : Rat) * two e = ((m * 2 ^ a : Nat) : Rat) * two (-(d : Int)) := by
    have : -(d : Int) = e - a := by omega
    rw [this, shl_two]
  generalize hM : m * 2 ^ a = M at ht hval
  have hdm : 2 ^ d * (M / 2 ^ d) + M % 2 ^ d = M := Nat.div_add_mod ..
  have hr : M % 2 ^ d < 2 ^ d := Nat.mod_lt _ (Nat.two_pow_pos d)
  generalize hk : M / 2 ^ d = k at ht hdm
  have k1 : k * 2 ^ d ≤ M := by rw [Nat.mul_comm]; omega
  have k2 : M < (k + 1) * 2 ^ d := by rw [Nat.mul_comm, Nat.mul_add]; omega
  have r1 := Rat.mul_le_mul_of_nonneg_right (Rat.natCast_le_natCast.2 k1) (Rat.le_of_lt (two_pos (-(d : Int))))
  have r2 := Rat.mul_lt_mul_of_pos_right (Rat.natCast_lt_natCast.2 k2) (two_pos (-(d : Int)))
  have s1 := shl_two k d 0
  have s2 := shl_two (k + 1) d 0
  rw [Int.zero_sub] at s1 s2
  rw [s1, ← hval, two_zero, Rat.mul_one] at r1
  rw [s2, ← hval, two_zero, Rat.mul_one, Rat.natCast_add] at r2
  have one' : ((1 : Nat) : Rat) = 1 := rfl
  rw [one'] at r2
  generalize (m : Rat) * two e = v at *
  have hk62 : k ≤ 4611686018427387904 := by
    have : (k : Rat) ≤ ((4611686018427387904 : Nat) : Rat) := Rat.le_trans r1 hle
    exact Rat.natCast_le_natCast.1 this
  have hs : signed s k 0 = if s then -(k : Int) else k := by
    unfold signed; rw [Nat.shiftLeft_zero]
  rw [hs] at ht
  refine ⟨if s then -(k : Int) else k, ?_, ?_, ?_⟩
  · unfold floatToIntVal
    show (match (double.read x).toInt .zero with | some n => _ | none => _) = _
    rw [ht]
    dsimp only
    have e1 : IntKind.i64.min = -9223372036854775808 := by decide
    have e2 : IntKind.i64.max = 9223372036854775807 := by decide
    rw [e1, e2, if_pos (by split <;> omega)]
  all_goals
    intro hq
    have kc : ((k : Int) : Rat) = (k : Rat) := rfl
    have kn : (0 : Rat) ≤ (k : Rat) := Rat.natCast_nonneg
    cases s <;> simp only [sg, if_true, Bool.false_eq_true, if_false, Rat.intCast_neg] at hq ⊢ <;> rw [kc] <;> grind

/-- A small integer as a double. -/
theorem ofInt_R (n : Int) (h : n.natAbs < 9007199254740992) : R (floatOfInt .f64 n) (n : Rat) := by
  show R (double.nearest (decide (n < 0)) n.natAbs 0) _
  have h1 := sg_int n (two 0)
  rw [two_zero, Rat.mul_one, Rat.mul_one] at h1
  rw [← h1]
  have := nearest_exact (decide (n < 0)) n.natAbs 0 n.natAbs 0 h (by omega) rfl ?_
  · rw [two_zero, Rat.mul_one] at this
    exact this
  · have h3 : (n.natAbs : Rat) ≤ ((2 ^ 53 : Nat) : Rat) := Rat.natCast_le_natCast.2 (by omega)
    have h4 : ((2 ^ 53 : Nat) : Rat) ≤ two 1000 := by rw [← two_nat]; exact two_le (by omega)
    rw [two_zero, Rat.mul_one]
    exact Rat.le_trans h3 h4

/-- A word whose number is known in closed form. -/
theorem R_lit {x : Nat} {s : Bool} {m : Nat} {e : Int} {q : Rat} (h : double.read x = .number s m e) (hq : q = sg s ((m : Rat) * two e)) : R x q := ⟨s, m, e, h, hq⟩

/-! Words of the program: 0, 1, 64, 10000, 1e-9 and others, as numbers. -/
theorem R_zero : R 0 0 := R_lit (s := false) (m := 0) (e := -1074) (by decide +kernel) (by decide +kernel)
theorem R_one : R 4607182418800017408 1 := R_lit (s := false) (m := 4503599627370496) (e := -52) (by decide +kernel) (by decide +kernel)
theorem R_two : R 4611686018427387904 2 := R_lit (s := false) (m := 4503599627370496) (e := -51) (by decide +kernel) (by decide +kernel)
theorem R_64 : R 4634204016564240384 64 := R_lit (s := false) (m := 4503599627370496) (e := -46) (by decide +kernel) (by decide +kernel)
theorem R_10000 : R 4666723172467343360 10000 := R_lit (s := false) (m := 5497558138880000) (e := -39) (by decide +kernel) (by decide +kernel)
theorem R_m10000 : R 13890095209322119168 (-10000) := R_lit (s := true) (m := 5497558138880000) (e := -39) (by decide +kernel) (by decide +kernel)
theorem R_1000 : R 4652007308841189376 1000 := R_lit (s := false) (m := 8796093022208000) (e := -43) (by decide +kernel) (by decide +kernel)
/-- 1e-9 as a double. -/
def nano : Rat := 4835703278458517 / 4835703278458516698824704
theorem R_nano : R 4472406533629990549 nano := R_lit (s := false) (m := 4835703278458517) (e := -82) (by decide +kernel) (by decide +kernel)

section runs
variable {P : Program} {x y r : Nat} {p q : Rat}
/-- What the walk takes at an operation. -/
theorem run_bin (op : BinOp) (h : floatBits op .f64 x y = some r) : ∀ (t : TypeId) (w : World), (binOp op t (.float .f64 x) (.float .f64 y)).run P w = .ok (.float .f64 r) w :=
  fun t w => run_float_arith w op t .f64 x y r h
theorem f_lss (hx : R x p) (hy : R y q) {b : Bool} (h : decide (p < q) = b) : (FloatKind.f64.format.order x y == some Ordering.lt) = b := h ▸ cmp_lss hx hy
theorem f_leq (hx : R x p) (hy : R y q) {b : Bool} (h : decide (p ≤ q) = b) : (FloatKind.f64.format.order x y == some Ordering.lt || FloatKind.f64.format.order x y == some Ordering.eq) = b := h ▸ cmp_leq hx hy
theorem f_gtr (hx : R x p) (hy : R y q) {b : Bool} (h : decide (q < p) = b) : (FloatKind.f64.format.order x y == some Ordering.gt) = b := h ▸ cmp_gtr hx hy
theorem f_geq (hx : R x p) (hy : R y q) {b : Bool} (h : decide (q ≤ p) = b) : (FloatKind.f64.format.order x y == some Ordering.gt || FloatKind.f64.format.order x y == some Ordering.eq) = b := h ▸ cmp_geq hx hy
theorem f_eql (hx : R x p) (hy : R y q) {b : Bool} (h : decide (p = q) = b) : (FloatKind.f64.format.order x y == some Ordering.eq) = b := h ▸ cmp_eql hx hy
theorem f_neq (hx : R x p) (hy : R y q) {b : Bool} (h : decide (p ≠ q) = b) : (FloatKind.f64.format.order x y != some Ordering.eq) = b := h ▸ cmp_neq hx hy
theorem f_conv (src : TypeId) (hs : (P.underlying src).isSome = true) {n : Int} (dst : TypeId) (hd : P.underlying dst = some (.int .i64)) (h : floatToIntVal .f64 x .i64 = some n) : ∀ w : World, (convert src dst (.float .f64 x)).run P w = .ok (.int .i64 n) w :=
  fun w => run_convert_float_int w src dst .f64 .i64 x n hs hd h
end runs

/-- The magnitude of a number. -/
def ab (q : Rat) : Rat := if q < 0 then -q else q
theorem ab_nonneg (q : Rat) : 0 ≤ ab q := by unfold ab; split <;> grind
theorem ab_nr {a b e : Rat} (h : Nr a b e) : ab (a - b) ≤ e := by obtain ⟨h1, h2⟩ := h; unfold ab; split <;> grind
theorem ab_le {q b : Rat} (h : Nr q 0 b) : ab q ≤ b := by obtain ⟨h1, h2⟩ := h; unfold ab; split <;> grind
theorem nr_ab (q : Rat) : Nr q 0 (ab q) := by unfold ab Nr; split <;> constructor <;> grind

/-- A word made positive, as Go's text does it. -/
theorem R_abs {x : Nat} {q : Rat} (h : R x q) : R (if q < 0 then Op.negFloat .f64 x else x) (ab q) := by
  unfold ab; split
  · exact neg_R h
  · exact h

/-- The road through Near: every operation's answer; two numbers that are near enough are told so. -/
theorem near_road {x y : Nat} {p q : Rat} (hx : R x p) (hy : R y q) (hn : Nr p q (9 / 10000000000 * (1 + ab p))) (hb : Nr p 0 1000000000000) :
    ∃ (d s t : Nat) (v u : Rat), floatBits .sub .f64 x y = some d ∧ R d v ∧ floatBits .add .f64 4607182418800017408 (if p < 0 then Op.negFloat .f64 x else x) = some s ∧
      floatBits .mul .f64 4472406533629990549 s = some t ∧ R t u ∧ ab v ≤ u := by
  have hab := ab_le hb
  have hab0 := ab_nonneg p
  obtain ⟨d, v, d1, d2, d3⟩ := R_sub (B := 9 / 10000000000 * (1 + ab p)) hx hy (by obtain ⟨h1, h2⟩ := hn; constructor <;> grind) (by grind) (by grind)
  obtain ⟨s, σ, s1, s2, s3⟩ := R_add (B := 1 + ab p) R_one (R_abs hx) (by constructor <;> grind) (by grind) (by grind)
  obtain ⟨s31, s32⟩ := s3
  have hnano : nano = 4835703278458517 / 4835703278458516698824704 := rfl
  obtain ⟨t, u, t1, t2, t3⟩ := R_mul (B := 2 / 1000000000 * (1 + ab p)) R_nano s2 (by rw [hnano]; constructor <;> grind) (by grind) (by grind)
  refine ⟨d, s, t, v, u, d1, d2, s1, t1, t2, ?_⟩
  rw [hnano] at t3
  obtain ⟨t31, t32⟩ := t3
  obtain ⟨d31, d32⟩ := d3
  obtain ⟨h1, h2⟩ := hn
  refine ab_le ?_
  constructor <;> grind

/-! Bounds through products and quotients. -/
theorem Nr.mul {a b A C : Rat} (ha : Nr a 0 A) (hb : Nr b 0 C) : Nr (a * b) 0 (A * C) := by
  obtain ⟨a1, a2⟩ := ha
  obtain ⟨b1, b2⟩ := hb
  have k1 := Rat.mul_nonneg (show 0 ≤ A - a by grind) (show 0 ≤ C + b by grind)
  have k2 := Rat.mul_nonneg (show 0 ≤ A + a by grind) (show 0 ≤ C - b by grind)
  have k3 := Rat.mul_nonneg (show 0 ≤ A - a by grind) (show 0 ≤ C - b by grind)
  have k4 := Rat.mul_nonneg (show 0 ≤ A + a by grind) (show 0 ≤ C + b by grind)
  constructor <;> grind
theorem Nr.mul_err {a a' e s S : Rat} (h : Nr a a' e) (hs : Nr s 0 S) : Nr (a * s) (a' * s) (e * S) := by
  have h0 : Nr (a - a') 0 e := by obtain ⟨h1, h2⟩ := h; constructor <;> grind
  obtain ⟨k1, k2⟩ := h0.mul hs
  constructor <;> grind
theorem inv_bound {s c : Rat} (hc : 0 < c) (hs : c ≤ s) : Nr s⁻¹ 0 c⁻¹ := by
  have hs0 : 0 < s := by grind
  have i1 := Rat.inv_pos.2 hs0
  have i2 := Rat.inv_pos.2 hc
  have e1 := Rat.mul_inv_cancel s (Rat.ne_of_gt hs0)
  have e2 := Rat.mul_inv_cancel c (Rat.ne_of_gt hc)
  have k := Rat.mul_le_mul_of_nonneg_right hs (Rat.le_of_lt (Rat.mul_pos i1 i2))
  have e3 : c * (s⁻¹ * c⁻¹) = s⁻¹ := by rw [Rat.mul_comm s⁻¹, ← Rat.mul_assoc, e2, Rat.one_mul]
  have e4 : s * (s⁻¹ * c⁻¹) = c⁻¹ := by rw [← Rat.mul_assoc, e1, Rat.one_mul]
  rw [e3, e4] at k
  generalize s⁻¹ = a at *
  generalize c⁻¹ = b at *
  constructor <;> grind
theorem Nr.div {a A s c : Rat} (ha : Nr a 0 A) (hc : 0 < c) (hs : c ≤ s) : Nr (a / s) 0 (A / c) := by
  rw [Rat.div_def, Rat.div_def]
  exact ha.mul (inv_bound hc hs)
theorem Nr.div_err {a a' e s c : Rat} (h : Nr a a' e) (hc : 0 < c) (hs : c ≤ s) : Nr (a / s) (a' / s) (e / c) := by
  rw [Rat.div_def, Rat.div_def, Rat.div_def]
  exact h.mul_err (inv_bound hc hs)
theorem Nr.trans {a b c e f : Rat} (h : Nr a b e) (h' : Nr b c f) : Nr a c (e + f) := by
  obtain ⟨h1, h2⟩ := h
  obtain ⟨h3, h4⟩ := h'
  constructor <;> grind
theorem Nr.symm {a b e : Rat} (h : Nr a b e) : Nr b a e := ⟨h.2, h.1⟩
theorem Nr.sub0 {a b e A : Rat} (h : Nr a b e) (hb : Nr b 0 A) : Nr a 0 (A + e) := by
  obtain ⟨h1, h2⟩ := h
  obtain ⟨h3, h4⟩ := hb
  constructor <;> grind
theorem small_nr {n : Int} (h1 : -640000 ≤ n) (h2 : n ≤ 640000) : Nr ((n : Rat) / 64) 0 10000 := by
  have a1 := Rat.intCast_le_intCast.2 h1
  have a2 := Rat.intCast_le_intCast.2 h2
  have z1 : ((-640000 : Int) : Rat) = -640000 := rfl
  have z2 : ((640000 : Int) : Rat) = 640000 := rfl
  rw [z1] at a1
  rw [z2] at a2
  constructor <;> grind
theorem small_pos {n : Int} (h : 0 < (n : Rat) / 64) : 1 ≤ n ∧ (1 : Rat) / 64 ≤ (n : Rat) / 64 := by
  have h1 : (0 : Rat) < (n : Rat) := by grind
  have h2 := Rat.intCast_pos.1 h1
  have h3 : ((1 : Int) : Rat) ≤ (n : Rat) := Rat.intCast_le_intCast.2 (by omega)
  have z : ((1 : Int) : Rat) = 1 := rfl
  rw [z] at h3
  exact ⟨by omega, by grind⟩

/-- The word x is finite; it stands for a number that is within E of the exact v; v is at most M from 0. -/
def Ap (x : Nat) (v M E : Rat) : Prop := ∃ q, R x q ∧ Nr q v E ∧ Nr v 0 M
theorem Ap.of {x : Nat} {v M : Rat} (h : R x v) (hm : Nr v 0 M) : Ap x v M 0 := ⟨v, h, Nr.refl Rat.le_refl, hm⟩
theorem Ap.mono {x : Nat} {v M E M' E' : Rat} (h : Ap x v M E) (hm : M ≤ M') (he : E ≤ E') : Ap x v M' E' := by
  obtain ⟨q, h1, h2, h3⟩ := h
  exact ⟨q, h1, h2.mono he, h3.mono hm⟩
theorem Ap.eq {x : Nat} {v v' M E : Rat} (h : Ap x v M E) (e : v = v') : Ap x v' M E := e ▸ h
theorem Nr.nonneg {a b e : Rat} (h : Nr a b e) : 0 ≤ e := by obtain ⟨h1, h2⟩ := h; grind
theorem Nr.add {a b c d e f : Rat} (h : Nr a b e) (h' : Nr c d f) : Nr (a + c) (b + d) (e + f) := by
  obtain ⟨h1, h2⟩ := h
  obtain ⟨h3, h4⟩ := h'
  constructor <;> grind
theorem Nr.sub {a b c d e f : Rat} (h : Nr a b e) (h' : Nr c d f) : Nr (a - c) (b - d) (e + f) := by
  obtain ⟨h1, h2⟩ := h
  obtain ⟨h3, h4⟩ := h'
  constructor <;> grind
theorem Nr.sum0 {a b A B : Rat} (h : Nr a 0 A) (h' : Nr b 0 B) : Nr (a + b) 0 (A + B) := by
  obtain ⟨h1, h2⟩ := h
  obtain ⟨h3, h4⟩ := h'
  constructor <;> grind
theorem Nr.dif0 {a b A B : Rat} (h : Nr a 0 A) (h' : Nr b 0 B) : Nr (a - b) 0 (A + B) := by
  obtain ⟨h1, h2⟩ := h
  obtain ⟨h3, h4⟩ := h'
  constructor <;> grind

section ap
variable {x y : Nat} {v u M N E F : Rat}
theorem Ap.add (hx : Ap x v M E) (hy : Ap y u N F) (M' E' : Rat) (h : M + N ≤ M' ∧ E + F + (M + N + E + F + 1) / 4503599627370496 ≤ E' ∧ M + N + E + F ≤ 1000000000000000000000000) :
    ∃ r, floatBits .add .f64 x y = some r ∧ Ap r (v + u) M' E' := by
  obtain ⟨p, a1, a2, a3⟩ := hx
  obtain ⟨q, b1, b2, b3⟩ := hy
  have e0 := a2.nonneg
  have f0 := b2.nonneg
  have m0 := a3.nonneg
  have n0 := b3.nonneg
  have s := ((a2.sub0 a3).sum0 (b2.sub0 b3))
  obtain ⟨r, z, r1, r2, r3⟩ := R_add (B := M + N + E + F + 1) a1 b1 (s.mono (by grind)) (by grind) (by grind)
  exact ⟨r, r1, z, r2, ((r3.trans (a2.add b2)).mono (by grind)), (a3.sum0 b3).mono h.1⟩
theorem Ap.sub (hx : Ap x v M E) (hy : Ap y u N F) (M' E' : Rat) (h : M + N ≤ M' ∧ E + F + (M + N + E + F + 1) / 4503599627370496 ≤ E' ∧ M + N + E + F ≤ 1000000000000000000000000) :
    ∃ r, floatBits .sub .f64 x y = some r ∧ Ap r (v - u) M' E' := by
  obtain ⟨p, a1, a2, a3⟩ := hx
  obtain ⟨q, b1, b2, b3⟩ := hy
  have e0 := a2.nonneg
  have f0 := b2.nonneg
  have m0 := a3.nonneg
  have n0 := b3.nonneg
  have s := ((a2.sub0 a3).dif0 (b2.sub0 b3))
  obtain ⟨r, z, r1, r2, r3⟩ := R_sub (B := M + N + E + F + 1) a1 b1 (s.mono (by grind)) (by grind) (by grind)
  exact ⟨r, r1, z, r2, ((r3.trans (a2.sub b2)).mono (by grind)), (a3.dif0 b3).mono h.1⟩
theorem Ap.mul (hx : Ap x v M E) (hy : Ap y u N F) (M' E' : Rat) (h : M * N ≤ M' ∧ E * (N + F) + M * F + ((M + E) * (N + F) + 1) / 4503599627370496 ≤ E' ∧ (M + E) * (N + F) ≤ 1000000000000000000000000) :
    ∃ r, floatBits .mul .f64 x y = some r ∧ Ap r (v * u) M' E' := by
  obtain ⟨p, a1, a2, a3⟩ := hx
  obtain ⟨q, b1, b2, b3⟩ := hy
  have s := (a2.sub0 a3).mul (b2.sub0 b3)
  have s0 := s.nonneg
  have t1 : Nr (p * q) (v * q) (E * (N + F)) := a2.mul_err (b2.sub0 b3)
  have t2 : Nr (v * q) (v * u) (M * F) := by
    have := b2.mul_err a3
    rw [Rat.mul_comm q, Rat.mul_comm u, Rat.mul_comm F] at this
    exact this
  obtain ⟨r, z, r1, r2, r3⟩ := R_mul (B := (M + E) * (N + F) + 1) a1 b1 (s.mono (by grind)) (by grind) (by grind)
  exact ⟨r, r1, z, r2, ((r3.trans (t1.trans t2)).mono (by grind)), (a3.mul b3).mono h.1⟩
/-- Division by a number that is at least c, c above the error. -/
theorem Ap.div (hx : Ap x v M E) (hy : Ap y u N F) (c : Rat) (hc : c ≤ u) (M' E' : Rat)
    (h : F < c ∧ M / c ≤ M' ∧ E / (c - F) + M * (F / (c - F) / c) + ((M + E) / (c - F) + 1) / 2251799813685248 ≤ E' ∧ (M + E) / (c - F) ≤ 1000000000000000000000000) :
    ∃ r, floatBits .quo .f64 x y = some r ∧ Ap r (v / u) M' E' := by
  obtain ⟨p, a1, a2, a3⟩ := hx
  obtain ⟨q, b1, b2, b3⟩ := hy
  have f0 := b2.nonneg
  have hq : c - F ≤ q := by obtain ⟨h1, h2⟩ := b2; grind
  have hcF : 0 < c - F := by grind
  have hc0 : 0 < c := by grind
  have hu0 : u ≠ 0 := by grind
  have hq0 : q ≠ 0 := by grind
  have s := (a2.sub0 a3).div hcF hq
  have s0 := s.nonneg
  have t1 : Nr (p / q) (v / q) (E / (c - F)) := a2.div_err hcF hq
  have t2 : Nr (v / q) (v / u) (M * (F / (c - F) / c)) := by
    have k : Nr (1 / q) (1 / u) (F / (c - F) / c) := by
      have e1 : 1 / q - 1 / u = (u - q) / q / u := by
        rw [Rat.div_def, Rat.div_def, Rat.div_def, Rat.div_def, Rat.one_mul, Rat.one_mul]
        have i1 := Rat.mul_inv_cancel q hq0
        have i2 := Rat.mul_inv_cancel u hu0
        generalize q⁻¹ = a at *
        generalize u⁻¹ = b at *
        have : (u - q) * a * b = (u * b) * a - (q * a) * b := by grind
        rw [this, i1, i2]
        grind
      have d0 : Nr (u - q) 0 F := by obtain ⟨h1, h2⟩ := b2; constructor <;> grind
      have d1 := (d0.div hcF hq).div hc0 hc
      rw [← e1] at d1
      obtain ⟨h1, h2⟩ := d1
      constructor <;> grind
    have := k.mul_err a3
    have f1 : 1 / q * v = v / q := by rw [Rat.div_def, Rat.div_def, Rat.one_mul, Rat.mul_comm]
    have f2 : 1 / u * v = v / u := by rw [Rat.div_def, Rat.div_def, Rat.one_mul, Rat.mul_comm]
    rw [f1, f2, Rat.mul_comm _ M] at this
    exact this
  obtain ⟨r, z, r1, r2, r3⟩ := R_div (B := (M + E) / (c - F) + 1) a1 b1 hq0 (s.mono (by grind)) (by grind) (by grind)
  exact ⟨r, r1, z, r2, ((r3.trans (t1.trans t2)).mono (by grind)), (a3.div hc0 hc).mono h.2.1⟩
theorem Ap.neg (hx : Ap x v M E) : Ap (Op.negFloat .f64 x) (-v) M E := by
  obtain ⟨p, a1, ⟨a2, a3⟩, a4, a5⟩ := hx
  exact ⟨-p, neg_R a1, ⟨by grind, by grind⟩, by grind, by grind⟩
end ap
theorem Ap.one : Ap 4607182418800017408 1 1 0 := Ap.of R_one ⟨by decide +kernel, by decide +kernel⟩
theorem Ap.two : Ap 4611686018427387904 2 2 0 := Ap.of R_two ⟨by decide +kernel, by decide +kernel⟩
theorem Ap.zero : Ap 0 0 0 0 := Ap.of R_zero ⟨by decide +kernel, by decide +kernel⟩
theorem Ap.k1000 : Ap 4652007308841189376 1000 1000 0 := Ap.of R_1000 ⟨by decide +kernel, by decide +kernel⟩
theorem Ap.small {x : Nat} {n : Int} (h : R x ((n : Rat) / 64)) (h1 : -640000 ≤ n) (h2 : n ≤ 640000) : Ap x ((n : Rat) / 64) 10000 0 := Ap.of h (small_nr h1 h2)

end Go.Proofs.Ytooghncdhjdcpaa.Fl
