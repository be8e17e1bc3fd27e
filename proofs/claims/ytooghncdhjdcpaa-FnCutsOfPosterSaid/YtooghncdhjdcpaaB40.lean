/-
FnCutsOfPoster: math.Round at words from 0 to 256. Conditions: a finite positive word.
-/
import Derived.Test.YtooghncdhjdcpaaA6
import Derived.Laws.BitsAll
import Derived.Laws.Externs
import Derived.Below
namespace Go.Proofs.Ytooghncdhjdcpaa
open Go.RowKit Fl Ieee
set_option linter.unusedSimpArgs false
set_option linter.unusedVariables false

theorem made_0 (s : Nat) (hs : s ≤ 1) : R (4607182418800017408 + s * 4503599627370496) (((1 + s : Nat) : Int) : Rat) := by
  have h := read_word false (4503599627370496 + s * 4503599627370496) 1022 (by omega) (.inr (Nat.le_add_right _ _)) (by omega)
  have e : double.word false (min (1022 * double.binade + (4503599627370496 + s * 4503599627370496)) double.infRung) = 4607182418800017408 + s * 4503599627370496 := by
    rw [show double.binade = 4503599627370496 from by decide, show double.infRung = 9218868437227405312 from by decide, Nat.min_eq_left (by omega)]
    show 1022 * 4503599627370496 + (4503599627370496 + s * 4503599627370496) = _
    omega
  rw [e] at h
  have t : two (((1022 : Nat) : Int) - 1074) = 1 / 4503599627370496 := by decide +kernel
  rw [t] at h
  have v : sg false (((4503599627370496 + s * 4503599627370496 : Nat) : Rat) * (1 / 4503599627370496)) = (((1 + s : Nat) : Int) : Rat) := by
    show ((4503599627370496 + s * 4503599627370496 : Nat) : Rat) * (1 / 4503599627370496) = _
    rw [Rat.intCast_natCast, Rat.natCast_add, Rat.natCast_add, Rat.natCast_mul]
    have z1 : ((4503599627370496 : Nat) : Rat) = 4503599627370496 := rfl
    have z2 : ((4503599627370496 : Nat) : Rat) = 4503599627370496 := rfl
    have z3 : ((1 : Nat) : Rat) = 1 := rfl
    simp only [z1, z2, z3]
    grind
  rw [v] at h
  exact h
theorem made_1 (s : Nat) (hs : s ≤ 2) : R (4611686018427387904 + s * 2251799813685248) (((2 + s : Nat) : Int) : Rat) := by
  have h := read_word false (4503599627370496 + s * 2251799813685248) 1023 (by omega) (.inr (Nat.le_add_right _ _)) (by omega)
  have e : double.word false (min (1023 * double.binade + (4503599627370496 + s * 2251799813685248)) double.infRung) = 4611686018427387904 + s * 2251799813685248 := by
    rw [show double.binade = 4503599627370496 from by decide, show double.infRung = 9218868437227405312 from by decide, Nat.min_eq_left (by omega)]
    show 1023 * 4503599627370496 + (4503599627370496 + s * 2251799813685248) = _
    omega
  rw [e] at h
  have t : two (((1023 : Nat) : Int) - 1074) = 1 / 2251799813685248 := by decide +kernel
  rw [t] at h
  have v : sg false (((4503599627370496 + s * 2251799813685248 : Nat) : Rat) * (1 / 2251799813685248)) = (((2 + s : Nat) : Int) : Rat) := by
    show ((4503599627370496 + s * 2251799813685248 : Nat) : Rat) * (1 / 2251799813685248) = _
    rw [Rat.intCast_natCast, Rat.natCast_add, Rat.natCast_add, Rat.natCast_mul]
    have z1 : ((4503599627370496 : Nat) : Rat) = 4503599627370496 := rfl
    have z2 : ((2251799813685248 : Nat) : Rat) = 2251799813685248 := rfl
    have z3 : ((2 : Nat) : Rat) = 2 := rfl
    simp only [z1, z2, z3]
    grind
  rw [v] at h
  exact h
theorem made_2 (s : Nat) (hs : s ≤ 4) : R (4616189618054758400 + s * 1125899906842624) (((4 + s : Nat) : Int) : Rat) := by
  have h := read_word false (4503599627370496 + s * 1125899906842624) 1024 (by omega) (.inr (Nat.le_add_right _ _)) (by omega)
  have e : double.word false (min (1024 * double.binade + (4503599627370496 + s * 1125899906842624)) double.infRung) = 4616189618054758400 + s * 1125899906842624 := by
    rw [show double.binade = 4503599627370496 from by decide, show double.infRung = 9218868437227405312 from by decide, Nat.min_eq_left (by omega)]
    show 1024 * 4503599627370496 + (4503599627370496 + s * 1125899906842624) = _
    omega
  rw [e] at h
  have t : two (((1024 : Nat) : Int) - 1074) = 1 / 1125899906842624 := by decide +kernel
  rw [t] at h
  have v : sg false (((4503599627370496 + s * 1125899906842624 : Nat) : Rat) * (1 / 1125899906842624)) = (((4 + s : Nat) : Int) : Rat) := by
    show ((4503599627370496 + s * 1125899906842624 : Nat) : Rat) * (1 / 1125899906842624) = _
    rw [Rat.intCast_natCast, Rat.natCast_add, Rat.natCast_add, Rat.natCast_mul]
    have z1 : ((4503599627370496 : Nat) : Rat) = 4503599627370496 := rfl
    have z2 : ((1125899906842624 : Nat) : Rat) = 1125899906842624 := rfl
    have z3 : ((4 : Nat) : Rat) = 4 := rfl
    simp only [z1, z2, z3]
    grind
  rw [v] at h
  exact h
theorem made_3 (s : Nat) (hs : s ≤ 8) : R (4620693217682128896 + s * 562949953421312) (((8 + s : Nat) : Int) : Rat) := by
  have h := read_word false (4503599627370496 + s * 562949953421312) 1025 (by omega) (.inr (Nat.le_add_right _ _)) (by omega)
  have e : double.word false (min (1025 * double.binade + (4503599627370496 + s * 562949953421312)) double.infRung) = 4620693217682128896 + s * 562949953421312 := by
    rw [show double.binade = 4503599627370496 from by decide, show double.infRung = 9218868437227405312 from by decide, Nat.min_eq_left (by omega)]
    show 1025 * 4503599627370496 + (4503599627370496 + s * 562949953421312) = _
    omega
  rw [e] at h
  have t : two (((1025 : Nat) : Int) - 1074) = 1 / 562949953421312 := by decide +kernel
  rw [t] at h
  have v : sg false (((4503599627370496 + s * 562949953421312 : Nat) : Rat) * (1 / 562949953421312)) = (((8 + s : Nat) : Int) : Rat) := by
    show ((4503599627370496 + s * 562949953421312 : Nat) : Rat) * (1 / 562949953421312) = _
    rw [Rat.intCast_natCast, Rat.natCast_add, Rat.natCast_add, Rat.natCast_mul]
    have z1 : ((4503599627370496 : Nat) : Rat) = 4503599627370496 := rfl
    have z2 : ((562949953421312 : Nat) : Rat) = 562949953421312 := rfl
    have z3 : ((8 : Nat) : Rat) = 8 := rfl
    simp only [z1, z2, z3]
    grind
  rw [v] at h
  exact h
theorem made_4 (s : Nat) (hs : s ≤ 16) : R (4625196817309499392 + s * 281474976710656) (((16 + s : Nat) : Int) : Rat) := by
  have h := read_word false (4503599627370496 + s * 281474976710656) 1026 (by omega) (.inr (Nat.le_add_right _ _)) (by omega)
  have e : double.word false (min (1026 * double.binade + (4503599627370496 + s * 281474976710656)) double.infRung) = 4625196817309499392 + s * 281474976710656 := by
    rw [show double.binade = 4503599627370496 from by decide, show double.infRung = 9218868437227405312 from by decide, Nat.min_eq_left (by omega)]
    show 1026 * 4503599627370496 + (4503599627370496 + s * 281474976710656) = _
    omega
  rw [e] at h
  have t : two (((1026 : Nat) : Int) - 1074) = 1 / 281474976710656 := by decide +kernel
  rw [t] at h
  have v : sg false (((4503599627370496 + s * 281474976710656 : Nat) : Rat) * (1 / 281474976710656)) = (((16 + s : Nat) : Int) : Rat) := by
    show ((4503599627370496 + s * 281474976710656 : Nat) : Rat) * (1 / 281474976710656) = _
    rw [Rat.intCast_natCast, Rat.natCast_add, Rat.natCast_add, Rat.natCast_mul]
    have z1 : ((4503599627370496 : Nat) : Rat) = 4503599627370496 := rfl
    have z2 : ((281474976710656 : Nat) : Rat) = 281474976710656 := rfl
    have z3 : ((16 : Nat) : Rat) = 16 := rfl
    simp only [z1, z2, z3]
    grind
  rw [v] at h
  exact h
theorem made_5 (s : Nat) (hs : s ≤ 32) : R (4629700416936869888 + s * 140737488355328) (((32 + s : Nat) : Int) : Rat) := by
  have h := read_word false (4503599627370496 + s * 140737488355328) 1027 (by omega) (.inr (Nat.le_add_right _ _)) (by omega)
  have e : double.word false (min (1027 * double.binade + (4503599627370496 + s * 140737488355328)) double.infRung) = 4629700416936869888 + s * 140737488355328 := by
    rw [show double.binade = 4503599627370496 from by decide, show double.infRung = 9218868437227405312 from by decide, Nat.min_eq_left (by omega)]
    show 1027 * 4503599627370496 + (4503599627370496 + s * 140737488355328) = _
    omega
  rw [e] at h
  have t : two (((1027 : Nat) : Int) - 1074) = 1 / 140737488355328 := by decide +kernel
  rw [t] at h
  have v : sg false (((4503599627370496 + s * 140737488355328 : Nat) : Rat) * (1 / 140737488355328)) = (((32 + s : Nat) : Int) : Rat) := by
    show ((4503599627370496 + s * 140737488355328 : Nat) : Rat) * (1 / 140737488355328) = _
    rw [Rat.intCast_natCast, Rat.natCast_add, Rat.natCast_add, Rat.natCast_mul]
    have z1 : ((4503599627370496 : Nat) : Rat) = 4503599627370496 := rfl
    have z2 : ((140737488355328 : Nat) : Rat) = 140737488355328 := rfl
    have z3 : ((32 : Nat) : Rat) = 32 := rfl
    simp only [z1, z2, z3]
    grind
  rw [v] at h
  exact h
theorem made_6 (s : Nat) (hs : s ≤ 64) : R (4634204016564240384 + s * 70368744177664) (((64 + s : Nat) : Int) : Rat) := by
  have h := read_word false (4503599627370496 + s * 70368744177664) 1028 (by omega) (.inr (Nat.le_add_right _ _)) (by omega)
  have e : double.word false (min (1028 * double.binade + (4503599627370496 + s * 70368744177664)) double.infRung) = 4634204016564240384 + s * 70368744177664 := by
    rw [show double.binade = 4503599627370496 from by decide, show double.infRung = 9218868437227405312 from by decide, Nat.min_eq_left (by omega)]
    show 1028 * 4503599627370496 + (4503599627370496 + s * 70368744177664) = _
    omega
  rw [e] at h
  have t : two (((1028 : Nat) : Int) - 1074) = 1 / 70368744177664 := by decide +kernel
  rw [t] at h
  have v : sg false (((4503599627370496 + s * 70368744177664 : Nat) : Rat) * (1 / 70368744177664)) = (((64 + s : Nat) : Int) : Rat) := by
    show ((4503599627370496 + s * 70368744177664 : Nat) : Rat) * (1 / 70368744177664) = _
    rw [Rat.intCast_natCast, Rat.natCast_add, Rat.natCast_add, Rat.natCast_mul]
    have z1 : ((4503599627370496 : Nat) : Rat) = 4503599627370496 := rfl
    have z2 : ((70368744177664 : Nat) : Rat) = 70368744177664 := rfl
    have z3 : ((64 : Nat) : Rat) = 64 := rfl
    simp only [z1, z2, z3]
    grind
  rw [v] at h
  exact h
theorem made_7 (s : Nat) (hs : s ≤ 128) : R (4638707616191610880 + s * 35184372088832) (((128 + s : Nat) : Int) : Rat) := by
  have h := read_word false (4503599627370496 + s * 35184372088832) 1029 (by omega) (.inr (Nat.le_add_right _ _)) (by omega)
  have e : double.word false (min (1029 * double.binade + (4503599627370496 + s * 35184372088832)) double.infRung) = 4638707616191610880 + s * 35184372088832 := by
    rw [show double.binade = 4503599627370496 from by decide, show double.infRung = 9218868437227405312 from by decide, Nat.min_eq_left (by omega)]
    show 1029 * 4503599627370496 + (4503599627370496 + s * 35184372088832) = _
    omega
  rw [e] at h
  have t : two (((1029 : Nat) : Int) - 1074) = 1 / 35184372088832 := by decide +kernel
  rw [t] at h
  have v : sg false (((4503599627370496 + s * 35184372088832 : Nat) : Rat) * (1 / 35184372088832)) = (((128 + s : Nat) : Int) : Rat) := by
    show ((4503599627370496 + s * 35184372088832 : Nat) : Rat) * (1 / 35184372088832) = _
    rw [Rat.intCast_natCast, Rat.natCast_add, Rat.natCast_add, Rat.natCast_mul]
    have z1 : ((4503599627370496 : Nat) : Rat) = 4503599627370496 := rfl
    have z2 : ((35184372088832 : Nat) : Rat) = 35184372088832 := rfl
    have z3 : ((128 : Nat) : Rat) = 128 := rfl
    simp only [z1, z2, z3]
    grind
  rw [v] at h
  exact h
/-- A positive word below 256 taken apart. -/
theorem split_word {x : Nat} {q : Rat} (hx : R x q) (hw : x < 18446744073709551616) (h0 : 0 < q) (h1 : q < 256) :
    (x / 4503599627370496 < 1022 ∧ q < 1 / 2) ∨ (x / 4503599627370496 = 1022 ∧ 1 / 2 ≤ q ∧ q < 1) ∨ ∃ k, k ≤ 7 ∧ x / 4503599627370496 = 1023 + k ∧ q = ((4503599627370496 + x % 4503599627370496 : Nat) : Rat) * two ((k : Int) - 52) := by
  have hb : double.binade = 4503599627370496 := by decide
  have hi : double.infRung = 9218868437227405312 := by decide
  have hws : double.signWeight = 9223372036854775808 := by decide
  have hp : double.leastPlace = -1074 := by decide
  obtain ⟨s, m, e, hr, hq⟩ := hx
  unfold Format.read at hr
  rw [hb, hi, hws, hp] at hr
  dsimp only at hr
  have hpos : 0 ≤ (m : Rat) * two e := Rat.mul_nonneg Rat.natCast_nonneg (Rat.le_of_lt (two_pos e))
  have hs : s = false := by
    cases s
    · rfl
    · exfalso
      rw [hq] at h0
      unfold sg at h0
      rw [if_pos rfl] at h0
      grind
  subst hs
  have hq1 : q = (m : Rat) * two e := hq
  split at hr
  · rename_i hlt
    injection hr with a1 a2 a3
    have hx63 : x < 9223372036854775808 := by
      by_cases c : x / 9223372036854775808 = 0
      · omega
      · have : x / 9223372036854775808 % 2 = 1 := by omega
        rw [this] at a1; cases a1
    left
    refine ⟨by omega, ?_⟩
    subst a2; subst a3
    rw [hq1]
    have hm : ((x % 9223372036854775808 : Nat) : Rat) ≤ ((4503599627370496 : Nat) : Rat) := Rat.natCast_le_natCast.2 (by omega)
    have h2 := Rat.mul_le_mul_of_nonneg_right hm (Rat.le_of_lt (two_pos (-1074)))
    have h3 : ((4503599627370496 : Nat) : Rat) * two (-1074) < 1 / 2 := by
      have e1 : ((4503599627370496 : Nat) : Rat) = two 52 := by decide +kernel
      have e2 : (1 : Rat) / 2 = two (-1) := by decide +kernel
      rw [e1, e2, ← two_add]
      exact two_lt (by omega)
    grind
  · split at hr
    · rename_i hge hlt
      injection hr with a1 a2 a3
      have hx63 : x < 9223372036854775808 := by
        by_cases c : x / 9223372036854775808 = 0
        · omega
        · have : x / 9223372036854775808 % 2 = 1 := by omega
          rw [this] at a1; cases a1
      have hE : x % 9223372036854775808 = x := Nat.mod_eq_of_lt hx63
      rw [hE] at a2 a3 hge hlt
      have e1 : ((4503599627370496 : Nat) : Rat) = two 52 := by decide +kernel
      have m1 : two 52 ≤ (m : Rat) := by rw [← e1]; exact Rat.natCast_le_natCast.2 (by omega)
      have m2 : (m : Rat) < two 53 := by
        rw [show two 53 = ((9007199254740992 : Nat) : Rat) from by decide +kernel]
        exact Rat.natCast_lt_natCast.2 (by omega)
      have l1 := Rat.mul_le_mul_of_nonneg_right m1 (Rat.le_of_lt (two_pos e))
      have l2 := Rat.mul_lt_mul_of_pos_right m2 (two_pos e)
      rw [← two_add, ← hq1] at l1 l2
      have u1 : two (52 + e) < two 8 := Std.lt_of_le_of_lt l1 (by rw [show two 8 = 256 from by decide +kernel]; exact h1)
      have u2 := lt_of_two u1
      rcases Nat.lt_or_ge (x / 4503599627370496) 1022 with c | c
      · left
        refine ⟨c, Std.lt_of_lt_of_le l2 ?_⟩
        rw [show (1 : Rat) / 2 = two (-1) from by decide +kernel]
        exact two_le (by omega)
      · rcases Nat.lt_or_ge 1022 (x / 4503599627370496) with c2 | c2
        · right; right
          refine ⟨x / 4503599627370496 - 1023, by omega, by omega, ?_⟩
          have he : e = ((x / 4503599627370496 - 1023 : Nat) : Int) - 52 := by omega
          rw [hq1, he, a2]
        · right; left
          have ce : x / 4503599627370496 = 1022 := by omega
          have ee : e = -53 := by omega
          rw [ee] at l1 l2
          refine ⟨ce, ?_, ?_⟩
          · rw [show (1 : Rat) / 2 = two (52 + -53) from by decide +kernel]; exact l1
          · exact Std.lt_of_lt_of_le l2 (by decide +kernel)
    · split at hr <;> cases hr
theorem bits_run (x : Nat) (w : World) : (callFunc 116 #[.float .f64 x]).run Try.prog w = .ok (.value (.int .u64 x)) w := by
  rw [run_callFunc_extern (e := Extern.MathFloatBits.float64bits) Try.func116 (by kernel_rfl) (by kernel_rfl) (by kernel_rfl) (by kernel_rfl)]
  rfl
theorem from_run (x : Nat) (w : World) : (callFunc 117 #[.int .u64 (x : Int)]).run Try.prog w = .ok (.value (.float .f64 x)) w := by
  rw [run_callFunc_extern (e := Extern.MathFloatBits.float64frombits) Try.func117 (by kernel_rfl) (by kernel_rfl) (by kernel_rfl) (by kernel_rfl)]
  rfl
theorem and_high {x j : Nat} (hx : x < 2 ^ 64) (hj : j < 64) : x &&& (2 ^ 64 - (2 ^ j - 1 + 1)) = x / 2 ^ j * 2 ^ j := by
  have hp : 0 < 2 ^ j := Nat.two_pow_pos j
  have hlt : 2 ^ j < 2 ^ 64 := Nat.pow_lt_pow_right (by omega) hj
  apply Nat.eq_of_testBit_eq
  intro i
  rw [Nat.testBit_and, Nat.testBit_two_pow_sub_succ (by omega), Nat.testBit_two_pow_sub_one, ← Nat.shiftRight_eq_div_pow, ← Nat.shiftLeft_eq, Nat.testBit_shiftLeft, Nat.testBit_shiftRight]
  by_cases h : i < j
  · simp [h]; omega
  · have e : j + (i - j) = i := by omega
    rw [e]
    by_cases c : i < 64
    · simp [h, c]; omega
    · have : x.testBit i = false := Nat.testBit_lt_two_pow (Nat.lt_of_lt_of_le hx (Nat.pow_le_pow_right (by omega) (by omega)))
      simp [this]
theorem and_low {Z : Int} (h0 : 0 ≤ Z) (h1 : Z < 2048) : bits .and .u64 Z 2047 = Z := by
  obtain ⟨n, rfl⟩ : ∃ n : Nat, Z = n := ⟨Z.toNat, by omega⟩
  have h := u64_and_nat n 2047 (by omega) (by omega)
  rw [show n &&& 2047 = n from by rw [show (2047 : Nat) = 2 ^ 11 - 1 from rfl, Nat.and_two_pow_sub_one_eq_mod]; omega] at h
  exact h
theorem and_sign {x : Nat} (hx : x < 9223372036854775808) : bits .and .u64 (x : Int) 9223372036854775808 = 0 := by
  have h := u64_and_nat x 9223372036854775808 (by omega) (by omega)
  have e := and_high (x := x) (j := 63) (by omega) (by omega)
  rw [show (2 : Nat) ^ 64 - (2 ^ 63 - 1 + 1) = 9223372036854775808 from by decide] at e
  rw [e, show x / 2 ^ 63 = 0 from by omega] at h
  simpa using h
set_option maxRecDepth 100000 in
theorem round_low {x : Nat} {Z : Int} (hE : (x : Int) / 4503599627370496 = Z) (hZ0 : 0 ≤ Z) (hZ : Z < 1022) (hx : x < 9223372036854775808) (w : World) : Calls Try.prog 115 #[.float .f64 x] w fun e w' => e = .returned (.float .f64 0) ∧ w = w' := by
  have h1 : ∀ w : World, (callFunc 116 #[.float .f64 x]).run Try.prog w = .ok (.value (.int .u64 x)) w := fun w => bits_run x w
  have h2 : ∀ (w : World), (callFunc 117 #[.int .u64 0]).run Try.prog w = .ok (.value (.float .f64 0)) w := fun w => from_run 0 w
  have h3 : bits .and .u64 Z 2047 = Z := and_low hZ0 (by omega)
  have h4 : bits .and .u64 (x : Int) 9223372036854775808 = 0 := and_sign hx
  have d1 : decide (Z < 1023) = true := by simp; omega
  have d2 : (Z == 1022) = false := by simp; omega
  go_enter Try.func115, Try.ntmps115
  go_wp2
  go_ret
  exact ⟨rfl, rfl⟩
set_option maxRecDepth 100000 in
theorem round_half {x : Nat} (hE : (x : Int) / 4503599627370496 = 1022) (hx : x < 9223372036854775808) (w : World) : Calls Try.prog 115 #[.float .f64 x] w fun e w' => e = .returned (.float .f64 4607182418800017408) ∧ w = w' := by
  have h1 : ∀ w : World, (callFunc 116 #[.float .f64 x]).run Try.prog w = .ok (.value (.int .u64 x)) w := fun w => bits_run x w
  have h2 : ∀ (w : World), (callFunc 117 #[.int .u64 4607182418800017408]).run Try.prog w = .ok (.value (.float .f64 4607182418800017408)) w := fun w => from_run 4607182418800017408 w
  have h3 : bits .and .u64 1022 2047 = 1022 := and_low (by omega) (by omega)
  have h4 : bits .and .u64 (x : Int) 9223372036854775808 = 0 := and_sign hx
  have h5 : bits .or .u64 0 4607182418800017408 = 4607182418800017408 := u64_or_nat 0 4607182418800017408 (by omega) (by omega)
  go_enter Try.func115, Try.ntmps115
  go_wp2
  go_ret
  exact ⟨rfl, rfl⟩

set_option maxRecDepth 100000 in
theorem round_0 {x r : Nat} (hE : (x : Int) / 4503599627370496 = 1023) (hx : x < 9223372036854775808) (hr : (x + 2251799813685248) / 4503599627370496 * 4503599627370496 = r) (w : World) : Calls Try.prog 115 #[.float .f64 x] w fun e w' => e = .returned (.float .f64 r) ∧ w = w' := by
  have h1 : ∀ w : World, (callFunc 116 #[.float .f64 x]).run Try.prog w = .ok (.value (.int .u64 x)) w := fun w => bits_run x w
  have h2 : ∀ (w : World), (callFunc 117 #[.int .u64 (r : Int)]).run Try.prog w = .ok (.value (.float .f64 r)) w := fun w => from_run r w
  have h3 : bits .and .u64 1023 2047 = 1023 := and_low (by omega) (by omega)
  have h5 : bits .andNot .u64 ((x : Int) + 2251799813685248) 4503599627370495 = (r : Int) := by
    have e := u64_andNot_nat (x + 2251799813685248) 4503599627370495 (by omega) (by omega)
    have f := and_high (x := x + 2251799813685248) (j := 52) (by omega) (by omega)
    rw [show (2 : Nat) ^ 64 - (2 ^ 52 - 1 + 1) = 18446744073709551615 - 4503599627370495 from by decide, show (2 : Nat) ^ 52 = 4503599627370496 from by decide, hr] at f
    rw [f] at e
    exact e
  clear hr
  go_enter Try.func115, Try.ntmps115
  go_wp2
  go_ret
  exact ⟨rfl, rfl⟩
set_option maxRecDepth 100000 in
theorem round_1 {x r : Nat} (hE : (x : Int) / 4503599627370496 = 1024) (hx : x < 9223372036854775808) (hr : (x + 1125899906842624) / 2251799813685248 * 2251799813685248 = r) (w : World) : Calls Try.prog 115 #[.float .f64 x] w fun e w' => e = .returned (.float .f64 r) ∧ w = w' := by
  have h1 : ∀ w : World, (callFunc 116 #[.float .f64 x]).run Try.prog w = .ok (.value (.int .u64 x)) w := fun w => bits_run x w
  have h2 : ∀ (w : World), (callFunc 117 #[.int .u64 (r : Int)]).run Try.prog w = .ok (.value (.float .f64 r)) w := fun w => from_run r w
  have h3 : bits .and .u64 1024 2047 = 1024 := and_low (by omega) (by omega)
  have h5 : bits .andNot .u64 ((x : Int) + 1125899906842624) 2251799813685247 = (r : Int) := by
    have e := u64_andNot_nat (x + 1125899906842624) 2251799813685247 (by omega) (by omega)
    have f := and_high (x := x + 1125899906842624) (j := 51) (by omega) (by omega)
    rw [show (2 : Nat) ^ 64 - (2 ^ 51 - 1 + 1) = 18446744073709551615 - 2251799813685247 from by decide, show (2 : Nat) ^ 51 = 2251799813685248 from by decide, hr] at f
    rw [f] at e
    exact e
  clear hr
  go_enter Try.func115, Try.ntmps115
  go_wp2
  go_ret
  exact ⟨rfl, rfl⟩
set_option maxRecDepth 100000 in
theorem round_2 {x r : Nat} (hE : (x : Int) / 4503599627370496 = 1025) (hx : x < 9223372036854775808) (hr : (x + 562949953421312) / 1125899906842624 * 1125899906842624 = r) (w : World) : Calls Try.prog 115 #[.float .f64 x] w fun e w' => e = .returned (.float .f64 r) ∧ w = w' := by
  have h1 : ∀ w : World, (callFunc 116 #[.float .f64 x]).run Try.prog w = .ok (.value (.int .u64 x)) w := fun w => bits_run x w
  have h2 : ∀ (w : World), (callFunc 117 #[.int .u64 (r : Int)]).run Try.prog w = .ok (.value (.float .f64 r)) w := fun w => from_run r w
  have h3 : bits .and .u64 1025 2047 = 1025 := and_low (by omega) (by omega)
  have h5 : bits .andNot .u64 ((x : Int) + 562949953421312) 1125899906842623 = (r : Int) := by
    have e := u64_andNot_nat (x + 562949953421312) 1125899906842623 (by omega) (by omega)
    have f := and_high (x := x + 562949953421312) (j := 50) (by omega) (by omega)
    rw [show (2 : Nat) ^ 64 - (2 ^ 50 - 1 + 1) = 18446744073709551615 - 1125899906842623 from by decide, show (2 : Nat) ^ 50 = 1125899906842624 from by decide, hr] at f
    rw [f] at e
    exact e
  clear hr
  go_enter Try.func115, Try.ntmps115
  go_wp2
  go_ret
  exact ⟨rfl, rfl⟩
set_option maxRecDepth 100000 in
theorem round_3 {x r : Nat} (hE : (x : Int) / 4503599627370496 = 1026) (hx : x < 9223372036854775808) (hr : (x + 281474976710656) / 562949953421312 * 562949953421312 = r) (w : World) : Calls Try.prog 115 #[.float .f64 x] w fun e w' => e = .returned (.float .f64 r) ∧ w = w' := by
  have h1 : ∀ w : World, (callFunc 116 #[.float .f64 x]).run Try.prog w = .ok (.value (.int .u64 x)) w := fun w => bits_run x w
  have h2 : ∀ (w : World), (callFunc 117 #[.int .u64 (r : Int)]).run Try.prog w = .ok (.value (.float .f64 r)) w := fun w => from_run r w
  have h3 : bits .and .u64 1026 2047 = 1026 := and_low (by omega) (by omega)
  have h5 : bits .andNot .u64 ((x : Int) + 281474976710656) 562949953421311 = (r : Int) := by
    have e := u64_andNot_nat (x + 281474976710656) 562949953421311 (by omega) (by omega)
    have f := and_high (x := x + 281474976710656) (j := 49) (by omega) (by omega)
    rw [show (2 : Nat) ^ 64 - (2 ^ 49 - 1 + 1) = 18446744073709551615 - 562949953421311 from by decide, show (2 : Nat) ^ 49 = 562949953421312 from by decide, hr] at f
    rw [f] at e
    exact e
  clear hr
  go_enter Try.func115, Try.ntmps115
  go_wp2
  go_ret
  exact ⟨rfl, rfl⟩
set_option maxRecDepth 100000 in
theorem round_4 {x r : Nat} (hE : (x : Int) / 4503599627370496 = 1027) (hx : x < 9223372036854775808) (hr : (x + 140737488355328) / 281474976710656 * 281474976710656 = r) (w : World) : Calls Try.prog 115 #[.float .f64 x] w fun e w' => e = .returned (.float .f64 r) ∧ w = w' := by
  have h1 : ∀ w : World, (callFunc 116 #[.float .f64 x]).run Try.prog w = .ok (.value (.int .u64 x)) w := fun w => bits_run x w
  have h2 : ∀ (w : World), (callFunc 117 #[.int .u64 (r : Int)]).run Try.prog w = .ok (.value (.float .f64 r)) w := fun w => from_run r w
  have h3 : bits .and .u64 1027 2047 = 1027 := and_low (by omega) (by omega)
  have h5 : bits .andNot .u64 ((x : Int) + 140737488355328) 281474976710655 = (r : Int) := by
    have e := u64_andNot_nat (x + 140737488355328) 281474976710655 (by omega) (by omega)
    have f := and_high (x := x + 140737488355328) (j := 48) (by omega) (by omega)
    rw [show (2 : Nat) ^ 64 - (2 ^ 48 - 1 + 1) = 18446744073709551615 - 281474976710655 from by decide, show (2 : Nat) ^ 48 = 281474976710656 from by decide, hr] at f
    rw [f] at e
    exact e
  clear hr
  go_enter Try.func115, Try.ntmps115
  go_wp2
  go_ret
  exact ⟨rfl, rfl⟩
set_option maxRecDepth 100000 in
theorem round_5 {x r : Nat} (hE : (x : Int) / 4503599627370496 = 1028) (hx : x < 9223372036854775808) (hr : (x + 70368744177664) / 140737488355328 * 140737488355328 = r) (w : World) : Calls Try.prog 115 #[.float .f64 x] w fun e w' => e = .returned (.float .f64 r) ∧ w = w' := by
  have h1 : ∀ w : World, (callFunc 116 #[.float .f64 x]).run Try.prog w = .ok (.value (.int .u64 x)) w := fun w => bits_run x w
  have h2 : ∀ (w : World), (callFunc 117 #[.int .u64 (r : Int)]).run Try.prog w = .ok (.value (.float .f64 r)) w := fun w => from_run r w
  have h3 : bits .and .u64 1028 2047 = 1028 := and_low (by omega) (by omega)
  have h5 : bits .andNot .u64 ((x : Int) + 70368744177664) 140737488355327 = (r : Int) := by
    have e := u64_andNot_nat (x + 70368744177664) 140737488355327 (by omega) (by omega)
    have f := and_high (x := x + 70368744177664) (j := 47) (by omega) (by omega)
    rw [show (2 : Nat) ^ 64 - (2 ^ 47 - 1 + 1) = 18446744073709551615 - 140737488355327 from by decide, show (2 : Nat) ^ 47 = 140737488355328 from by decide, hr] at f
    rw [f] at e
    exact e
  clear hr
  go_enter Try.func115, Try.ntmps115
  go_wp2
  go_ret
  exact ⟨rfl, rfl⟩
set_option maxRecDepth 100000 in
theorem round_6 {x r : Nat} (hE : (x : Int) / 4503599627370496 = 1029) (hx : x < 9223372036854775808) (hr : (x + 35184372088832) / 70368744177664 * 70368744177664 = r) (w : World) : Calls Try.prog 115 #[.float .f64 x] w fun e w' => e = .returned (.float .f64 r) ∧ w = w' := by
  have h1 : ∀ w : World, (callFunc 116 #[.float .f64 x]).run Try.prog w = .ok (.value (.int .u64 x)) w := fun w => bits_run x w
  have h2 : ∀ (w : World), (callFunc 117 #[.int .u64 (r : Int)]).run Try.prog w = .ok (.value (.float .f64 r)) w := fun w => from_run r w
  have h3 : bits .and .u64 1029 2047 = 1029 := and_low (by omega) (by omega)
  have h5 : bits .andNot .u64 ((x : Int) + 35184372088832) 70368744177663 = (r : Int) := by
    have e := u64_andNot_nat (x + 35184372088832) 70368744177663 (by omega) (by omega)
    have f := and_high (x := x + 35184372088832) (j := 46) (by omega) (by omega)
    rw [show (2 : Nat) ^ 64 - (2 ^ 46 - 1 + 1) = 18446744073709551615 - 70368744177663 from by decide, show (2 : Nat) ^ 46 = 70368744177664 from by decide, hr] at f
    rw [f] at e
    exact e
  clear hr
  go_enter Try.func115, Try.ntmps115
  go_wp2
  go_ret
  exact ⟨rfl, rfl⟩
set_option maxRecDepth 100000 in
theorem round_7 {x r : Nat} (hE : (x : Int) / 4503599627370496 = 1030) (hx : x < 9223372036854775808) (hr : (x + 17592186044416) / 35184372088832 * 35184372088832 = r) (w : World) : Calls Try.prog 115 #[.float .f64 x] w fun e w' => e = .returned (.float .f64 r) ∧ w = w' := by
  have h1 : ∀ w : World, (callFunc 116 #[.float .f64 x]).run Try.prog w = .ok (.value (.int .u64 x)) w := fun w => bits_run x w
  have h2 : ∀ (w : World), (callFunc 117 #[.int .u64 (r : Int)]).run Try.prog w = .ok (.value (.float .f64 r)) w := fun w => from_run r w
  have h3 : bits .and .u64 1030 2047 = 1030 := and_low (by omega) (by omega)
  have h5 : bits .andNot .u64 ((x : Int) + 17592186044416) 35184372088831 = (r : Int) := by
    have e := u64_andNot_nat (x + 17592186044416) 35184372088831 (by omega) (by omega)
    have f := and_high (x := x + 17592186044416) (j := 45) (by omega) (by omega)
    rw [show (2 : Nat) ^ 64 - (2 ^ 45 - 1 + 1) = 18446744073709551615 - 35184372088831 from by decide, show (2 : Nat) ^ 45 = 35184372088832 from by decide, hr] at f
    rw [f] at e
    exact e
  clear hr
  go_enter Try.func115, Try.ntmps115
  go_wp2
  go_ret
  exact ⟨rfl, rfl⟩
/-- Round: a whole number at most a half away. -/
theorem round_any {x : Nat} {q : Rat} (hx : R x q) (hw : x < 18446744073709551616) (h0 : 0 < q) (h1 : q < 256) :
    ∃ (r N : Nat), R r (((N : Nat) : Int) : Rat) ∧ q - (N : Rat) ≤ 1 / 2 ∧ (N : Rat) - q ≤ 1 / 2 ∧ (N = 100 → r = 4636737291354636288) ∧ ∀ w : World, Calls Try.prog 115 #[.float .f64 x] w fun e w' => e = .returned (.float .f64 r) ∧ w = w' := by
  rcases split_word hx hw h0 h1 with ⟨hE, hq⟩ | ⟨hE, hq1, hq2⟩ | ⟨k, hk, hE, hq⟩
  · refine ⟨0, 0, R_zero, ?_, ?_, fun h => by omega, fun w => round_low (Z := ((x / 4503599627370496 : Nat) : Int)) (by omega) (by omega) (by omega) (by omega) w⟩
    · show q - 0 ≤ 1 / 2; grind
    · show 0 - q ≤ 1 / 2; grind
  · refine ⟨4607182418800017408, 1, R_one, ?_, ?_, fun h => by omega, fun w => round_half (by omega) (by omega) w⟩
    · show q - 1 ≤ 1 / 2; grind
    · show 1 - q ≤ 1 / 2; grind
  · have hc : k = 0 ∨ k = 1 ∨ k = 2 ∨ k = 3 ∨ k = 4 ∨ k = 5 ∨ k = 6 ∨ k = 7 := by omega
    rcases hc with rfl | rfl | rfl | rfl | rfl | rfl | rfl | rfl
    · obtain ⟨M, hM⟩ : ∃ M, x % 4503599627370496 = M := ⟨_, rfl⟩
      rw [hM] at hq
      obtain ⟨s, hs⟩ : ∃ s, (M + 2251799813685248) / 4503599627370496 = s := ⟨_, rfl⟩
      have b1 : s * 4503599627370496 ≤ M + 2251799813685248 := by omega
      have b2 : M + 2251799813685248 < s * 4503599627370496 + 4503599627370496 := by omega
      have hr := made_0 s (by omega)
      refine ⟨_, _, hr, ?_, ?_, fun h => by omega, fun w => round_0 (r := 4607182418800017408 + s * 4503599627370496) (by omega) (by omega) (by omega) w⟩
      all_goals
        rw [show two (((0 : Nat) : Int) - 52) = 1 / 4503599627370496 from by decide +kernel] at hq
        have c1 : ((s * 4503599627370496 : Nat) : Rat) ≤ ((M + 2251799813685248 : Nat) : Rat) := Rat.natCast_le_natCast.2 b1
        have c2 : ((M + 2251799813685248 : Nat) : Rat) ≤ ((s * 4503599627370496 + 4503599627370496 : Nat) : Rat) := Rat.natCast_le_natCast.2 (by omega)
        simp only [Rat.natCast_add, Rat.natCast_mul] at c1 c2 hq ⊢
        have z1 : ((4503599627370496 : Nat) : Rat) = 4503599627370496 := rfl
        have z2 : ((4503599627370496 : Nat) : Rat) = 4503599627370496 := rfl
        have z3 : ((1 : Nat) : Rat) = 1 := rfl
        have z4 : ((2251799813685248 : Nat) : Rat) = 2251799813685248 := rfl
        simp only [z1, z2, z3, z4] at c1 c2 hq ⊢
        grind
    · obtain ⟨M, hM⟩ : ∃ M, x % 4503599627370496 = M := ⟨_, rfl⟩
      rw [hM] at hq
      obtain ⟨s, hs⟩ : ∃ s, (M + 1125899906842624) / 2251799813685248 = s := ⟨_, rfl⟩
      have b1 : s * 2251799813685248 ≤ M + 1125899906842624 := by omega
      have b2 : M + 1125899906842624 < s * 2251799813685248 + 2251799813685248 := by omega
      have hr := made_1 s (by omega)
      refine ⟨_, _, hr, ?_, ?_, fun h => by omega, fun w => round_1 (r := 4611686018427387904 + s * 2251799813685248) (by omega) (by omega) (by omega) w⟩
      all_goals
        rw [show two (((1 : Nat) : Int) - 52) = 1 / 2251799813685248 from by decide +kernel] at hq
        have c1 : ((s * 2251799813685248 : Nat) : Rat) ≤ ((M + 1125899906842624 : Nat) : Rat) := Rat.natCast_le_natCast.2 b1
        have c2 : ((M + 1125899906842624 : Nat) : Rat) ≤ ((s * 2251799813685248 + 2251799813685248 : Nat) : Rat) := Rat.natCast_le_natCast.2 (by omega)
        simp only [Rat.natCast_add, Rat.natCast_mul] at c1 c2 hq ⊢
        have z1 : ((4503599627370496 : Nat) : Rat) = 4503599627370496 := rfl
        have z2 : ((2251799813685248 : Nat) : Rat) = 2251799813685248 := rfl
        have z3 : ((2 : Nat) : Rat) = 2 := rfl
        have z4 : ((1125899906842624 : Nat) : Rat) = 1125899906842624 := rfl
        simp only [z1, z2, z3, z4] at c1 c2 hq ⊢
        grind
    · obtain ⟨M, hM⟩ : ∃ M, x % 4503599627370496 = M := ⟨_, rfl⟩
      rw [hM] at hq
      obtain ⟨s, hs⟩ : ∃ s, (M + 562949953421312) / 1125899906842624 = s := ⟨_, rfl⟩
      have b1 : s * 1125899906842624 ≤ M + 562949953421312 := by omega
      have b2 : M + 562949953421312 < s * 1125899906842624 + 1125899906842624 := by omega
      have hr := made_2 s (by omega)
      refine ⟨_, _, hr, ?_, ?_, fun h => by omega, fun w => round_2 (r := 4616189618054758400 + s * 1125899906842624) (by omega) (by omega) (by omega) w⟩
      all_goals
        rw [show two (((2 : Nat) : Int) - 52) = 1 / 1125899906842624 from by decide +kernel] at hq
        have c1 : ((s * 1125899906842624 : Nat) : Rat) ≤ ((M + 562949953421312 : Nat) : Rat) := Rat.natCast_le_natCast.2 b1
        have c2 : ((M + 562949953421312 : Nat) : Rat) ≤ ((s * 1125899906842624 + 1125899906842624 : Nat) : Rat) := Rat.natCast_le_natCast.2 (by omega)
        simp only [Rat.natCast_add, Rat.natCast_mul] at c1 c2 hq ⊢
        have z1 : ((4503599627370496 : Nat) : Rat) = 4503599627370496 := rfl
        have z2 : ((1125899906842624 : Nat) : Rat) = 1125899906842624 := rfl
        have z3 : ((4 : Nat) : Rat) = 4 := rfl
        have z4 : ((562949953421312 : Nat) : Rat) = 562949953421312 := rfl
        simp only [z1, z2, z3, z4] at c1 c2 hq ⊢
        grind
    · obtain ⟨M, hM⟩ : ∃ M, x % 4503599627370496 = M := ⟨_, rfl⟩
      rw [hM] at hq
      obtain ⟨s, hs⟩ : ∃ s, (M + 281474976710656) / 562949953421312 = s := ⟨_, rfl⟩
      have b1 : s * 562949953421312 ≤ M + 281474976710656 := by omega
      have b2 : M + 281474976710656 < s * 562949953421312 + 562949953421312 := by omega
      have hr := made_3 s (by omega)
      refine ⟨_, _, hr, ?_, ?_, fun h => by omega, fun w => round_3 (r := 4620693217682128896 + s * 562949953421312) (by omega) (by omega) (by omega) w⟩
      all_goals
        rw [show two (((3 : Nat) : Int) - 52) = 1 / 562949953421312 from by decide +kernel] at hq
        have c1 : ((s * 562949953421312 : Nat) : Rat) ≤ ((M + 281474976710656 : Nat) : Rat) := Rat.natCast_le_natCast.2 b1
        have c2 : ((M + 281474976710656 : Nat) : Rat) ≤ ((s * 562949953421312 + 562949953421312 : Nat) : Rat) := Rat.natCast_le_natCast.2 (by omega)
        simp only [Rat.natCast_add, Rat.natCast_mul] at c1 c2 hq ⊢
        have z1 : ((4503599627370496 : Nat) : Rat) = 4503599627370496 := rfl
        have z2 : ((562949953421312 : Nat) : Rat) = 562949953421312 := rfl
        have z3 : ((8 : Nat) : Rat) = 8 := rfl
        have z4 : ((281474976710656 : Nat) : Rat) = 281474976710656 := rfl
        simp only [z1, z2, z3, z4] at c1 c2 hq ⊢
        grind
    · obtain ⟨M, hM⟩ : ∃ M, x % 4503599627370496 = M := ⟨_, rfl⟩
      rw [hM] at hq
      obtain ⟨s, hs⟩ : ∃ s, (M + 140737488355328) / 281474976710656 = s := ⟨_, rfl⟩
      have b1 : s * 281474976710656 ≤ M + 140737488355328 := by omega
      have b2 : M + 140737488355328 < s * 281474976710656 + 281474976710656 := by omega
      have hr := made_4 s (by omega)
      refine ⟨_, _, hr, ?_, ?_, fun h => by omega, fun w => round_4 (r := 4625196817309499392 + s * 281474976710656) (by omega) (by omega) (by omega) w⟩
      all_goals
        rw [show two (((4 : Nat) : Int) - 52) = 1 / 281474976710656 from by decide +kernel] at hq
        have c1 : ((s * 281474976710656 : Nat) : Rat) ≤ ((M + 140737488355328 : Nat) : Rat) := Rat.natCast_le_natCast.2 b1
        have c2 : ((M + 140737488355328 : Nat) : Rat) ≤ ((s * 281474976710656 + 281474976710656 : Nat) : Rat) := Rat.natCast_le_natCast.2 (by omega)
        simp only [Rat.natCast_add, Rat.natCast_mul] at c1 c2 hq ⊢
        have z1 : ((4503599627370496 : Nat) : Rat) = 4503599627370496 := rfl
        have z2 : ((281474976710656 : Nat) : Rat) = 281474976710656 := rfl
        have z3 : ((16 : Nat) : Rat) = 16 := rfl
        have z4 : ((140737488355328 : Nat) : Rat) = 140737488355328 := rfl
        simp only [z1, z2, z3, z4] at c1 c2 hq ⊢
        grind
    · obtain ⟨M, hM⟩ : ∃ M, x % 4503599627370496 = M := ⟨_, rfl⟩
      rw [hM] at hq
      obtain ⟨s, hs⟩ : ∃ s, (M + 70368744177664) / 140737488355328 = s := ⟨_, rfl⟩
      have b1 : s * 140737488355328 ≤ M + 70368744177664 := by omega
      have b2 : M + 70368744177664 < s * 140737488355328 + 140737488355328 := by omega
      have hr := made_5 s (by omega)
      refine ⟨_, _, hr, ?_, ?_, fun h => by omega, fun w => round_5 (r := 4629700416936869888 + s * 140737488355328) (by omega) (by omega) (by omega) w⟩
      all_goals
        rw [show two (((5 : Nat) : Int) - 52) = 1 / 140737488355328 from by decide +kernel] at hq
        have c1 : ((s * 140737488355328 : Nat) : Rat) ≤ ((M + 70368744177664 : Nat) : Rat) := Rat.natCast_le_natCast.2 b1
        have c2 : ((M + 70368744177664 : Nat) : Rat) ≤ ((s * 140737488355328 + 140737488355328 : Nat) : Rat) := Rat.natCast_le_natCast.2 (by omega)
        simp only [Rat.natCast_add, Rat.natCast_mul] at c1 c2 hq ⊢
        have z1 : ((4503599627370496 : Nat) : Rat) = 4503599627370496 := rfl
        have z2 : ((140737488355328 : Nat) : Rat) = 140737488355328 := rfl
        have z3 : ((32 : Nat) : Rat) = 32 := rfl
        have z4 : ((70368744177664 : Nat) : Rat) = 70368744177664 := rfl
        simp only [z1, z2, z3, z4] at c1 c2 hq ⊢
        grind
    · obtain ⟨M, hM⟩ : ∃ M, x % 4503599627370496 = M := ⟨_, rfl⟩
      rw [hM] at hq
      obtain ⟨s, hs⟩ : ∃ s, (M + 35184372088832) / 70368744177664 = s := ⟨_, rfl⟩
      have b1 : s * 70368744177664 ≤ M + 35184372088832 := by omega
      have b2 : M + 35184372088832 < s * 70368744177664 + 70368744177664 := by omega
      have hr := made_6 s (by omega)
      refine ⟨_, _, hr, ?_, ?_, fun h => by omega, fun w => round_6 (r := 4634204016564240384 + s * 70368744177664) (by omega) (by omega) (by omega) w⟩
      all_goals
        rw [show two (((6 : Nat) : Int) - 52) = 1 / 70368744177664 from by decide +kernel] at hq
        have c1 : ((s * 70368744177664 : Nat) : Rat) ≤ ((M + 35184372088832 : Nat) : Rat) := Rat.natCast_le_natCast.2 b1
        have c2 : ((M + 35184372088832 : Nat) : Rat) ≤ ((s * 70368744177664 + 70368744177664 : Nat) : Rat) := Rat.natCast_le_natCast.2 (by omega)
        simp only [Rat.natCast_add, Rat.natCast_mul] at c1 c2 hq ⊢
        have z1 : ((4503599627370496 : Nat) : Rat) = 4503599627370496 := rfl
        have z2 : ((70368744177664 : Nat) : Rat) = 70368744177664 := rfl
        have z3 : ((64 : Nat) : Rat) = 64 := rfl
        have z4 : ((35184372088832 : Nat) : Rat) = 35184372088832 := rfl
        simp only [z1, z2, z3, z4] at c1 c2 hq ⊢
        grind
    · obtain ⟨M, hM⟩ : ∃ M, x % 4503599627370496 = M := ⟨_, rfl⟩
      rw [hM] at hq
      obtain ⟨s, hs⟩ : ∃ s, (M + 17592186044416) / 35184372088832 = s := ⟨_, rfl⟩
      have b1 : s * 35184372088832 ≤ M + 17592186044416 := by omega
      have b2 : M + 17592186044416 < s * 35184372088832 + 35184372088832 := by omega
      have hr := made_7 s (by omega)
      refine ⟨_, _, hr, ?_, ?_, fun h => by omega, fun w => round_7 (r := 4638707616191610880 + s * 35184372088832) (by omega) (by omega) (by omega) w⟩
      all_goals
        rw [show two (((7 : Nat) : Int) - 52) = 1 / 35184372088832 from by decide +kernel] at hq
        have c1 : ((s * 35184372088832 : Nat) : Rat) ≤ ((M + 17592186044416 : Nat) : Rat) := Rat.natCast_le_natCast.2 b1
        have c2 : ((M + 17592186044416 : Nat) : Rat) ≤ ((s * 35184372088832 + 35184372088832 : Nat) : Rat) := Rat.natCast_le_natCast.2 (by omega)
        simp only [Rat.natCast_add, Rat.natCast_mul] at c1 c2 hq ⊢
        have z1 : ((4503599627370496 : Nat) : Rat) = 4503599627370496 := rfl
        have z2 : ((35184372088832 : Nat) : Rat) = 35184372088832 := rfl
        have z3 : ((128 : Nat) : Rat) = 128 := rfl
        have z4 : ((17592186044416 : Nat) : Rat) = 17592186044416 := rfl
        simp only [z1, z2, z3, z4] at c1 c2 hq ⊢
        grind
end Go.Proofs.Ytooghncdhjdcpaa
