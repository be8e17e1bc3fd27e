/-
FnCutsOfN: the page's ratio as words; the walks of all cases joined. No condition.
-/
import Derived.Test.YtooghncdhjdcpaaB17l
namespace Go.Proofs.Ytooghncdhjdcpaa
open Go.RowKit Fl

theorem div_cancel {p q : Rat} (h : q ≠ 0) : p / q * q = p := by rw [Rat.div_def, Rat.mul_assoc, Rat.inv_mul_cancel q h, Rat.mul_one]
/-- A page's ratio: below 1 exactly if it is higher than wide. -/
theorem ratio_words {x y : Nat} {m k : Int} (hx : R x ((m : Rat) / 64)) (hy : R y ((k : Rat) / 64)) (h1 : 1 ≤ m) (h2 : m ≤ 640000) (h3 : 1 ≤ k) (h4 : k ≤ 640000) (hne : m ≠ k) :
    ∃ a b r, floatBits .sub .f64 x 0 = some a ∧ floatBits .sub .f64 y 0 = some b ∧ floatBits .quo .f64 a b = some r ∧ (FloatKind.f64.format.order r 4607182418800017408 == some Ordering.lt) = decide (m < k) := by
  obtain ⟨a, e1, r1⟩ := sub64 hx zero64 (by omega)
  obtain ⟨b, e2, r2⟩ := sub64 hy zero64 (by omega)
  rw [Int.sub_zero] at r1 r2
  have m1 : ((1 : Int) : Rat) ≤ (m : Rat) := Rat.intCast_le_intCast.2 h1
  have m2 : (m : Rat) ≤ ((640000 : Int) : Rat) := Rat.intCast_le_intCast.2 h2
  have k1 : ((1 : Int) : Rat) ≤ (k : Rat) := Rat.intCast_le_intCast.2 h3
  have k2 : (k : Rat) ≤ ((640000 : Int) : Rat) := Rat.intCast_le_intCast.2 h4
  have z1 : ((1 : Int) : Rat) = 1 := rfl
  have z2 : ((640000 : Int) : Rat) = 640000 := rfl
  rw [z1] at m1 k1
  rw [z2] at m2 k2
  have hk0 : ((k : Rat) / 64) ≠ 0 := by grind
  have hd := div_cancel (p := (m : Rat) / 64) hk0
  have hD : (m : Rat) / 64 / ((k : Rat) / 64) * (k : Rat) = (m : Rat) := by grind
  have hq0 : 0 ≤ (m : Rat) / 64 / ((k : Rat) / 64) := by
    rw [Rat.div_def]
    exact Rat.mul_nonneg (by grind) (Rat.le_of_lt (Rat.inv_pos.2 (by grind)))
  have hlt : m < k → (m : Rat) + 1 ≤ (k : Rat) := fun h => by
    have : ((m + 1 : Int) : Rat) ≤ (k : Rat) := Rat.intCast_le_intCast.2 h
    rw [Rat.intCast_add, z1] at this
    exact this
  have hgt : k < m → (k : Rat) + 1 ≤ (m : Rat) := fun h => by
    have : ((k + 1 : Int) : Rat) ≤ (m : Rat) := Rat.intCast_le_intCast.2 h
    rw [Rat.intCast_add, z1] at this
    exact this
  have hdb : (m : Rat) / 64 / ((k : Rat) / 64) ≤ 640000 := by
    have := Rat.mul_nonneg hq0 (show 0 ≤ (k : Rat) - 1 by grind)
    grind
  obtain ⟨r, v, e3, r3, n1, n2⟩ := R_div (B := (m : Rat) / 64 / ((k : Rat) / 64) + 1) r1 r2 hk0 (by constructor <;> grind) (by grind) (by grind)
  refine ⟨a, b, r, e1, e2, e3, f_lss r3 R_one ?_⟩
  generalize (m : Rat) / 64 / ((k : Rat) / 64) = D at *
  generalize hM : (m : Rat) = M at *
  generalize hK : (k : Rat) = K at *
  refine decide_eq_decide.2 ⟨fun h => ?_, fun h => ?_⟩
  · rcases Int.lt_trichotomy m k with c | c | c
    · exact c
    · exact absurd c hne
    · exfalso
      have g := hgt c
      have g1 : 1 ≤ (D - 1) * K := by grind
      have g2 : 0 ≤ D - 1 := by
        rcases Rat.le_total (a := 0) (b := D - 1) with q | q
        · exact q
        · have := Rat.mul_nonneg (show 0 ≤ 1 - D by grind) (show 0 ≤ K by grind)
          grind
      have g3 := Rat.mul_nonneg g2 (show 0 ≤ 640000 - K by grind)
      grind
  · have g := hlt h
    have g1 : 1 ≤ (1 - D) * K := by grind
    have g2 : 0 ≤ 1 - D := by
      rcases Rat.le_total (a := 0) (b := 1 - D) with q | q
      · exact q
      · have := Rat.mul_nonneg (show 0 ≤ D - 1 by grind) (show 0 ≤ K by grind)
        grind
    have g3 := Rat.mul_nonneg g2 (show 0 ≤ 640000 - K by grind)
    grind


set_option maxHeartbeats 1000000 in
theorem cutsn_walk (k : Int) (x y : Nat) (w : World) : Calls Try.prog 17 #[.int .i64 k, .float .f64 x, .float .f64 y] w fun e w' => e = .returned (.bool true) ∧ Below w.heap.size w w' := by
  by_cases h1 : k < 0
  · exact cutsn_far k x y w (.inl h1)
  by_cases h2 : 8 ≤ k
  · exact cutsn_far k x y w (.inr (.inl h2))
  cases h3 : [x, y].all smallB
  · exact cutsn_far k x y w (.inr (.inr (.inl h3)))
  rcases Bool.eq_false_or_eq_true (FloatKind.f64.format.order x 4607182418800017408 == some Ordering.lt) with f1 | f1
  · exact cutsn_far k x y w (.inr (.inr (.inr (.inl f1))))
  rcases Bool.eq_false_or_eq_true (FloatKind.f64.format.order y 4607182418800017408 == some Ordering.lt) with f2 | f2
  · exact cutsn_far k x y w (.inr (.inr (.inr (.inr (.inl f2)))))
  rcases Bool.eq_false_or_eq_true (FloatKind.f64.format.order x y == some Ordering.eq) with f3 | f3
  · exact cutsn_far k x y w (.inr (.inr (.inr (.inr (.inr f3)))))
  have h := h3
  simp only [List.all_cons, List.all_nil, Bool.and_true, Bool.and_eq_true] at h
  obtain ⟨m, r1, a1, a2⟩ := smallB_true h.1
  obtain ⟨n, r2, b1, b2⟩ := smallB_true h.2
  have ge1 : ∀ {z : Nat} {j : Int}, R z ((j : Rat) / 64) → (FloatKind.f64.format.order z 4607182418800017408 == some Ordering.lt) = false → 1 ≤ j := fun {z j} r f => by
    have one64 : R 4607182418800017408 (((64 : Int) : Rat) / 64) := by
      have e : (((64 : Int) : Rat) / 64) = 1 := by decide +kernel
      rw [e]; exact R_one
    have := i_lss r one64 (b := decide (j < 64)) rfl
    rw [f] at this
    have := of_decide_eq_false this.symm
    omega
  have c1 := ge1 r1 f1
  have c2 := ge1 r2 f2
  have hne : m ≠ n := fun e => by
    have := i_eql r1 r2 (b := decide (m = n)) rfl
    rw [f3] at this
    exact of_decide_eq_false this.symm e
  obtain ⟨a, b, r, e1, e2, e3, o⟩ := ratio_words r1 r2 c1 a2 c2 b2 hne
  have f4 := i_gtr r1 r2 (b := decide (n < m)) rfl
  have ck : k = 0 ∨ k = 1 ∨ k = 2 ∨ k = 3 ∨ k = 4 ∨ k = 5 ∨ k = 6 ∨ k = 7 := by omega
  by_cases hlt : m < n
  · rw [decide_eq_true hlt] at o
    rw [decide_eq_false (by omega)] at f4
    rcases ck with rfl | rfl | rfl | rfl | rfl | rfl | rfl | rfl
    · exact cutsn_2_t x y w (fun W g hr => ncuts_2_t W hr e1 e2 e3 o) h3 f1 f2 f3 f4
    · exact cutsn_3_t x y w (fun W g hr => ncuts_3_t W hr e1 e2 e3 o) h3 f1 f2 f3 f4
    · exact cutsn_4_t x y w (fun W g hr => ncuts_4_t W hr e1 e2 e3 o) h3 f1 f2 f3 f4
    · exact cutsn_6_t x y w (fun W g hr => ncuts_6_t W hr e1 e2 e3 o) h3 f1 f2 f3 f4
    · exact cutsn_8_t x y w (fun W g hr => ncuts_8_t W hr e1 e2 e3 o) h3 f1 f2 f3 f4
    · exact cutsn_9_t x y w (fun W g hr => ncuts_9_t W hr e1 e2 e3 o) h3 f1 f2 f3 f4
    · exact cutsn_12_t x y w (fun W g hr => ncuts_12_t W hr e1 e2 e3 o) h3 f1 f2 f3 f4
    · exact cutsn_16_t x y w (fun W g hr => ncuts_16_t W hr e1 e2 e3 o) h3 f1 f2 f3 f4
  · rw [decide_eq_false hlt] at o
    rw [decide_eq_true (by omega)] at f4
    rcases ck with rfl | rfl | rfl | rfl | rfl | rfl | rfl | rfl
    · exact cutsn_2_f x y w (fun W g hr => ncuts_2_f W hr e1 e2 e3 o) h3 f1 f2 f3 f4
    · exact cutsn_3_f x y w (fun W g hr => ncuts_3_f W hr e1 e2 e3 o) h3 f1 f2 f3 f4
    · exact cutsn_4_f x y w (fun W g hr => ncuts_4_f W hr e1 e2 e3 o) h3 f1 f2 f3 f4
    · exact cutsn_6_f x y w (fun W g hr => ncuts_6_f W hr e1 e2 e3 o) h3 f1 f2 f3 f4
    · exact cutsn_8_f x y w (fun W g hr => ncuts_8_f W hr e1 e2 e3 o) h3 f1 f2 f3 f4
    · exact cutsn_9_f x y w (fun W g hr => ncuts_9_f W hr e1 e2 e3 o) h3 f1 f2 f3 f4
    · exact cutsn_12_f x y w (fun W g hr => ncuts_12_f W hr e1 e2 e3 o) h3 f1 f2 f3 f4
    · exact cutsn_16_f x y w (fun W g hr => ncuts_16_f W hr e1 e2 e3 o) h3 f1 f2 f3 f4
theorem cutsn_frame (k : Int) (x y : Nat) (w : World) (_ : (Lit.int .i64 k).wf = true) : Calls Try.prog 17 #[.int .i64 k, .float .f64 x, .float .f64 y] w fun e w' => e = .returned (.bool true) ∧ Below w.heap.size w w' := cutsn_walk k x y w
end Go.Proofs.Ytooghncdhjdcpaa
