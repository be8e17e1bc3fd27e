/-
The law FnZoomed, walked: it answers true. No condition.
-/
import Derived.Test.YtooghncdhjdcpaaB10
import Derived.Test.YtooghncdhjdcpaaFd
namespace Go.Proofs.Ytooghncdhjdcpaa
open Go.RowKit Fl

theorem one64 : R 4607182418800017408 (((64 : Int) : Rat) / 64) := by
  have : ((64 : Int) : Rat) / 64 = 1 := by decide +kernel
  rw [this]; exact R_one
theorem R_milli : R 4562254508917369340 (4611686018427388 / 4611686018427387904) := R_lit (s := false) (m := 4611686018427388) (e := -62) (by decide +kernel) (by decide +kernel)

/-- A factor of zoom: below a thousandth, or near to the quotient, its product by the divisor near to the dividend. -/
theorem factor {n : Nat} {t : Nat} {k m : Int} (hn : R n ((k : Rat) / 64)) (ht : R t ((m : Rat) / 64)) (k1 : 64 ≤ k) (k2 : k ≤ 640000) (m1 : -1920000 ≤ m) (m2 : m ≤ 1920000) :
    ∃ f q, floatBits .quo .f64 t n = some f ∧ R f q ∧ (q < 4611686018427388 / 4611686018427387904 ∨
      Ap f ((m : Rat) / 64 / ((k : Rat) / 64)) 30000 (1/1000000) ∧ 0 < q ∧ ∃ p1, floatBits .mul .f64 n f = some p1 ∧ Ap p1 ((m : Rat) / 64) 30000 (1/10000000000)) := by
  have k3 : (1 : Rat) ≤ (k : Rat) / 64 := by
    have := Rat.intCast_le_intCast.2 k1
    have e64 : ((64 : Int) : Rat) = 64 := rfl
    grind
  have k4 : (k : Rat) / 64 ≤ 10000 := by
    have := Rat.intCast_le_intCast.2 k2
    have e64 : ((640000 : Int) : Rat) = 640000 := rfl
    grind
  generalize hQ : (k : Rat) / 64 = Q at *
  have at' := ap64 ht 1920000 m1 m2
  by_cases h0 : m ≤ 0
  · obtain ⟨f, e, q, a1, a2, a3⟩ := at'.div (Ap.of hn (M := 10000) ⟨by grind, by grind⟩) 1 k3 30000 (1/1000000) (by decide +kernel)
    refine ⟨f, q, e, a1, Or.inl ?_⟩
    have h3 : (m : Rat) / 64 ≤ 0 := by
      have := Rat.intCast_le_intCast.2 h0
      have e0 : ((0 : Int) : Rat) = 0 := rfl
      grind
    have h4 : (m : Rat) / 64 / Q ≤ 0 := by
      rw [Rat.div_def]
      have hi : 0 ≤ Q⁻¹ := Rat.le_of_lt (Rat.inv_pos.2 (by grind))
      have := Rat.mul_nonneg (a := -((m : Rat) / 64)) (by grind) hi
      grind
    obtain ⟨b1, b2⟩ := a2
    grind
  have h1 : 1 ≤ m := by omega
  have p1 : (1 : Rat) / 64 ≤ (m : Rat) / 64 := pos64 h1
  have p2 : (m : Rat) / 64 ≤ 30000 := by
    have := Rat.intCast_le_intCast.2 m2
    have e64 : ((1920000 : Int) : Rat) = 1920000 := rfl
    grind
  generalize hP : (m : Rat) / 64 = P at *
  have hQ0 : Q ≠ 0 := by grind
  have hinv : Q * Q⁻¹ = 1 := Rat.mul_inv_cancel _ hQ0
  have hpos : 0 < Q⁻¹ := Rat.inv_pos.2 (by grind)
  have hB0 : P / Q * Q = P := by rw [Rat.div_def, Rat.mul_assoc, Rat.mul_comm Q⁻¹, hinv, Rat.mul_one]
  have hB1 : P / Q ≤ P := by
    have hi : Q⁻¹ ≤ 1 := by
      have := Rat.mul_le_mul_of_nonneg_right k3 (Rat.le_of_lt hpos)
      grind
    have := Rat.mul_le_mul_of_nonneg_left hi (by grind : (0 : Rat) ≤ P)
    rw [Rat.div_def]; grind
  have hB2 : (1 : Rat) / 640000 ≤ P / Q := by
    have hi : (1 : Rat) / 10000 ≤ Q⁻¹ := by
      have := Rat.mul_le_mul_of_nonneg_right k4 (Rat.le_of_lt hpos)
      grind
    have h5 := Rat.mul_le_mul_of_nonneg_right p1 (Rat.le_of_lt hpos)
    rw [Rat.div_def]
    grind
  generalize hB : P / Q = B at *
  obtain ⟨f, q, e, r, hnr⟩ := R_div (B := B) ht hn hQ0 (by rw [hB]; constructor <;> grind) (Rat.le_trans (by decide +kernel) hB2) (by grind)
  rw [hB] at hnr
  refine ⟨f, q, e, r, Or.inr ⟨⟨q, r, hnr.mono (by grind), ⟨by grind, by grind⟩⟩, by obtain ⟨h5, h6⟩ := hnr; grind, ?_⟩⟩
  have h7 := hnr.mul_err (s := Q) (S := Q) ⟨by grind, by grind⟩
  have h8 : Nr (Q * q) P (P / 2251799813685248) := by
    have e1 : B / 2251799813685248 * Q = P / 2251799813685248 := by rw [← hB0]; grind
    rw [e1, hB0] at h7
    rw [Rat.mul_comm]; exact h7
  obtain ⟨p, v, e', r', hv⟩ := R_mul (B := 40000) hn r (by obtain ⟨h5, h6⟩ := h8; constructor <;> grind) (by decide +kernel) (by decide +kernel)
  refine ⟨p, e', v, r', ?_, ⟨by grind, by grind⟩⟩
  obtain ⟨h5, h6⟩ := h8
  obtain ⟨h9, h10⟩ := hv
  constructor <;> grind

set_option maxHeartbeats 2000000 in
theorem zlaw_0 {v m n p1 p2 p3 q1 q2 q3 : Nat} (w : World) (hs : [v, m, n].all smallB = true)
    (om : (FloatKind.f64.format.order m 4607182418800017408 == some Ordering.lt) = false) (on : (FloatKind.f64.format.order n 4607182418800017408 == some Ordering.lt) = false) (ov : (FloatKind.f64.format.order v 0 == some Ordering.eq) = false)
    (c0 : (FloatKind.f64.format.order v 0 == some Ordering.gt) = true) (c5 : (FloatKind.f64.format.order v 0 == some Ordering.lt) = false)
    (o9 : (FloatKind.f64.format.order v 4562254508917369340 == some Ordering.lt) = false)
    (e1 : floatBits .mul .f64 m v = some p1) (e2 : floatBits .sub .f64 m p1 = some p2) (e3 : floatBits .quo .f64 p2 4611686018427387904 = some p3) (f1 : floatBits .mul .f64 n v = some q1) (f2 : floatBits .sub .f64 n q1 = some q2) (f3 : floatBits .quo .f64 q2 4611686018427387904 = some q3)
    (N1 : NearT v v) (N2 : NearT p3 p3) (N3 : NearT q3 q3) :
    Calls Try.prog 10 #[.int .i64 0, .float .f64 v, .float .f64 m, .float .f64 n] w fun e w' => e = .returned (.bool true) ∧ Below w.heap.size w w' := by
  have HS := Lib.hid hs
  have HZ := Lib.hid (fun W => zoomed_0 W c0 e1 e2 e3 f1 f2 f3)
  have H1 := Lib.hid N1
  have H2 := Lib.hid N2
  have H3 := Lib.hid N3
  have re1 := run_bin (P := Try.prog) .mul e1
  have re2 := run_bin (P := Try.prog) .sub e2
  have re3 := run_bin (P := Try.prog) .quo e3
  have rf1 := run_bin (P := Try.prog) .mul f1
  have rf2 := run_bin (P := Try.prog) .sub f2
  have rf3 := run_bin (P := Try.prog) .quo f3
  clear hs N1 N2 N3 e1 e2 e3 f1 f2 f3
  go_enter Try.func10, Try.ntmps10
  go_wp2_with (first
    | (go_at_call 22; refine (small_at [v, m, n] true _ _ (by simp) HS.out (by simp)).mono ?_; rintro e w' ⟨rfl, rfl⟩)
    | (go_at_call 40; refine (HZ.out _).mono ?_; rintro e w4 ⟨rfl, hb⟩; obtain ⟨hq, hf⟩ := bcell hb; have hz := hb.size)
    | (go_at_call 24; (with_reducible refine (H1.out _).mono ?_); rintro e w' ⟨rfl, rfl⟩)
    | (go_at_call 24; (with_reducible refine (H2.out _).mono ?_); rintro e w' ⟨rfl, rfl⟩)
    | (go_at_call 24; (with_reducible refine (H3.out _).mono ?_); rintro e w' ⟨rfl, rfl⟩))
  go_ret
  exact ⟨rfl, (by repeat (first | exact Below.refl _ _ | refine bel_drew ?_ | refine bel_alloc _ ?_ | refine bel_drewN _ ?_ | refine bel_trans (by assumption) ?_ | refine bel_set _ _ (by simp) ?_))⟩

set_option maxHeartbeats 2000000 in
theorem zlaw_1 {v m n p1 p2 p3 q1 q2 q3 v2 t f : Nat} (w : World) (hs : [v, m, n].all smallB = true)
    (om : (FloatKind.f64.format.order m 4607182418800017408 == some Ordering.lt) = false) (on : (FloatKind.f64.format.order n 4607182418800017408 == some Ordering.lt) = false) (ov : (FloatKind.f64.format.order v 0 == some Ordering.eq) = false)
    (c0 : (FloatKind.f64.format.order 0 0 == some Ordering.gt) = false) (c1 : (FloatKind.f64.format.order v 0 != some Ordering.eq) = true) (c2 : (FloatKind.f64.format.order f 0 == some Ordering.lt || FloatKind.f64.format.order f 0 == some Ordering.eq) = false)
    (o9 : (FloatKind.f64.format.order f 4562254508917369340 == some Ordering.lt) = false)
    (g1 : floatBits .mul .f64 4611686018427387904 v = some v2) (g2 : floatBits .sub .f64 m v2 = some t) (g3 : floatBits .quo .f64 t m = some f) (e1 : floatBits .mul .f64 m f = some p1) (e2 : floatBits .sub .f64 m p1 = some p2) (e3 : floatBits .quo .f64 p2 4611686018427387904 = some p3) (f1 : floatBits .mul .f64 n f = some q1) (f2 : floatBits .sub .f64 n q1 = some q2) (f3 : floatBits .quo .f64 q2 4611686018427387904 = some q3)
    (N1 : NearT f f) (N2 : NearT v p3) (N3 : NearT q3 q3) :
    Calls Try.prog 10 #[.int .i64 1, .float .f64 v, .float .f64 m, .float .f64 n] w fun e w' => e = .returned (.bool true) ∧ Below w.heap.size w w' := by
  have HS := Lib.hid hs
  have HZ := Lib.hid (fun W => zoomed_1 W c0 c1 c2 g1 g2 g3 f1 f2 f3)
  have H1 := Lib.hid N1
  have H2 := Lib.hid N2
  have H3 := Lib.hid N3
  have rg1 := run_bin (P := Try.prog) .mul g1
  have rg2 := run_bin (P := Try.prog) .sub g2
  have rg3 := run_bin (P := Try.prog) .quo g3
  have re1 := run_bin (P := Try.prog) .mul e1
  have re2 := run_bin (P := Try.prog) .sub e2
  have re3 := run_bin (P := Try.prog) .quo e3
  have rf1 := run_bin (P := Try.prog) .mul f1
  have rf2 := run_bin (P := Try.prog) .sub f2
  have rf3 := run_bin (P := Try.prog) .quo f3
  clear hs N1 N2 N3 g1 g2 g3 e1 e2 e3 f1 f2 f3
  go_enter Try.func10, Try.ntmps10
  go_wp2_with (first
    | (go_at_call 22; refine (small_at [v, m, n] true _ _ (by simp) HS.out (by simp)).mono ?_; rintro e w' ⟨rfl, rfl⟩)
    | (go_at_call 40; refine (HZ.out _).mono ?_; rintro e w4 ⟨rfl, hb⟩; obtain ⟨hq, hf⟩ := bcell hb; have hz := hb.size)
    | (go_at_call 24; (with_reducible refine (H1.out _).mono ?_); rintro e w' ⟨rfl, rfl⟩)
    | (go_at_call 24; (with_reducible refine (H2.out _).mono ?_); rintro e w' ⟨rfl, rfl⟩)
    | (go_at_call 24; (with_reducible refine (H3.out _).mono ?_); rintro e w' ⟨rfl, rfl⟩))
  go_ret
  exact ⟨rfl, (by repeat (first | exact Below.refl _ _ | refine bel_drew ?_ | refine bel_alloc _ ?_ | refine bel_drewN _ ?_ | refine bel_trans (by assumption) ?_ | refine bel_set _ _ (by simp) ?_))⟩

set_option maxHeartbeats 2000000 in
theorem zlaw_2 {v m n p1 p2 p3 q1 q2 q3 v2 t f : Nat} (w : World) (hs : [v, m, n].all smallB = true)
    (om : (FloatKind.f64.format.order m 4607182418800017408 == some Ordering.lt) = false) (on : (FloatKind.f64.format.order n 4607182418800017408 == some Ordering.lt) = false) (ov : (FloatKind.f64.format.order v 0 == some Ordering.eq) = false)
    (c0 : (FloatKind.f64.format.order 0 0 == some Ordering.gt) = false) (c1 : (FloatKind.f64.format.order 0 0 != some Ordering.eq) = false) (c2 : (FloatKind.f64.format.order f 0 == some Ordering.lt || FloatKind.f64.format.order f 0 == some Ordering.eq) = false)
    (o9 : (FloatKind.f64.format.order f 4562254508917369340 == some Ordering.lt) = false)
    (g1 : floatBits .mul .f64 4611686018427387904 v = some v2) (g2 : floatBits .sub .f64 n v2 = some t) (g3 : floatBits .quo .f64 t n = some f) (e1 : floatBits .mul .f64 m f = some p1) (e2 : floatBits .sub .f64 m p1 = some p2) (e3 : floatBits .quo .f64 p2 4611686018427387904 = some p3) (f1 : floatBits .mul .f64 n f = some q1) (f2 : floatBits .sub .f64 n q1 = some q2) (f3 : floatBits .quo .f64 q2 4611686018427387904 = some q3)
    (N1 : NearT f f) (N2 : NearT p3 p3) (N3 : NearT v q3) :
    Calls Try.prog 10 #[.int .i64 2, .float .f64 v, .float .f64 m, .float .f64 n] w fun e w' => e = .returned (.bool true) ∧ Below w.heap.size w w' := by
  have HS := Lib.hid hs
  have HZ := Lib.hid (fun W => zoomed_2 W c0 c1 c2 g1 g2 g3 e1 e2 e3)
  have H1 := Lib.hid N1
  have H2 := Lib.hid N2
  have H3 := Lib.hid N3
  have rg1 := run_bin (P := Try.prog) .mul g1
  have rg2 := run_bin (P := Try.prog) .sub g2
  have rg3 := run_bin (P := Try.prog) .quo g3
  have re1 := run_bin (P := Try.prog) .mul e1
  have re2 := run_bin (P := Try.prog) .sub e2
  have re3 := run_bin (P := Try.prog) .quo e3
  have rf1 := run_bin (P := Try.prog) .mul f1
  have rf2 := run_bin (P := Try.prog) .sub f2
  have rf3 := run_bin (P := Try.prog) .quo f3
  clear hs N1 N2 N3 g1 g2 g3 e1 e2 e3 f1 f2 f3
  go_enter Try.func10, Try.ntmps10
  go_wp2_with (first
    | (go_at_call 22; refine (small_at [v, m, n] true _ _ (by simp) HS.out (by simp)).mono ?_; rintro e w' ⟨rfl, rfl⟩)
    | (go_at_call 40; refine (HZ.out _).mono ?_; rintro e w4 ⟨rfl, hb⟩; obtain ⟨hq, hf⟩ := bcell hb; have hz := hb.size)
    | (go_at_call 24; (with_reducible refine (H1.out _).mono ?_); rintro e w' ⟨rfl, rfl⟩)
    | (go_at_call 24; (with_reducible refine (H2.out _).mono ?_); rintro e w' ⟨rfl, rfl⟩)
    | (go_at_call 24; (with_reducible refine (H3.out _).mono ?_); rintro e w' ⟨rfl, rfl⟩))
  go_ret
  exact ⟨rfl, (by repeat (first | exact Below.refl _ _ | refine bel_drew ?_ | refine bel_alloc _ ?_ | refine bel_drewN _ ?_ | refine bel_trans (by assumption) ?_ | refine bel_set _ _ (by simp) ?_))⟩

set_option maxHeartbeats 2000000 in
/-- A factor too small: nothing is asked. -/
theorem zexit_1 {v m n v2 t f : Nat} (w : World) (hs : [v, m, n].all smallB = true)
    (om : (FloatKind.f64.format.order m 4607182418800017408 == some Ordering.lt) = false) (on : (FloatKind.f64.format.order n 4607182418800017408 == some Ordering.lt) = false) (ov : (FloatKind.f64.format.order v 0 == some Ordering.eq) = false)
    (o9 : (FloatKind.f64.format.order f 4562254508917369340 == some Ordering.lt) = true)
    (g1 : floatBits .mul .f64 4611686018427387904 v = some v2) (g2 : floatBits .sub .f64 m v2 = some t) (g3 : floatBits .quo .f64 t m = some f) :
    Calls Try.prog 10 #[.int .i64 1, .float .f64 v, .float .f64 m, .float .f64 n] w fun e w' => e = .returned (.bool true) ∧ Below w.heap.size w w' := by
  have HS := Lib.hid hs
  have rg1 := run_bin (P := Try.prog) .mul g1
  have rg2 := run_bin (P := Try.prog) .sub g2
  have rg3 := run_bin (P := Try.prog) .quo g3
  clear hs g1 g2 g3
  go_enter Try.func10, Try.ntmps10
  go_wp2_with (go_at_call 22; refine (small_at [v, m, n] true _ _ (by simp) HS.out (by simp)).mono ?_; rintro e w' ⟨rfl, rfl⟩)
  go_ret
  exact ⟨rfl, (by repeat (first | exact Below.refl _ _ | refine bel_drew ?_ | refine bel_alloc _ ?_ | refine bel_drewN _ ?_ | refine bel_trans (by assumption) ?_ | refine bel_set _ _ (by simp) ?_))⟩

set_option maxHeartbeats 2000000 in
/-- A factor too small: nothing is asked. -/
theorem zexit_2 {v m n v2 t f : Nat} (w : World) (hs : [v, m, n].all smallB = true)
    (om : (FloatKind.f64.format.order m 4607182418800017408 == some Ordering.lt) = false) (on : (FloatKind.f64.format.order n 4607182418800017408 == some Ordering.lt) = false) (ov : (FloatKind.f64.format.order v 0 == some Ordering.eq) = false)
    (o9 : (FloatKind.f64.format.order f 4562254508917369340 == some Ordering.lt) = true)
    (g1 : floatBits .mul .f64 4611686018427387904 v = some v2) (g2 : floatBits .sub .f64 n v2 = some t) (g3 : floatBits .quo .f64 t n = some f) :
    Calls Try.prog 10 #[.int .i64 2, .float .f64 v, .float .f64 m, .float .f64 n] w fun e w' => e = .returned (.bool true) ∧ Below w.heap.size w w' := by
  have HS := Lib.hid hs
  have rg1 := run_bin (P := Try.prog) .mul g1
  have rg2 := run_bin (P := Try.prog) .sub g2
  have rg3 := run_bin (P := Try.prog) .quo g3
  clear hs g1 g2 g3
  go_enter Try.func10, Try.ntmps10
  go_wp2_with (go_at_call 22; refine (small_at [v, m, n] true _ _ (by simp) HS.out (by simp)).mono ?_; rintro e w' ⟨rfl, rfl⟩)
  go_ret
  exact ⟨rfl, (by repeat (first | exact Below.refl _ _ | refine bel_drew ?_ | refine bel_alloc _ ?_ | refine bel_drewN _ ?_ | refine bel_trans (by assumption) ?_ | refine bel_set _ _ (by simp) ?_))⟩

set_option linter.unusedVariables false in
set_option maxHeartbeats 2000000 in
theorem zoomed_walk (k : Int) (v m n : Nat) (w : World) (wk : (Lit.int .i64 k).wf = true) :
    Calls Try.prog 10 #[.int .i64 k, .float .f64 v, .float .f64 m, .float .f64 n] w fun e w' => e = .returned (.bool true) ∧ Below w.heap.size w w' := by
  by_cases h0 : k < 0
  · go_enter Try.func10, Try.ntmps10
    go_wp2
    go_ret
    exact ⟨rfl, (by repeat (first | exact Below.refl _ _ | refine bel_drew ?_ | refine bel_alloc _ ?_ | refine bel_drewN _ ?_ | refine bel_trans (by assumption) ?_ | refine bel_set _ _ (by simp) ?_))⟩
  by_cases h2 : 2 < k
  · go_enter Try.func10, Try.ntmps10
    go_wp2
    go_ret
    exact ⟨rfl, (by repeat (first | exact Below.refl _ _ | refine bel_drew ?_ | refine bel_alloc _ ?_ | refine bel_drewN _ ?_ | refine bel_trans (by assumption) ?_ | refine bel_set _ _ (by simp) ?_))⟩
  cases hs : [v, m, n].all smallB
  · have HS := Lib.hid hs
    clear hs
    go_enter Try.func10, Try.ntmps10
    go_wp2_with (go_at_call 22; refine (small_at [v, m, n] false _ _ (by simp) HS.out (by simp)).mono ?_; rintro e w' ⟨rfl, rfl⟩)
    go_ret
    exact ⟨rfl, (by repeat (first | exact Below.refl _ _ | refine bel_drew ?_ | refine bel_alloc _ ?_ | refine bel_drewN _ ?_ | refine bel_trans (by assumption) ?_ | refine bel_set _ _ (by simp) ?_))⟩
  have hs' := hs
  simp only [List.all_cons, List.all_nil, Bool.and_true, Bool.and_eq_true] at hs'
  obtain ⟨iv, hv, v1, v2⟩ := smallB_true hs'.1
  obtain ⟨im, hm, m1, m2⟩ := smallB_true hs'.2.1
  obtain ⟨i, hn, n1, n2⟩ := smallB_true hs'.2.2
  clear hs'
  by_cases hm0 : im < 64
  · have om := i_lss hm one64 (b := true) (by simpa using hm0)
    have HS := Lib.hid hs
    clear hs hm hn hv
    go_enter Try.func10, Try.ntmps10
    go_wp2_with (go_at_call 22; refine (small_at [v, m, n] true _ _ (by simp) HS.out (by simp)).mono ?_; rintro e w' ⟨rfl, rfl⟩)
    go_ret
    exact ⟨rfl, (by repeat (first | exact Below.refl _ _ | refine bel_drew ?_ | refine bel_alloc _ ?_ | refine bel_drewN _ ?_ | refine bel_trans (by assumption) ?_ | refine bel_set _ _ (by simp) ?_))⟩
  have om := i_lss hm one64 (b := false) (by simpa using hm0)
  by_cases hn0 : i < 64
  · have on := i_lss hn one64 (b := true) (by simpa using hn0)
    have HS := Lib.hid hs
    clear hs hm hn hv
    go_enter Try.func10, Try.ntmps10
    go_wp2_with (go_at_call 22; refine (small_at [v, m, n] true _ _ (by simp) HS.out (by simp)).mono ?_; rintro e w' ⟨rfl, rfl⟩)
    go_ret
    exact ⟨rfl, (by repeat (first | exact Below.refl _ _ | refine bel_drew ?_ | refine bel_alloc _ ?_ | refine bel_drewN _ ?_ | refine bel_trans (by assumption) ?_ | refine bel_set _ _ (by simp) ?_))⟩
  have on := i_lss hn one64 (b := false) (by simpa using hn0)
  by_cases hv0 : iv = 0
  · have ov := i_eql hv zero64 (b := true) (by simpa using hv0)
    have HS := Lib.hid hs
    clear hs hm hn hv
    go_enter Try.func10, Try.ntmps10
    go_wp2_with (go_at_call 22; refine (small_at [v, m, n] true _ _ (by simp) HS.out (by simp)).mono ?_; rintro e w' ⟨rfl, rfl⟩)
    go_ret
    exact ⟨rfl, (by repeat (first | exact Below.refl _ _ | refine bel_drew ?_ | refine bel_alloc _ ?_ | refine bel_drewN _ ?_ | refine bel_trans (by assumption) ?_ | refine bel_set _ _ (by simp) ?_))⟩
  have ov := i_eql hv zero64 (b := false) (by simpa using hv0)
  have av := ap64 hv 640000 v1 v2
  have am := ap64 hm 640000 m1 m2
  have an := ap64 hn 640000 n1 n2
  obtain rfl | rfl | rfl : k = 0 ∨ k = 1 ∨ k = 2 := by omega
  · by_cases hv1 : iv < 0
    · have o5 := i_lss hv zero64 (b := true) (by simpa using hv1)
      have HS := Lib.hid hs
      clear hs hm hn hv av am an
      go_enter Try.func10, Try.ntmps10
      go_wp2_with (go_at_call 22; refine (small_at [v, m, n] true _ _ (by simp) HS.out (by simp)).mono ?_; rintro e w' ⟨rfl, rfl⟩)
      go_ret
      exact ⟨rfl, (by repeat (first | exact Below.refl _ _ | refine bel_drew ?_ | refine bel_alloc _ ?_ | refine bel_drewN _ ?_ | refine bel_trans (by assumption) ?_ | refine bel_set _ _ (by simp) ?_))⟩
    have o5 := i_lss hv zero64 (b := false) (by simpa using hv1)
    have c0 := i_gtr hv zero64 (b := true) (by simp; omega)
    obtain ⟨p1, e1, a1⟩ := am.mul av 100000000 (1/10000000) (by decide +kernel)
    obtain ⟨p2, e2, a2⟩ := am.sub a1 100010000 (1/1000000) (by decide +kernel)
    obtain ⟨p3, e3, a3⟩ := a2.div Ap.two 2 (by decide +kernel) 100000000 (1/100000) (by decide +kernel)
    obtain ⟨q1, f1, b1⟩ := an.mul av 100000000 (1/10000000) (by decide +kernel)
    obtain ⟨q2, f2, b2⟩ := an.sub b1 100010000 (1/1000000) (by decide +kernel)
    obtain ⟨q3, f3, b3⟩ := b2.div Ap.two 2 (by decide +kernel) 100000000 (1/100000) (by decide +kernel)
    have o9 := f_lss hv R_milli (b := false) (by
      have : (1 : Rat) / 64 ≤ (iv : Rat) / 64 := pos64 (by omega)
      simp only [decide_eq_false_iff_not]; grind)
    exact zlaw_0 w hs om on ov c0 o5 o9 e1 e2 e3 f1 f2 f3 (NearT.same av (by decide +kernel)) (NearT.same a3 (by decide +kernel)) (NearT.same b3 (by decide +kernel))

  · obtain ⟨v2', g1, rv⟩ := dbl64 hv (by omega)
    obtain ⟨t, g2, rt⟩ := sub64 hm rv (by omega)
    obtain ⟨f, q, g3, rf, hf⟩ := factor hm rt (by omega) (by omega) (by omega) (by omega)
    by_cases hlt : q < 4611686018427388 / 4611686018427387904
    · exact zexit_1 w hs om on ov (f_lss rf R_milli (by simpa using hlt)) g1 g2 g3
    obtain ⟨af, hq0, p1, e1, a1⟩ := hf.resolve_left hlt
    obtain ⟨p2, e2, a2⟩ := am.sub a1 40000 (1/5000000000) (by decide +kernel)
    obtain ⟨p3, e3, a3⟩ := a2.div Ap.two 2 (by decide +kernel) 20000 (1/5000000000) (by decide +kernel)
    obtain ⟨q1, f1, b1⟩ := an.mul af 300000000 1 (by decide +kernel)
    obtain ⟨q2, f2, b2⟩ := an.sub b1 300010000 2 (by decide +kernel)
    obtain ⟨q3, f3, b3⟩ := b2.div Ap.two 2 (by decide +kernel) 200000000 2 (by decide +kernel)
    have c0 := i_gtr zero64 zero64 (b := false) (by decide)
    have c2 := f_leq rf R_zero (b := false) (by simp only [decide_eq_false_iff_not]; grind)
    have NF := NearT.same af (by decide +kernel)
    have NB := NearT.same b3 (by decide +kernel)
    have NA := NearT.of av a3 (by simp only [Rat.intCast_sub, Rat.intCast_mul]; grind) (by decide +kernel)
    exact zlaw_1 w hs om on ov c0 (f_neq hv R_zero (by simp only [decide_eq_true_eq]; intro h; exact hv0 (eq64 (m := 0) (by rw [h]; decide +kernel)))) c2 (f_lss rf R_milli (by simpa using hlt)) g1 g2 g3 e1 e2 e3 f1 f2 f3 NF NA NB
  · obtain ⟨v2', g1, rv⟩ := dbl64 hv (by omega)
    obtain ⟨t, g2, rt⟩ := sub64 hn rv (by omega)
    obtain ⟨f, q, g3, rf, hf⟩ := factor hn rt (by omega) (by omega) (by omega) (by omega)
    by_cases hlt : q < 4611686018427388 / 4611686018427387904
    · exact zexit_2 w hs om on ov (f_lss rf R_milli (by simpa using hlt)) g1 g2 g3
    obtain ⟨af, hq0, q1, f1, a1⟩ := hf.resolve_left hlt
    obtain ⟨q2, f2, a2⟩ := an.sub a1 40000 (1/5000000000) (by decide +kernel)
    obtain ⟨q3, f3, a3⟩ := a2.div Ap.two 2 (by decide +kernel) 20000 (1/5000000000) (by decide +kernel)
    obtain ⟨p1, e1, b1⟩ := am.mul af 300000000 1 (by decide +kernel)
    obtain ⟨p2, e2, b2⟩ := am.sub b1 300010000 2 (by decide +kernel)
    obtain ⟨p3, e3, b3⟩ := b2.div Ap.two 2 (by decide +kernel) 200000000 2 (by decide +kernel)
    have c0 := i_gtr zero64 zero64 (b := false) (by decide)
    have c2 := f_leq rf R_zero (b := false) (by simp only [decide_eq_false_iff_not]; grind)
    have NF := NearT.same af (by decide +kernel)
    have NB := NearT.same b3 (by decide +kernel)
    have NA := NearT.of av a3 (by simp only [Rat.intCast_sub, Rat.intCast_mul]; grind) (by decide +kernel)
    exact zlaw_2 w hs om on ov c0 (f_neq R_zero R_zero (by decide +kernel)) c2 (f_lss rf R_milli (by simpa using hlt)) g1 g2 g3 e1 e2 e3 f1 f2 f3 NF NB NA

end Go.Proofs.Ytooghncdhjdcpaa
