/-
Contract of math.sin: the word that the plain function gives. Conditions: a finite word other than 0 whose eighths of a turn are at most 16; the tables hold what their texts say.
-/
import Derived.Test.YthjbaeipdjoenaaDoorS2
namespace Go.Proofs.YthjbaeipdjoenaaDoor
open Go.RowKit Fl

/-- What eighth's words are. -/
theorem eighth_parts {x : Nat} {k : Int} {z : Nat} (h : eighth x = some (k, z)) : ∃ (t : Nat) (j : Int) (y a b c d e : Nat), fm x 4608412980311869571 = some t ∧ floatToIntVal .f64 t .u64 = some j ∧ 0 ≤ j ∧ j ≤ 16 ∧
    (if j % 2 = 1 then fa (floatOfInt .f64 j) 4607182418800017408 else some (floatOfInt .f64 j)) = some y ∧ fm y 4605249456957292544 = some a ∧ fs x a = some b ∧ fm y 4495793288086814720 = some c ∧ fs b c = some d ∧ fm y 4388835458085048688 = some e ∧ fs d e = some z ∧
    k = (if j % 2 = 1 then j + 1 else j) := by
  unfold eighth at h
  simp only [Option.bind_eq_some_iff] at h
  obtain ⟨t, h1, j, h2, h⟩ := h
  split at h
  · cases h
  simp only [Option.bind_eq_some_iff, Option.some.injEq, Prod.mk.injEq] at h
  obtain ⟨y, h3, a, h4, b, h5, c, h6, d, h7, e, h8, z', h9, hk, rfl⟩ := h
  exact ⟨t, j, y, a, b, c, d, e, h1, h2, by omega, by omega, h3, h4, h5, h6, h7, h8, h9, hk.symm⟩

set_option maxHeartbeats 8000000 in
theorem sin_pos (x zz v : Nat) (k : Int) (z : Nat) (q : Rat) (hx : R x q) (hq : q ≠ 0) (hneg : ¬ q < 0) (hb : ab q ≤ 100000) (hw : x < 18446744073709551616) (m : Nat) (hm : m = x % 9223372036854775808) (hmR : R m (ab q))
    (h8 : eighth x = some (k, z)) (hzz : fm z z = some zz) (hr : (if k % 4 = 2 then roadC zz else roadS z zz) = some v) (w : World) (hS : Tab w 3 sinT) (hC : Tab w 2 cosT) :
    Calls Tryd.prog 22 #[.float .f64 x] w fun e w' => e = .returned (.float .f64 (if (false ^^ decide (k % 8 > 3)) then Op.negFloat .f64 v else v)) ∧ w = w' := by
  obtain ⟨t, j, y, a, b, c, d, e, h1, h2, hj0, hj1, h3, h4, h5, h6, h7, h8, h9, hk⟩ := eighth_parts h8
  have e0 := f_eql hx R_zero (b := false) (by simpa using hq)
  have e1 := f_lss hx R_zero (b := false) (by simpa using hneg)
  have hT : ∃ z, R 4737786807993761792 z ∧ 100000 < z := ⟨_, R_lit (s := false) (m := 4503599627370496) (e := -23) (by decide +kernel) rfl, by decide +kernel⟩
  obtain ⟨T, hT1, hT2⟩ := hT
  have e2 := f_geq hx hT1 (b := false) (by unfold ab at hb; simp only [decide_eq_false_iff_not]; split at hb <;> grind)
  have r1 := rm h1
  have r2 := fun w => run_convert_float_int (P := Tryd.prog) w 22 54 .f64 .u64 t j (by kernel_rfl) Tryd.underlying54 h2
  have r4 := rm h4
  have r5 := rs h5
  have r6 := rm h6
  have r7 := rs h7
  have r8 := rm h8
  have r9 := rs h9
  have rz := rm hzz
  have a1 := and1 j hj0 hj1
  have HX := Lib.hid hx
  have HM := Lib.hid hm
  have HMR := Lib.hid hmR
  have HB : Hid (ab q ≤ 1000000) := Lib.hid (by grind)
  have hng : ∀ (x : Nat) (w : World), (Op.unary .neg (.float .f64 x)).run Tryd.prog w = .ok (.float .f64 (Op.negFloat .f64 x)) w := fun _ _ => rfl
  have s0 := hS 0 (by omega)
  have s1 := hS 1 (by omega)
  have s2 := hS 2 (by omega)
  have s3 := hS 3 (by omega)
  have s4 := hS 4 (by omega)
  have s5 := hS 5 (by omega)
  have c0 := hC 0 (by omega)
  have c1 := hC 1 (by omega)
  have c2 := hC 2 (by omega)
  have c3 := hC 3 (by omega)
  have c4 := hC 4 (by omega)
  have c5 := hC 5 (by omega)
  simp only [sinT, cosT, List.getD_cons_zero, List.getD_cons_succ] at s0 s1 s2 s3 s4 s5 c0 c1 c2 c3 c4 c5
  clear h1 h2 h4 h5 h6 h7 h8 h9 hzz hx hm hmR hT1 hT2 hb hS hC
  rcases (show k % 8 = 0 ∨ k % 8 = 2 ∨ k % 8 = 4 ∨ k % 8 = 6 by split at hk <;> omega) with h8 | h8 | h8 | h8
  · have q4 : k % 4 = 0 := by omega
    rw [if_neg (by omega)] at hr
    simp only [roadS, pSin, poly, Option.bind_eq_some_iff] at hr
    obtain ⟨u1, i1, pp, ⟨g1, ig1, g2, ig2, g3, ig3, g4, ig4, g5, ig5, g6, ig6, g7, ig7, g8, ig8, g9, ig9, ig10⟩, u2, i2, i3⟩ := hr
    have n1 := rm i1
    have n2 := rm i2
    have n3 := ra i3
    have m0 := rm ig1
    have m1 := ra ig2
    have m2 := rm ig3
    have m3 := ra ig4
    have m4 := rm ig5
    have m5 := ra ig6
    have m6 := rm ig7
    have m7 := ra ig8
    have m8 := rm ig9
    have m9 := ra ig10
    clear i1 i2 i3 ig1 ig2 ig3 ig4 ig5 ig6 ig7 ig8 ig9 ig10
    rw [show (false ^^ decide (k % 8 > 3)) = false by simp [h8]]
    simp only [Bool.false_eq_true, if_false]
    by_cases hodd : j % 2 = 1
    · rw [if_pos hodd] at h3 hk a1
      have r3 := ra h3
      have a7 : bits .and .u64 (j + 1) 7 = 0 := (and7 (j + 1) (by omega) (by omega)).trans (by omega)
      clear h3 hk h8 q4 hodd
      clear hneg
      go_enter Tryd.func22, Tryd.ntmps22
      go_wp2_with (first | (go_at_call 25; refine (isNaN x q HX.out _).mono ?_; rintro e w' ⟨rfl, rfl⟩) | (go_at_call 26; refine (isInf x m HM.out (ab q) HMR.out HB.out hw _).mono ?_; rintro e w' ⟨rfl, rfl⟩) | (go_at_call 29; refine (absW x m HM.out hw _).mono ?_; rintro e w' ⟨rfl, rfl⟩))
      go_ret
      exact ⟨rfl, rfl⟩
    · rw [if_neg hodd] at h3 hk a1
      obtain rfl := Option.some.inj h3
      have a7 : bits .and .u64 j 7 = 0 := (and7 j (by omega) (by omega)).trans (by omega)
      clear h3 hk h8 q4 hodd
      go_enter Tryd.func22, Tryd.ntmps22
      go_wp2_with (first | (go_at_call 25; refine (isNaN x q HX.out _).mono ?_; rintro e w' ⟨rfl, rfl⟩) | (go_at_call 26; refine (isInf x m HM.out (ab q) HMR.out HB.out hw _).mono ?_; rintro e w' ⟨rfl, rfl⟩) | (go_at_call 29; refine (absW x m HM.out hw _).mono ?_; rintro e w' ⟨rfl, rfl⟩))
      go_ret
      exact ⟨rfl, rfl⟩
  · have q4 : k % 4 = 2 := by omega
    rw [if_pos q4] at hr
    simp only [roadC, pCos, poly, Option.bind_eq_some_iff] at hr
    obtain ⟨u1, i1, u2, i2, u3, i3, pp, ⟨g1, ig1, g2, ig2, g3, ig3, g4, ig4, g5, ig5, g6, ig6, g7, ig7, g8, ig8, g9, ig9, ig10⟩, u4, i4, i5⟩ := hr
    have n1 := rm i1
    have n2 := rs i2
    have n3 := rm i3
    have n4 := rm i4
    have n5 := ra i5
    have m0 := rm ig1
    have m1 := ra ig2
    have m2 := rm ig3
    have m3 := ra ig4
    have m4 := rm ig5
    have m5 := ra ig6
    have m6 := rm ig7
    have m7 := ra ig8
    have m8 := rm ig9
    have m9 := ra ig10
    clear i1 i2 i3 i4 i5 ig1 ig2 ig3 ig4 ig5 ig6 ig7 ig8 ig9 ig10
    rw [show (false ^^ decide (k % 8 > 3)) = false by simp [h8]]
    simp only [Bool.false_eq_true, if_false]
    by_cases hodd : j % 2 = 1
    · rw [if_pos hodd] at h3 hk a1
      have r3 := ra h3
      have a7 : bits .and .u64 (j + 1) 7 = 2 := (and7 (j + 1) (by omega) (by omega)).trans (by omega)
      clear h3 hk h8 q4 hodd
      clear hneg
      go_enter Tryd.func22, Tryd.ntmps22
      go_wp2_with (first | (go_at_call 25; refine (isNaN x q HX.out _).mono ?_; rintro e w' ⟨rfl, rfl⟩) | (go_at_call 26; refine (isInf x m HM.out (ab q) HMR.out HB.out hw _).mono ?_; rintro e w' ⟨rfl, rfl⟩) | (go_at_call 29; refine (absW x m HM.out hw _).mono ?_; rintro e w' ⟨rfl, rfl⟩))
      go_ret
      exact ⟨rfl, rfl⟩
    · rw [if_neg hodd] at h3 hk a1
      obtain rfl := Option.some.inj h3
      have a7 : bits .and .u64 j 7 = 2 := (and7 j (by omega) (by omega)).trans (by omega)
      clear h3 hk h8 q4 hodd
      go_enter Tryd.func22, Tryd.ntmps22
      go_wp2_with (first | (go_at_call 25; refine (isNaN x q HX.out _).mono ?_; rintro e w' ⟨rfl, rfl⟩) | (go_at_call 26; refine (isInf x m HM.out (ab q) HMR.out HB.out hw _).mono ?_; rintro e w' ⟨rfl, rfl⟩) | (go_at_call 29; refine (absW x m HM.out hw _).mono ?_; rintro e w' ⟨rfl, rfl⟩))
      go_ret
      exact ⟨rfl, rfl⟩
  · have q4 : k % 4 = 0 := by omega
    rw [if_neg (by omega)] at hr
    simp only [roadS, pSin, poly, Option.bind_eq_some_iff] at hr
    obtain ⟨u1, i1, pp, ⟨g1, ig1, g2, ig2, g3, ig3, g4, ig4, g5, ig5, g6, ig6, g7, ig7, g8, ig8, g9, ig9, ig10⟩, u2, i2, i3⟩ := hr
    have n1 := rm i1
    have n2 := rm i2
    have n3 := ra i3
    have m0 := rm ig1
    have m1 := ra ig2
    have m2 := rm ig3
    have m3 := ra ig4
    have m4 := rm ig5
    have m5 := ra ig6
    have m6 := rm ig7
    have m7 := ra ig8
    have m8 := rm ig9
    have m9 := ra ig10
    clear i1 i2 i3 ig1 ig2 ig3 ig4 ig5 ig6 ig7 ig8 ig9 ig10
    rw [show (false ^^ decide (k % 8 > 3)) = true by simp [h8]]
    simp only [if_true]
    by_cases hodd : j % 2 = 1
    · rw [if_pos hodd] at h3 hk a1
      have r3 := ra h3
      have a7 : bits .and .u64 (j + 1) 7 = 4 := (and7 (j + 1) (by omega) (by omega)).trans (by omega)
      clear h3 hk h8 q4 hodd
      clear hneg
      go_enter Tryd.func22, Tryd.ntmps22
      go_wp2_with (first | (go_at_call 25; refine (isNaN x q HX.out _).mono ?_; rintro e w' ⟨rfl, rfl⟩) | (go_at_call 26; refine (isInf x m HM.out (ab q) HMR.out HB.out hw _).mono ?_; rintro e w' ⟨rfl, rfl⟩) | (go_at_call 29; refine (absW x m HM.out hw _).mono ?_; rintro e w' ⟨rfl, rfl⟩))
      go_ret
      exact ⟨rfl, rfl⟩
    · rw [if_neg hodd] at h3 hk a1
      obtain rfl := Option.some.inj h3
      have a7 : bits .and .u64 j 7 = 4 := (and7 j (by omega) (by omega)).trans (by omega)
      clear h3 hk h8 q4 hodd
      go_enter Tryd.func22, Tryd.ntmps22
      go_wp2_with (first | (go_at_call 25; refine (isNaN x q HX.out _).mono ?_; rintro e w' ⟨rfl, rfl⟩) | (go_at_call 26; refine (isInf x m HM.out (ab q) HMR.out HB.out hw _).mono ?_; rintro e w' ⟨rfl, rfl⟩) | (go_at_call 29; refine (absW x m HM.out hw _).mono ?_; rintro e w' ⟨rfl, rfl⟩))
      go_ret
      exact ⟨rfl, rfl⟩
  · have q4 : k % 4 = 2 := by omega
    rw [if_pos q4] at hr
    simp only [roadC, pCos, poly, Option.bind_eq_some_iff] at hr
    obtain ⟨u1, i1, u2, i2, u3, i3, pp, ⟨g1, ig1, g2, ig2, g3, ig3, g4, ig4, g5, ig5, g6, ig6, g7, ig7, g8, ig8, g9, ig9, ig10⟩, u4, i4, i5⟩ := hr
    have n1 := rm i1
    have n2 := rs i2
    have n3 := rm i3
    have n4 := rm i4
    have n5 := ra i5
    have m0 := rm ig1
    have m1 := ra ig2
    have m2 := rm ig3
    have m3 := ra ig4
    have m4 := rm ig5
    have m5 := ra ig6
    have m6 := rm ig7
    have m7 := ra ig8
    have m8 := rm ig9
    have m9 := ra ig10
    clear i1 i2 i3 i4 i5 ig1 ig2 ig3 ig4 ig5 ig6 ig7 ig8 ig9 ig10
    rw [show (false ^^ decide (k % 8 > 3)) = true by simp [h8]]
    simp only [if_true]
    by_cases hodd : j % 2 = 1
    · rw [if_pos hodd] at h3 hk a1
      have r3 := ra h3
      have a7 : bits .and .u64 (j + 1) 7 = 6 := (and7 (j + 1) (by omega) (by omega)).trans (by omega)
      clear h3 hk h8 q4 hodd
      clear hneg
      go_enter Tryd.func22, Tryd.ntmps22
      go_wp2_with (first | (go_at_call 25; refine (isNaN x q HX.out _).mono ?_; rintro e w' ⟨rfl, rfl⟩) | (go_at_call 26; refine (isInf x m HM.out (ab q) HMR.out HB.out hw _).mono ?_; rintro e w' ⟨rfl, rfl⟩) | (go_at_call 29; refine (absW x m HM.out hw _).mono ?_; rintro e w' ⟨rfl, rfl⟩))
      go_ret
      exact ⟨rfl, rfl⟩
    · rw [if_neg hodd] at h3 hk a1
      obtain rfl := Option.some.inj h3
      have a7 : bits .and .u64 j 7 = 6 := (and7 j (by omega) (by omega)).trans (by omega)
      clear h3 hk h8 q4 hodd
      go_enter Tryd.func22, Tryd.ntmps22
      go_wp2_with (first | (go_at_call 25; refine (isNaN x q HX.out _).mono ?_; rintro e w' ⟨rfl, rfl⟩) | (go_at_call 26; refine (isInf x m HM.out (ab q) HMR.out HB.out hw _).mono ?_; rintro e w' ⟨rfl, rfl⟩) | (go_at_call 29; refine (absW x m HM.out hw _).mono ?_; rintro e w' ⟨rfl, rfl⟩))
      go_ret
      exact ⟨rfl, rfl⟩
set_option maxHeartbeats 8000000 in
theorem sin_neg (x zz v : Nat) (k : Int) (z : Nat) (q : Rat) (hx : R x q) (hq : q ≠ 0) (hneg : q < 0) (hb : ab q ≤ 100000) (hw : x < 18446744073709551616) (m : Nat) (hm : m = x % 9223372036854775808) (hmR : R m (ab q))
    (h8 : eighth (Op.negFloat .f64 x) = some (k, z)) (hzz : fm z z = some zz) (hr : (if k % 4 = 2 then roadC zz else roadS z zz) = some v) (w : World) (hS : Tab w 3 sinT) (hC : Tab w 2 cosT) :
    Calls Tryd.prog 22 #[.float .f64 x] w fun e w' => e = .returned (.float .f64 (if (true ^^ decide (k % 8 > 3)) then Op.negFloat .f64 v else v)) ∧ w = w' := by
  obtain ⟨t, j, y, a, b, c, d, e, h1, h2, hj0, hj1, h3, h4, h5, h6, h7, h8, h9, hk⟩ := eighth_parts h8
  have e0 := f_eql hx R_zero (b := false) (by simpa using hq)
  have e1 := f_lss hx R_zero (b := true) (by simpa using hneg)
  have hT : ∃ z, R 4737786807993761792 z ∧ 100000 < z := ⟨_, R_lit (s := false) (m := 4503599627370496) (e := -23) (by decide +kernel) rfl, by decide +kernel⟩
  obtain ⟨T, hT1, hT2⟩ := hT
  have e2 := f_geq (neg_R hx) hT1 (b := false) (by unfold ab at hb; simp only [decide_eq_false_iff_not]; split at hb <;> grind)
  have r1 := rm h1
  have r2 := fun w => run_convert_float_int (P := Tryd.prog) w 22 54 .f64 .u64 t j (by kernel_rfl) Tryd.underlying54 h2
  have r4 := rm h4
  have r5 := rs h5
  have r6 := rm h6
  have r7 := rs h7
  have r8 := rm h8
  have r9 := rs h9
  have rz := rm hzz
  have a1 := and1 j hj0 hj1
  have HX := Lib.hid hx
  have HM := Lib.hid hm
  have HMR := Lib.hid hmR
  have HB : Hid (ab q ≤ 1000000) := Lib.hid (by grind)
  have hng : ∀ (x : Nat) (w : World), (Op.unary .neg (.float .f64 x)).run Tryd.prog w = .ok (.float .f64 (Op.negFloat .f64 x)) w := fun _ _ => rfl
  have s0 := hS 0 (by omega)
  have s1 := hS 1 (by omega)
  have s2 := hS 2 (by omega)
  have s3 := hS 3 (by omega)
  have s4 := hS 4 (by omega)
  have s5 := hS 5 (by omega)
  have c0 := hC 0 (by omega)
  have c1 := hC 1 (by omega)
  have c2 := hC 2 (by omega)
  have c3 := hC 3 (by omega)
  have c4 := hC 4 (by omega)
  have c5 := hC 5 (by omega)
  simp only [sinT, cosT, List.getD_cons_zero, List.getD_cons_succ] at s0 s1 s2 s3 s4 s5 c0 c1 c2 c3 c4 c5
  clear h1 h2 h4 h5 h6 h7 h8 h9 hzz hx hm hmR hT1 hT2 hb hS hC
  rcases (show k % 8 = 0 ∨ k % 8 = 2 ∨ k % 8 = 4 ∨ k % 8 = 6 by split at hk <;> omega) with h8 | h8 | h8 | h8
  · have q4 : k % 4 = 0 := by omega
    rw [if_neg (by omega)] at hr
    simp only [roadS, pSin, poly, Option.bind_eq_some_iff] at hr
    obtain ⟨u1, i1, pp, ⟨g1, ig1, g2, ig2, g3, ig3, g4, ig4, g5, ig5, g6, ig6, g7, ig7, g8, ig8, g9, ig9, ig10⟩, u2, i2, i3⟩ := hr
    have n1 := rm i1
    have n2 := rm i2
    have n3 := ra i3
    have m0 := rm ig1
    have m1 := ra ig2
    have m2 := rm ig3
    have m3 := ra ig4
    have m4 := rm ig5
    have m5 := ra ig6
    have m6 := rm ig7
    have m7 := ra ig8
    have m8 := rm ig9
    have m9 := ra ig10
    clear i1 i2 i3 ig1 ig2 ig3 ig4 ig5 ig6 ig7 ig8 ig9 ig10
    rw [show (true ^^ decide (k % 8 > 3)) = true by simp [h8]]
    simp only [if_true]
    by_cases hodd : j % 2 = 1
    · rw [if_pos hodd] at h3 hk a1
      have r3 := ra h3
      have a7 : bits .and .u64 (j + 1) 7 = 0 := (and7 (j + 1) (by omega) (by omega)).trans (by omega)
      clear h3 hk h8 q4 hodd
      clear hneg
      go_enter Tryd.func22, Tryd.ntmps22
      go_wp2_with (first | (go_at_call 25; refine (isNaN x q HX.out _).mono ?_; rintro e w' ⟨rfl, rfl⟩) | (go_at_call 26; refine (isInf x m HM.out (ab q) HMR.out HB.out hw _).mono ?_; rintro e w' ⟨rfl, rfl⟩) | (go_at_call 29; refine (absW x m HM.out hw _).mono ?_; rintro e w' ⟨rfl, rfl⟩))
      go_ret
      exact ⟨rfl, rfl⟩
    · rw [if_neg hodd] at h3 hk a1
      obtain rfl := Option.some.inj h3
      have a7 : bits .and .u64 j 7 = 0 := (and7 j (by omega) (by omega)).trans (by omega)
      clear h3 hk h8 q4 hodd
      go_enter Tryd.func22, Tryd.ntmps22
      go_wp2_with (first | (go_at_call 25; refine (isNaN x q HX.out _).mono ?_; rintro e w' ⟨rfl, rfl⟩) | (go_at_call 26; refine (isInf x m HM.out (ab q) HMR.out HB.out hw _).mono ?_; rintro e w' ⟨rfl, rfl⟩) | (go_at_call 29; refine (absW x m HM.out hw _).mono ?_; rintro e w' ⟨rfl, rfl⟩))
      go_ret
      exact ⟨rfl, rfl⟩
  · have q4 : k % 4 = 2 := by omega
    rw [if_pos q4] at hr
    simp only [roadC, pCos, poly, Option.bind_eq_some_iff] at hr
    obtain ⟨u1, i1, u2, i2, u3, i3, pp, ⟨g1, ig1, g2, ig2, g3, ig3, g4, ig4, g5, ig5, g6, ig6, g7, ig7, g8, ig8, g9, ig9, ig10⟩, u4, i4, i5⟩ := hr
    have n1 := rm i1
    have n2 := rs i2
    have n3 := rm i3
    have n4 := rm i4
    have n5 := ra i5
    have m0 := rm ig1
    have m1 := ra ig2
    have m2 := rm ig3
    have m3 := ra ig4
    have m4 := rm ig5
    have m5 := ra ig6
    have m6 := rm ig7
    have m7 := ra ig8
    have m8 := rm ig9
    have m9 := ra ig10
    clear i1 i2 i3 i4 i5 ig1 ig2 ig3 ig4 ig5 ig6 ig7 ig8 ig9 ig10
    rw [show (true ^^ decide (k % 8 > 3)) = true by simp [h8]]
    simp only [if_true]
    by_cases hodd : j % 2 = 1
    · rw [if_pos hodd] at h3 hk a1
      have r3 := ra h3
      have a7 : bits .and .u64 (j + 1) 7 = 2 := (and7 (j + 1) (by omega) (by omega)).trans (by omega)
      clear h3 hk h8 q4 hodd
      clear hneg
      go_enter Tryd.func22, Tryd.ntmps22
      go_wp2_with (first | (go_at_call 25; refine (isNaN x q HX.out _).mono ?_; rintro e w' ⟨rfl, rfl⟩) | (go_at_call 26; refine (isInf x m HM.out (ab q) HMR.out HB.out hw _).mono ?_; rintro e w' ⟨rfl, rfl⟩) | (go_at_call 29; refine (absW x m HM.out hw _).mono ?_; rintro e w' ⟨rfl, rfl⟩))
      go_ret
      exact ⟨rfl, rfl⟩
    · rw [if_neg hodd] at h3 hk a1
      obtain rfl := Option.some.inj h3
      have a7 : bits .and .u64 j 7 = 2 := (and7 j (by omega) (by omega)).trans (by omega)
      clear h3 hk h8 q4 hodd
      go_enter Tryd.func22, Tryd.ntmps22
      go_wp2_with (first | (go_at_call 25; refine (isNaN x q HX.out _).mono ?_; rintro e w' ⟨rfl, rfl⟩) | (go_at_call 26; refine (isInf x m HM.out (ab q) HMR.out HB.out hw _).mono ?_; rintro e w' ⟨rfl, rfl⟩) | (go_at_call 29; refine (absW x m HM.out hw _).mono ?_; rintro e w' ⟨rfl, rfl⟩))
      go_ret
      exact ⟨rfl, rfl⟩
  · have q4 : k % 4 = 0 := by omega
    rw [if_neg (by omega)] at hr
    simp only [roadS, pSin, poly, Option.bind_eq_some_iff] at hr
    obtain ⟨u1, i1, pp, ⟨g1, ig1, g2, ig2, g3, ig3, g4, ig4, g5, ig5, g6, ig6, g7, ig7, g8, ig8, g9, ig9, ig10⟩, u2, i2, i3⟩ := hr
    have n1 := rm i1
    have n2 := rm i2
    have n3 := ra i3
    have m0 := rm ig1
    have m1 := ra ig2
    have m2 := rm ig3
    have m3 := ra ig4
    have m4 := rm ig5
    have m5 := ra ig6
    have m6 := rm ig7
    have m7 := ra ig8
    have m8 := rm ig9
    have m9 := ra ig10
    clear i1 i2 i3 ig1 ig2 ig3 ig4 ig5 ig6 ig7 ig8 ig9 ig10
    rw [show (true ^^ decide (k % 8 > 3)) = false by simp [h8]]
    simp only [Bool.false_eq_true, if_false]
    by_cases hodd : j % 2 = 1
    · rw [if_pos hodd] at h3 hk a1
      have r3 := ra h3
      have a7 : bits .and .u64 (j + 1) 7 = 4 := (and7 (j + 1) (by omega) (by omega)).trans (by omega)
      clear h3 hk h8 q4 hodd
      clear hneg
      go_enter Tryd.func22, Tryd.ntmps22
      go_wp2_with (first | (go_at_call 25; refine (isNaN x q HX.out _).mono ?_; rintro e w' ⟨rfl, rfl⟩) | (go_at_call 26; refine (isInf x m HM.out (ab q) HMR.out HB.out hw _).mono ?_; rintro e w' ⟨rfl, rfl⟩) | (go_at_call 29; refine (absW x m HM.out hw _).mono ?_; rintro e w' ⟨rfl, rfl⟩))
      go_ret
      exact ⟨rfl, rfl⟩
    · rw [if_neg hodd] at h3 hk a1
      obtain rfl := Option.some.inj h3
      have a7 : bits .and .u64 j 7 = 4 := (and7 j (by omega) (by omega)).trans (by omega)
      clear h3 hk h8 q4 hodd
      go_enter Tryd.func22, Tryd.ntmps22
      go_wp2_with (first | (go_at_call 25; refine (isNaN x q HX.out _).mono ?_; rintro e w' ⟨rfl, rfl⟩) | (go_at_call 26; refine (isInf x m HM.out (ab q) HMR.out HB.out hw _).mono ?_; rintro e w' ⟨rfl, rfl⟩) | (go_at_call 29; refine (absW x m HM.out hw _).mono ?_; rintro e w' ⟨rfl, rfl⟩))
      go_ret
      exact ⟨rfl, rfl⟩
  · have q4 : k % 4 = 2 := by omega
    rw [if_pos q4] at hr
    simp only [roadC, pCos, poly, Option.bind_eq_some_iff] at hr
    obtain ⟨u1, i1, u2, i2, u3, i3, pp, ⟨g1, ig1, g2, ig2, g3, ig3, g4, ig4, g5, ig5, g6, ig6, g7, ig7, g8, ig8, g9, ig9, ig10⟩, u4, i4, i5⟩ := hr
    have n1 := rm i1
    have n2 := rs i2
    have n3 := rm i3
    have n4 := rm i4
    have n5 := ra i5
    have m0 := rm ig1
    have m1 := ra ig2
    have m2 := rm ig3
    have m3 := ra ig4
    have m4 := rm ig5
    have m5 := ra ig6
    have m6 := rm ig7
    have m7 := ra ig8
    have m8 := rm ig9
    have m9 := ra ig10
    clear i1 i2 i3 i4 i5 ig1 ig2 ig3 ig4 ig5 ig6 ig7 ig8 ig9 ig10
    rw [show (true ^^ decide (k % 8 > 3)) = false by simp [h8]]
    simp only [Bool.false_eq_true, if_false]
    by_cases hodd : j % 2 = 1
    · rw [if_pos hodd] at h3 hk a1
      have r3 := ra h3
      have a7 : bits .and .u64 (j + 1) 7 = 6 := (and7 (j + 1) (by omega) (by omega)).trans (by omega)
      clear h3 hk h8 q4 hodd
      clear hneg
      go_enter Tryd.func22, Tryd.ntmps22
      go_wp2_with (first | (go_at_call 25; refine (isNaN x q HX.out _).mono ?_; rintro e w' ⟨rfl, rfl⟩) | (go_at_call 26; refine (isInf x m HM.out (ab q) HMR.out HB.out hw _).mono ?_; rintro e w' ⟨rfl, rfl⟩) | (go_at_call 29; refine (absW x m HM.out hw _).mono ?_; rintro e w' ⟨rfl, rfl⟩))
      go_ret
      exact ⟨rfl, rfl⟩
    · rw [if_neg hodd] at h3 hk a1
      obtain rfl := Option.some.inj h3
      have a7 : bits .and .u64 j 7 = 6 := (and7 j (by omega) (by omega)).trans (by omega)
      clear h3 hk h8 q4 hodd
      go_enter Tryd.func22, Tryd.ntmps22
      go_wp2_with (first | (go_at_call 25; refine (isNaN x q HX.out _).mono ?_; rintro e w' ⟨rfl, rfl⟩) | (go_at_call 26; refine (isInf x m HM.out (ab q) HMR.out HB.out hw _).mono ?_; rintro e w' ⟨rfl, rfl⟩) | (go_at_call 29; refine (absW x m HM.out hw _).mono ?_; rintro e w' ⟨rfl, rfl⟩))
      go_ret
      exact ⟨rfl, rfl⟩
end Go.Proofs.YthjbaeipdjoenaaDoor
