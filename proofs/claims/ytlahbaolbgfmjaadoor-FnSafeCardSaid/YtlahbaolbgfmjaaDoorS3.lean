/-
The law FnSafe: sums and products of all numbers: the cases joined. Conditions: the numbers are within 64 bits; the sentinel's variable holds an error.
-/
import Derived.Test.YtlahbaolbgfmjaaDoorS2
namespace Go.Proofs.YtlahbaolbgfmjaaDoor
open Go.RowKit Go.ChangeShapes

theorem wrap_self (x : Int) (h : 0 ≤ x) (k : x ≤ 9223372036854775807) : wrap64 x = x := by unfold wrap64; omega
theorem wrap_le (x : Int) : wrap64 x ≤ 9223372036854775807 := by unfold wrap64; omega
theorem quot_ne (a b P : Int) (hb : 0 < b) (hP : 0 ≤ P) (hP' : P ≤ 9223372036854775807) (h : 9223372036854775807 < a * b) : ¬ wrap64 (P.tdiv b) = a := by
  have h0 := Int.tdiv_eq_ediv_of_nonneg (b := b) hP
  have h1 : 0 ≤ P / b := Int.ediv_nonneg hP (by omega)
  have h2 : P / b ≤ P := Int.ediv_le_self b hP
  rw [h0, wrap_self _ h1 (by omega)]
  intro e
  have h3 : P / b * b ≤ P := Int.ediv_mul_le P (by omega)
  rw [e] at h3
  omega

theorem law_all (a b : Int) (p : Option Addr) (w : World) (hv : w.cell? ⟨0, 0, none⟩ = some (.iface 52 (.pointer p))) (ha : -9223372036854775808 ≤ a ∧ a ≤ 9223372036854775807) (hb : -9223372036854775808 ≤ b ∧ b ≤ 9223372036854775807) : Law a b w := by
  have cv : ∀ W, Same w W → W.cell? ⟨0, 0, none⟩ = some (.iface 52 (.pointer p)) := fun W s => (s.cell _).trans hv
  by_cases na : a < 0
  · exact law_neg a b w (by omega) (fun W s => add_neg a b p W (cv W s) na) (fun W s => mul_neg a b p W (cv W s) na) (fun W s => mul_neg64 a b p W (cv W s) na)
  by_cases nb : b < 0
  · exact law_neg2 a b w (by omega) (by omega) (fun W s => add_neg2 a b p W (cv W s) na nb) (fun W s => mul_neg2 a b p W (cv W s) na nb) (fun W s => mul_neg264 a b p W (cv W s) na nb)
  have a0 : 0 ≤ a := by omega
  have b0 : 0 ≤ b := by omega
  by_cases hs : a ≤ 9223372036854775807 - b
  · have hS : wrap64 (a + b) = a + b := wrap_self _ (by omega) (by omega)
    have t1 : Tells 5 a b (a + b) true w := fun W _ => add_ok a b W a0 b0 hs hb.2
    by_cases za : a = 0
    · have hP : wrap64 (a * b) = 0 := by rw [za, Int.zero_mul]; exact wrap_self 0 (by decide) (by decide)
      exact law_sz a b _ 0 w a0 b0 hS (by omega) (by simpa using za) hP t1 (fun W _ => mul_zero a b W za nb) (fun W _ => mul_zero64 a b W za nb)
    have fa : (a == 0) = false := by simpa using za
    by_cases zb : b = 0
    · have hP : wrap64 (a * b) = 0 := by rw [zb, Int.mul_zero]; exact wrap_self 0 (by decide) (by decide)
      have hq : ¬ b > 9223372036854775807 / a := by
        have := Int.ediv_nonneg (a := 9223372036854775807) (by decide) a0
        omega
      exact law_sy a b _ 0 w a0 b0 hS (by omega) fa (by simpa using zb) hP t1 (fun W _ => mul_ok a b W 0 na nb za hq hP) (fun W _ => mul_ok64 a b W 0 na nb za hq hP)
    have fb : (b == 0) = false := by simpa using zb
    by_cases hq : b > 9223372036854775807 / a
    · have hbig : 9223372036854775807 < a * b := by
        have := (Int.ediv_lt_iff_lt_mul (show 0 < a by omega)).1 hq
        rw [Int.mul_comm]; exact this
      have t2 : Tells 6 a b 0 false w := fun W s => mul_over a b p W (cv W s) na nb za hq
      have t3 : Tells 7 a b 0 false w := fun W s => mul_over64 a b p W (cv W s) na nb za hq
      by_cases hP : wrap64 (a * b) ≥ 0
      · have hd := quot_ne a b _ (by omega) hP (wrap_le _) hbig
        exact law_sq a b _ _ w a0 b0 hS (by omega) fa fb zb rfl hP (by simpa using hd) t1 t2 t3
      · exact law_sn a b _ _ w a0 b0 hS (by omega) fa fb rfl hP t1 t2 t3
    · have hsm : a * b ≤ 9223372036854775807 := by
        have := (Int.le_ediv_iff_mul_le (show 0 < a by omega)).1 (Int.not_lt.1 hq)
        rw [Int.mul_comm]; exact this
      have hP0 : 0 ≤ a * b := Int.mul_nonneg a0 b0
      have hP : wrap64 (a * b) = a * b := wrap_self _ hP0 hsm
      have hd : wrap64 ((a * b).tdiv b) = a := by rw [Int.mul_tdiv_cancel a zb]; exact wrap_self a a0 ha.2
      exact law_sp a b _ _ w a0 b0 hS (by omega) fa fb zb hP hP0 hd t1 (fun W _ => mul_ok a b W _ na nb za hq hP) (fun W _ => mul_ok64 a b W _ na nb za hq hP)
  · have hS0 : ¬ wrap64 (a + b) ≥ 0 := by unfold wrap64; omega
    have t1 : Tells 5 a b 0 false w := fun W s => add_over a b p W (cv W s) na nb hb.2 (by omega)
    by_cases za : a = 0
    · omega
    have fa : (a == 0) = false := by simpa using za
    by_cases zb : b = 0
    · omega
    have fb : (b == 0) = false := by simpa using zb
    by_cases hq : b > 9223372036854775807 / a
    · have hbig : 9223372036854775807 < a * b := by
        have := (Int.ediv_lt_iff_lt_mul (show 0 < a by omega)).1 hq
        rw [Int.mul_comm]; exact this
      have t2 : Tells 6 a b 0 false w := fun W s => mul_over a b p W (cv W s) na nb za hq
      have t3 : Tells 7 a b 0 false w := fun W s => mul_over64 a b p W (cv W s) na nb za hq
      by_cases hP : wrap64 (a * b) ≥ 0
      · have hd := quot_ne a b _ (by omega) hP (wrap_le _) hbig
        exact law_oq a b _ _ w a0 b0 rfl hS0 fa fb zb rfl hP (by simpa using hd) t1 t2 t3
      · exact law_on a b _ _ w a0 b0 rfl hS0 fa fb rfl hP t1 t2 t3
    · have hsm : a * b ≤ 9223372036854775807 := by
        have := (Int.le_ediv_iff_mul_le (show 0 < a by omega)).1 (Int.not_lt.1 hq)
        rw [Int.mul_comm]; exact this
      have hP0 : 0 ≤ a * b := Int.mul_nonneg a0 b0
      have hP : wrap64 (a * b) = a * b := wrap_self _ hP0 hsm
      have hd : wrap64 ((a * b).tdiv b) = a := by rw [Int.mul_tdiv_cancel a zb]; exact wrap_self a a0 ha.2
      exact law_op a b _ _ w a0 b0 rfl hS0 fa fb zb hP hP0 hd t1 (fun W _ => mul_ok a b W _ na nb za hq hP) (fun W _ => mul_ok64 a b W _ na nb za hq hP)
end Go.Proofs.YtlahbaolbgfmjaaDoor
