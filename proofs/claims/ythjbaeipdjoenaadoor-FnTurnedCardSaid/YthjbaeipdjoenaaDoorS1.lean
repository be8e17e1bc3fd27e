/-
Contracts of math.IsNaN, math.Abs and math.IsInf at finite words.
-/
import Derived.Test.YthjbaeipdjoenaaDoorA1
import Derived.Test.YthjbaeipdjoenaaDoorS0
import Derived.Laws.BitsAll
import Derived.Laws.Externs
import Derived.Below
namespace Go.Proofs.YthjbaeipdjoenaaDoor
open Go.RowKit Fl

theorem isNaN (x : Nat) (q : Rat) (hx : R x q) (w : World) : Calls Tryd.prog 25 #[.float .f64 x] w fun e w' => e = .returned (.bool false) ∧ w = w' := by
  have h := f_neq hx hx (b := false) (by simp)
  go_enter Tryd.func25, Tryd.ntmps25
  go_wp2
  go_ret
  exact ⟨rfl, rfl⟩
theorem word_and (x : Nat) : x &&& 9223372036854775807 = x % 9223372036854775808 := by
  exact Nat.and_two_pow_sub_one_eq_mod x 63
theorem bits_run (x : Nat) (w : World) : (callFunc 31 #[.float .f64 x]).run Tryd.prog w = .ok (.value (.int .u64 x)) w := by
  rw [run_callFunc_extern (e := Extern.MathFloatBits.float64bits) Tryd.func31 (by kernel_rfl) (by kernel_rfl) (by kernel_rfl) (by kernel_rfl)]
  rfl
theorem from_run (x : Nat) (w : World) : (callFunc 30 #[.int .u64 (x : Int)]).run Tryd.prog w = .ok (.value (.float .f64 x)) w := by
  rw [run_callFunc_extern (e := Extern.MathFloatBits.float64frombits) Tryd.func30 (by kernel_rfl) (by kernel_rfl) (by kernel_rfl) (by kernel_rfl)]
  rfl
theorem absW (x m : Nat) (hm : m = x % 9223372036854775808) (hx : x < 18446744073709551616) (w : World) : Calls Tryd.prog 29 #[.float .f64 x] w fun e w' => e = .returned (.float .f64 m) ∧ w = w' := by
  have h1 : ∀ w : World, (callFunc 31 #[.float .f64 x]).run Tryd.prog w = .ok (.value (.int .u64 x)) w := fun w => bits_run x w
  have h2 : ∀ (y : Nat) (w : World), (callFunc 30 #[.int .u64 (y : Int)]).run Tryd.prog w = .ok (.value (.float .f64 y)) w := fun y w => from_run y w
  have h4 : bits .andNot .u64 (x : Int) 9223372036854775808 = (m : Int) := by
    have := u64_andNot_nat x 9223372036854775808 hx (by decide)
    rw [hm, ← word_and x]
    exact this
  clear hm
  go_enter Tryd.func29, Tryd.ntmps29
  go_wp2
  go_ret
  exact ⟨rfl, rfl⟩
theorem isInf (x m : Nat) (hm : m = x % 9223372036854775808) (q : Rat) (hx : R m q) (hb : q ≤ 1000000) (hw : x < 18446744073709551616) (w : World) : Calls Tryd.prog 26 #[.float .f64 x, .int .i64 0] w fun e w' => e = .returned (.bool false) ∧ w = w' := by
  have hm : ∃ z, R 9218868437227405311 z ∧ 1000000 < z := ⟨_, R_lit (s := false) (m := 9007199254740991) (e := 971) (by decide +kernel) rfl, by decide +kernel⟩
  obtain ⟨z, hz, hlt⟩ := hm
  have h := f_gtr hx hz (b := false) (by simp; grind)
  have HM := Lib.hid hm
  clear hz hlt hx hb hm
  go_enter Tryd.func26, Tryd.ntmps26
  go_wp2_with (go_at_call 29; refine (absW x m HM.out hw _).mono ?_; rintro e w' ⟨rfl, rfl⟩)
  go_ret
  exact ⟨rfl, rfl⟩
end Go.Proofs.YthjbaeipdjoenaaDoor
