/-
The law FnSafe: sums and products that are told or not: the program's functions walked. Conditions: what the sentinel's variable holds is an error.
-/
import Derived.Test.YtlahbaolbgfmjaaDoorRows
import Derived.WalkKit
import Derived.ProofKit
import Derived.BigQuiet
import Derived.Below
namespace Go.Proofs.YtlahbaolbgfmjaaDoor
open Go.RowKit Go.ChangeShapes

theorem hid {p : Prop} (h : p) : Hid p := h
/-- Only draws between them. -/
def Same (w w' : World) : Prop := w'.heap = w.heap ∧ w'.os = w.os ∧ w'.tape = w.tape ∧ w'.output = w.output
theorem Same.trans {a b c : World} (h : Same a b) (k : Same b c) : Same a c := ⟨k.1.trans h.1, k.2.1.trans h.2.1, k.2.2.1.trans h.2.2.1, k.2.2.2.trans h.2.2.2⟩
theorem Same.below {w w' : World} (h : Same w w') : Below w.heap.size w w' := ⟨h.2.1, h.2.2.1, h.2.2.2, by rw [h.1]; exact Nat.le_refl _, fun i _ => by rw [h.1]⟩
theorem Same.cell {w w' : World} (h : Same w w') (a : Addr) : w'.cell? a = w.cell? a := World.cell?_of_block (by rw [h.1])

theorem add_ok (a b : Int) (w : World) (ha : 0 ≤ a) (hb : 0 ≤ b) (hs : a ≤ 9223372036854775807 - b) (hM : b ≤ 9223372036854775807) :
    Calls Tryd.prog 5 #[.int .i64 a, .int .i64 b] w fun e w' => e = .returned (.tuple #[.int .i64 (a + b), .bool true]) ∧ Same w w' := by
  have w1 : wrap64 (9223372036854775807 - b) = 9223372036854775807 - b := by unfold wrap64; omega
  have w2 : wrap64 (a + b) = a + b := by unfold wrap64; omega
  have n1 : ¬ a < 0 := by omega
  have n2 : ¬ b < 0 := by omega
  have n3 : ¬ a > 9223372036854775807 - b := by omega
  clear ha hb hs hM
  go_enter Tryd.func5, Tryd.ntmps5
  go_wp2_with (go_at_call 9; go_in)
  go_quiet (fail)
  go_wp2
  exact bodyPost_ret (v := .tuple #[_, _]) (by simp [results, Tryd.results5, go_sem]) rfl ⟨rfl, rfl, rfl, rfl, rfl⟩
theorem add_neg (a b : Int) (p : Option Addr) (w : World) (hv : w.cell? ⟨0, 0, none⟩ = some (.iface 52 (.pointer p))) (h : a < 0) :
    Calls Tryd.prog 5 #[.int .i64 a, .int .i64 b] w fun e w' => e = .returned (.tuple #[.int .i64 0, .bool false]) ∧ Same w w' := by
  go_enter Tryd.func5, Tryd.ntmps5
  go_wp2_with (go_at_call 9; go_in)
  go_quiet (fail)
  go_wp2
  go_quiet (fail)
  go_wp2
  exact bodyPost_ret (v := .tuple #[_, _]) (by simp [results, Tryd.results5, go_sem]) rfl ⟨rfl, rfl, rfl, rfl, rfl⟩
theorem add_neg2 (a b : Int) (p : Option Addr) (w : World) (hv : w.cell? ⟨0, 0, none⟩ = some (.iface 52 (.pointer p))) (ha : ¬ a < 0) (h : b < 0) :
    Calls Tryd.prog 5 #[.int .i64 a, .int .i64 b] w fun e w' => e = .returned (.tuple #[.int .i64 0, .bool false]) ∧ Same w w' := by
  go_enter Tryd.func5, Tryd.ntmps5
  go_wp2_with (go_at_call 9; go_in)
  go_quiet (fail)
  go_wp2
  go_quiet (fail)
  go_wp2
  exact bodyPost_ret (v := .tuple #[_, _]) (by simp [results, Tryd.results5, go_sem]) rfl ⟨rfl, rfl, rfl, rfl, rfl⟩
theorem add_over (a b : Int) (p : Option Addr) (w : World) (hv : w.cell? ⟨0, 0, none⟩ = some (.iface 52 (.pointer p))) (ha : ¬ a < 0) (hb : ¬ b < 0) (hM : b ≤ 9223372036854775807) (h : a > 9223372036854775807 - b) :
    Calls Tryd.prog 5 #[.int .i64 a, .int .i64 b] w fun e w' => e = .returned (.tuple #[.int .i64 0, .bool false]) ∧ Same w w' := by
  have w1 : wrap64 (9223372036854775807 - b) = 9223372036854775807 - b := by unfold wrap64; omega
  clear hM
  go_enter Tryd.func5, Tryd.ntmps5
  go_wp2_with (go_at_call 9; go_in)
  go_quiet (fail)
  go_wp2
  go_quiet (fail)
  go_wp2
  exact bodyPost_ret (v := .tuple #[_, _]) (by simp [results, Tryd.results5, go_sem]) rfl ⟨rfl, rfl, rfl, rfl, rfl⟩
theorem mul_neg (a b : Int) (p : Option Addr) (w : World) (hv : w.cell? ⟨0, 0, none⟩ = some (.iface 52 (.pointer p))) (h : a < 0) :
    Calls Tryd.prog 6 #[.int .i64 a, .int .i64 b] w fun e w' => e = .returned (.tuple #[.int .i64 0, .bool false]) ∧ Same w w' := by
  go_enter Tryd.func6, Tryd.ntmps6
  go_wp2_with (go_at_call 10; go_in)
  go_quiet (fail)
  go_wp2
  go_quiet (fail)
  go_wp2
  exact bodyPost_ret (v := .tuple #[_, _]) (by simp [results, Tryd.results6, go_sem]) rfl ⟨rfl, rfl, rfl, rfl, rfl⟩
theorem mul_neg2 (a b : Int) (p : Option Addr) (w : World) (hv : w.cell? ⟨0, 0, none⟩ = some (.iface 52 (.pointer p))) (ha : ¬ a < 0) (h : b < 0) :
    Calls Tryd.prog 6 #[.int .i64 a, .int .i64 b] w fun e w' => e = .returned (.tuple #[.int .i64 0, .bool false]) ∧ Same w w' := by
  go_enter Tryd.func6, Tryd.ntmps6
  go_wp2_with (go_at_call 10; go_in)
  go_quiet (fail)
  go_wp2
  go_quiet (fail)
  go_wp2
  exact bodyPost_ret (v := .tuple #[_, _]) (by simp [results, Tryd.results6, go_sem]) rfl ⟨rfl, rfl, rfl, rfl, rfl⟩
theorem mul_over (a b : Int) (p : Option Addr) (w : World) (hv : w.cell? ⟨0, 0, none⟩ = some (.iface 52 (.pointer p))) (ha : ¬ a < 0) (hb : ¬ b < 0) (ha0 : a ≠ 0) (h : b > 9223372036854775807 / a) :
    Calls Tryd.prog 6 #[.int .i64 a, .int .i64 b] w fun e w' => e = .returned (.tuple #[.int .i64 0, .bool false]) ∧ Same w w' := by
  have n1 : (a != 0) = true := by simpa using ha0
  have n2 : (a == 0) = false := by simpa using ha0
  go_enter Tryd.func6, Tryd.ntmps6
  go_wp2_with (go_at_call 10; go_in)
  go_quiet (fail)
  go_wp2
  go_quiet (fail)
  go_wp2
  exact bodyPost_ret (v := .tuple #[_, _]) (by simp [results, Tryd.results6, go_sem]) rfl ⟨rfl, rfl, rfl, rfl, rfl⟩
theorem mul_zero (a b : Int) (w : World) (ha : a = 0) (hb : ¬ b < 0) :
    Calls Tryd.prog 6 #[.int .i64 a, .int .i64 b] w fun e w' => e = .returned (.tuple #[.int .i64 0, .bool true]) ∧ Same w w' := by
  subst ha
  go_enter Tryd.func6, Tryd.ntmps6
  go_wp2_with (go_at_call 10; go_in)
  go_quiet (fail)
  go_wp2
  exact bodyPost_ret (v := .tuple #[_, _]) (by simp [results, Tryd.results6, go_sem]) rfl ⟨rfl, rfl, rfl, rfl, rfl⟩
theorem mul_ok (a b : Int) (w : World) (P : Int) (ha : ¬ a < 0) (hb : ¬ b < 0) (ha0 : a ≠ 0) (h : ¬ b > 9223372036854775807 / a) (hP : wrap64 (a * b) = P) :
    Calls Tryd.prog 6 #[.int .i64 a, .int .i64 b] w fun e w' => e = .returned (.tuple #[.int .i64 P, .bool true]) ∧ Same w w' := by
  have n1 : (a != 0) = true := by simpa using ha0
  have n2 : (a == 0) = false := by simpa using ha0
  go_enter Tryd.func6, Tryd.ntmps6
  go_wp2_with (go_at_call 10; go_in)
  go_quiet (fail)
  go_wp2
  exact bodyPost_ret (v := .tuple #[_, _]) (by simp [results, Tryd.results6, go_sem]) rfl ⟨rfl, rfl, rfl, rfl, rfl⟩
theorem mul_neg64 (a b : Int) (p : Option Addr) (w : World) (hv : w.cell? ⟨0, 0, none⟩ = some (.iface 52 (.pointer p))) (h : a < 0) :
    Calls Tryd.prog 7 #[.int .i64 a, .int .i64 b] w fun e w' => e = .returned (.tuple #[.int .i64 0, .bool false]) ∧ Same w w' := by
  go_enter Tryd.func7, Tryd.ntmps7
  go_wp2_with (go_at_call 11; go_in)
  go_quiet (fail)
  go_wp2
  go_quiet (fail)
  go_wp2
  exact bodyPost_ret (v := .tuple #[_, _]) (by simp [results, Tryd.results7, go_sem]) rfl ⟨rfl, rfl, rfl, rfl, rfl⟩
theorem mul_neg264 (a b : Int) (p : Option Addr) (w : World) (hv : w.cell? ⟨0, 0, none⟩ = some (.iface 52 (.pointer p))) (ha : ¬ a < 0) (h : b < 0) :
    Calls Tryd.prog 7 #[.int .i64 a, .int .i64 b] w fun e w' => e = .returned (.tuple #[.int .i64 0, .bool false]) ∧ Same w w' := by
  go_enter Tryd.func7, Tryd.ntmps7
  go_wp2_with (go_at_call 11; go_in)
  go_quiet (fail)
  go_wp2
  go_quiet (fail)
  go_wp2
  exact bodyPost_ret (v := .tuple #[_, _]) (by simp [results, Tryd.results7, go_sem]) rfl ⟨rfl, rfl, rfl, rfl, rfl⟩
theorem mul_over64 (a b : Int) (p : Option Addr) (w : World) (hv : w.cell? ⟨0, 0, none⟩ = some (.iface 52 (.pointer p))) (ha : ¬ a < 0) (hb : ¬ b < 0) (ha0 : a ≠ 0) (h : b > 9223372036854775807 / a) :
    Calls Tryd.prog 7 #[.int .i64 a, .int .i64 b] w fun e w' => e = .returned (.tuple #[.int .i64 0, .bool false]) ∧ Same w w' := by
  have n1 : (a != 0) = true := by simpa using ha0
  have n2 : (a == 0) = false := by simpa using ha0
  go_enter Tryd.func7, Tryd.ntmps7
  go_wp2_with (go_at_call 11; go_in)
  go_quiet (fail)
  go_wp2
  go_quiet (fail)
  go_wp2
  exact bodyPost_ret (v := .tuple #[_, _]) (by simp [results, Tryd.results7, go_sem]) rfl ⟨rfl, rfl, rfl, rfl, rfl⟩
theorem mul_zero64 (a b : Int) (w : World) (ha : a = 0) (hb : ¬ b < 0) :
    Calls Tryd.prog 7 #[.int .i64 a, .int .i64 b] w fun e w' => e = .returned (.tuple #[.int .i64 0, .bool true]) ∧ Same w w' := by
  subst ha
  go_enter Tryd.func7, Tryd.ntmps7
  go_wp2_with (go_at_call 11; go_in)
  go_quiet (fail)
  go_wp2
  exact bodyPost_ret (v := .tuple #[_, _]) (by simp [results, Tryd.results7, go_sem]) rfl ⟨rfl, rfl, rfl, rfl, rfl⟩
theorem mul_ok64 (a b : Int) (w : World) (P : Int) (ha : ¬ a < 0) (hb : ¬ b < 0) (ha0 : a ≠ 0) (h : ¬ b > 9223372036854775807 / a) (hP : wrap64 (a * b) = P) :
    Calls Tryd.prog 7 #[.int .i64 a, .int .i64 b] w fun e w' => e = .returned (.tuple #[.int .i64 P, .bool true]) ∧ Same w w' := by
  have n1 : (a != 0) = true := by simpa using ha0
  have n2 : (a == 0) = false := by simpa using ha0
  go_enter Tryd.func7, Tryd.ntmps7
  go_wp2_with (go_at_call 11; go_in)
  go_quiet (fail)
  go_wp2
  exact bodyPost_ret (v := .tuple #[_, _]) (by simp [results, Tryd.results7, go_sem]) rfl ⟨rfl, rfl, rfl, rfl, rfl⟩
end Go.Proofs.YtlahbaolbgfmjaaDoor
