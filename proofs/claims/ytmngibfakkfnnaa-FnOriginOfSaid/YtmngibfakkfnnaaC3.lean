/-
The law FnOriginOf: the law's own function walked, word by word. Conditions: none.
-/
import Derived.Test.YtmngibfakkfnnaaC2
namespace Go.Proofs.Ytmngibfakkfnnaa
open Go.RowKit Go.ChangeShapes Go.Proofs.YtmngibfakkfnnaaW.PrintWords

theorem originOf_000 (w : World) :
    Calls Try.prog 3 #[.int .i64 0, .bool false, .bool false] w fun e w' => e = .returned (.bool true) ∧ Below w.heap.size w w' := by
  have hl : lowered ⟨#[108, 108]⟩ = ⟨#[108, 108]⟩ := by kernel_rfl
  have O : ∀ W, Calls Try.prog 11 #[.string ⟨#[108, 108]⟩] W fun e w' => e = .returned (.tuple #[.int .i64 0, .bool true]) ∧ Below W.heap.size W w' := fun W => origin_ok_ll ⟨#[108, 108]⟩ W (by decide) hl
  replace O := hid O
  have hx : lowered ⟨#[108, 108, 120]⟩ = ⟨#[108, 108, 120]⟩ := by kernel_rfl
  have x0 : ((⟨#[108, 108, 120]⟩ : ByteArray).toList == [108, 108]) = false := by kernel_rfl
  have x1 : ((⟨#[108, 108, 120]⟩ : ByteArray).toList == [108, 111, 119, 101, 114, 108, 101, 102, 116]) = false := by kernel_rfl
  have x2 : ((⟨#[108, 108, 120]⟩ : ByteArray).toList == [108, 114]) = false := by kernel_rfl
  have x3 : ((⟨#[108, 108, 120]⟩ : ByteArray).toList == [108, 111, 119, 101, 114, 114, 105, 103, 104, 116]) = false := by kernel_rfl
  have x4 : ((⟨#[108, 108, 120]⟩ : ByteArray).toList == [117, 108]) = false := by kernel_rfl
  have x5 : ((⟨#[108, 108, 120]⟩ : ByteArray).toList == [117, 112, 112, 101, 114, 108, 101, 102, 116]) = false := by kernel_rfl
  have x6 : ((⟨#[108, 108, 120]⟩ : ByteArray).toList == [117, 114]) = false := by kernel_rfl
  have x7 : ((⟨#[108, 108, 120]⟩ : ByteArray).toList == [117, 112, 112, 101, 114, 114, 105, 103, 104, 116]) = false := by kernel_rfl
  have hc : (⟨#[108, 108]⟩ ++ ⟨#[120]⟩ : ByteArray) = ⟨#[108, 108, 120]⟩ := by kernel_rfl
  have X : ∀ W, Calls Try.prog 11 #[.string (⟨#[108, 108]⟩ ++ ⟨#[120]⟩)] W fun e w' => e = .returned (.tuple #[.int .i64 0, .bool false]) ∧ Below W.heap.size W w' := fun W => by rw [hc]; exact origin_bad ⟨#[108, 108, 120]⟩ ⟨#[108, 108, 120]⟩ W (by decide) hx x0 x1 x2 x3 x4 x5 x6 x7
  replace X := hid X
  clear hc hl hx x0 x1 x2 x3 x4 x5 x6 x7
  go_enter Try.func3, Try.ntmps3
  go_wp2_with (first | (go_at_call 11; with_reducible refine (O.out _).mono ?_; rintro e w' ⟨rfl, hb1⟩) | (go_at_call 11; with_reducible refine (X.out _).mono ?_; rintro e w' ⟨rfl, hb2⟩))
  go_ret
  exact ⟨rfl, by repeat (first | (with_reducible exact Below.refl _ _) | (with_reducible refine below_step ?_ hb2) | (with_reducible refine below_step ?_ hb1) | (with_reducible refine below_step ?_ hb0) | (with_reducible apply pw_below_drewN) | (with_reducible apply below_alloc) | (with_reducible apply below_drew1))⟩

theorem originOf_001 (w : World) :
    Calls Try.prog 3 #[.int .i64 0, .bool false, .bool true] w fun e w' => e = .returned (.bool true) ∧ Below w.heap.size w w' := by
  have G : ∀ W, Calls Try.prog 10 #[.string ⟨#[108, 108]⟩] W fun e w' => e = .returned (.string ⟨#[76, 76]⟩) ∧ Below W.heap.size W w' := fun W => by have := upper_calls ⟨#[108, 108]⟩ W (by decide); rw [show (⟨((⟨#[108, 108]⟩ : ByteArray).data.toList.map great).toArray⟩ : ByteArray) = ⟨#[76, 76]⟩ by kernel_rfl] at this; exact this
  replace G := hid G
  have hl : lowered ⟨#[76, 76]⟩ = ⟨#[108, 108]⟩ := by kernel_rfl
  have O : ∀ W, Calls Try.prog 11 #[.string ⟨#[76, 76]⟩] W fun e w' => e = .returned (.tuple #[.int .i64 0, .bool true]) ∧ Below W.heap.size W w' := fun W => origin_ok_ll ⟨#[76, 76]⟩ W (by decide) hl
  replace O := hid O
  have hx : lowered ⟨#[76, 76, 120]⟩ = ⟨#[108, 108, 120]⟩ := by kernel_rfl
  have x0 : ((⟨#[108, 108, 120]⟩ : ByteArray).toList == [108, 108]) = false := by kernel_rfl
  have x1 : ((⟨#[108, 108, 120]⟩ : ByteArray).toList == [108, 111, 119, 101, 114, 108, 101, 102, 116]) = false := by kernel_rfl
  have x2 : ((⟨#[108, 108, 120]⟩ : ByteArray).toList == [108, 114]) = false := by kernel_rfl
  have x3 : ((⟨#[108, 108, 120]⟩ : ByteArray).toList == [108, 111, 119, 101, 114, 114, 105, 103, 104, 116]) = false := by kernel_rfl
  have x4 : ((⟨#[108, 108, 120]⟩ : ByteArray).toList == [117, 108]) = false := by kernel_rfl
  have x5 : ((⟨#[108, 108, 120]⟩ : ByteArray).toList == [117, 112, 112, 101, 114, 108, 101, 102, 116]) = false := by kernel_rfl
  have x6 : ((⟨#[108, 108, 120]⟩ : ByteArray).toList == [117, 114]) = false := by kernel_rfl
  have x7 : ((⟨#[108, 108, 120]⟩ : ByteArray).toList == [117, 112, 112, 101, 114, 114, 105, 103, 104, 116]) = false := by kernel_rfl
  have hc : (⟨#[76, 76]⟩ ++ ⟨#[120]⟩ : ByteArray) = ⟨#[76, 76, 120]⟩ := by kernel_rfl
  have X : ∀ W, Calls Try.prog 11 #[.string (⟨#[76, 76]⟩ ++ ⟨#[120]⟩)] W fun e w' => e = .returned (.tuple #[.int .i64 0, .bool false]) ∧ Below W.heap.size W w' := fun W => by rw [hc]; exact origin_bad ⟨#[76, 76, 120]⟩ ⟨#[108, 108, 120]⟩ W (by decide) hx x0 x1 x2 x3 x4 x5 x6 x7
  replace X := hid X
  clear hc hl hx x0 x1 x2 x3 x4 x5 x6 x7
  go_enter Try.func3, Try.ntmps3
  go_wp2_with (first | (go_at_call 10; with_reducible refine (G.out _).mono ?_; rintro e w' ⟨rfl, hb0⟩) | (go_at_call 11; with_reducible refine (O.out _).mono ?_; rintro e w' ⟨rfl, hb1⟩) | (go_at_call 11; with_reducible refine (X.out _).mono ?_; rintro e w' ⟨rfl, hb2⟩))
  go_ret
  exact ⟨rfl, by repeat (first | (with_reducible exact Below.refl _ _) | (with_reducible refine below_step ?_ hb2) | (with_reducible refine below_step ?_ hb1) | (with_reducible refine below_step ?_ hb0) | (with_reducible apply pw_below_drewN) | (with_reducible apply below_alloc) | (with_reducible apply below_drew1))⟩

theorem originOf_010 (w : World) :
    Calls Try.prog 3 #[.int .i64 0, .bool true, .bool false] w fun e w' => e = .returned (.bool true) ∧ Below w.heap.size w w' := by
  have hl : lowered ⟨#[108, 111, 119, 101, 114, 108, 101, 102, 116]⟩ = ⟨#[108, 111, 119, 101, 114, 108, 101, 102, 116]⟩ := by kernel_rfl
  have O : ∀ W, Calls Try.prog 11 #[.string ⟨#[108, 111, 119, 101, 114, 108, 101, 102, 116]⟩] W fun e w' => e = .returned (.tuple #[.int .i64 0, .bool true]) ∧ Below W.heap.size W w' := fun W => origin_ok_lowerleft ⟨#[108, 111, 119, 101, 114, 108, 101, 102, 116]⟩ W (by decide) hl
  replace O := hid O
  have hx : lowered ⟨#[108, 111, 119, 101, 114, 108, 101, 102, 116, 120]⟩ = ⟨#[108, 111, 119, 101, 114, 108, 101, 102, 116, 120]⟩ := by kernel_rfl
  have x0 : ((⟨#[108, 111, 119, 101, 114, 108, 101, 102, 116, 120]⟩ : ByteArray).toList == [108, 108]) = false := by kernel_rfl
  have x1 : ((⟨#[108, 111, 119, 101, 114, 108, 101, 102, 116, 120]⟩ : ByteArray).toList == [108, 111, 119, 101, 114, 108, 101, 102, 116]) = false := by kernel_rfl
  have x2 : ((⟨#[108, 111, 119, 101, 114, 108, 101, 102, 116, 120]⟩ : ByteArray).toList == [108, 114]) = false := by kernel_rfl
  have x3 : ((⟨#[108, 111, 119, 101, 114, 108, 101, 102, 116, 120]⟩ : ByteArray).toList == [108, 111, 119, 101, 114, 114, 105, 103, 104, 116]) = false := by kernel_rfl
  have x4 : ((⟨#[108, 111, 119, 101, 114, 108, 101, 102, 116, 120]⟩ : ByteArray).toList == [117, 108]) = false := by kernel_rfl
  have x5 : ((⟨#[108, 111, 119, 101, 114, 108, 101, 102, 116, 120]⟩ : ByteArray).toList == [117, 112, 112, 101, 114, 108, 101, 102, 116]) = false := by kernel_rfl
  have x6 : ((⟨#[108, 111, 119, 101, 114, 108, 101, 102, 116, 120]⟩ : ByteArray).toList == [117, 114]) = false := by kernel_rfl
  have x7 : ((⟨#[108, 111, 119, 101, 114, 108, 101, 102, 116, 120]⟩ : ByteArray).toList == [117, 112, 112, 101, 114, 114, 105, 103, 104, 116]) = false := by kernel_rfl
  have hc : (⟨#[108, 111, 119, 101, 114, 108, 101, 102, 116]⟩ ++ ⟨#[120]⟩ : ByteArray) = ⟨#[108, 111, 119, 101, 114, 108, 101, 102, 116, 120]⟩ := by kernel_rfl
  have X : ∀ W, Calls Try.prog 11 #[.string (⟨#[108, 111, 119, 101, 114, 108, 101, 102, 116]⟩ ++ ⟨#[120]⟩)] W fun e w' => e = .returned (.tuple #[.int .i64 0, .bool false]) ∧ Below W.heap.size W w' := fun W => by rw [hc]; exact origin_bad ⟨#[108, 111, 119, 101, 114, 108, 101, 102, 116, 120]⟩ ⟨#[108, 111, 119, 101, 114, 108, 101, 102, 116, 120]⟩ W (by decide) hx x0 x1 x2 x3 x4 x5 x6 x7
  replace X := hid X
  clear hc hl hx x0 x1 x2 x3 x4 x5 x6 x7
  go_enter Try.func3, Try.ntmps3
  go_wp2_with (first | (go_at_call 11; with_reducible refine (O.out _).mono ?_; rintro e w' ⟨rfl, hb1⟩) | (go_at_call 11; with_reducible refine (X.out _).mono ?_; rintro e w' ⟨rfl, hb2⟩))
  go_ret
  exact ⟨rfl, by repeat (first | (with_reducible exact Below.refl _ _) | (with_reducible refine below_step ?_ hb2) | (with_reducible refine below_step ?_ hb1) | (with_reducible refine below_step ?_ hb0) | (with_reducible apply pw_below_drewN) | (with_reducible apply below_alloc) | (with_reducible apply below_drew1))⟩

theorem originOf_011 (w : World) :
    Calls Try.prog 3 #[.int .i64 0, .bool true, .bool true] w fun e w' => e = .returned (.bool true) ∧ Below w.heap.size w w' := by
  have G : ∀ W, Calls Try.prog 10 #[.string ⟨#[108, 111, 119, 101, 114, 108, 101, 102, 116]⟩] W fun e w' => e = .returned (.string ⟨#[76, 79, 87, 69, 82, 76, 69, 70, 84]⟩) ∧ Below W.heap.size W w' := fun W => by have := upper_calls ⟨#[108, 111, 119, 101, 114, 108, 101, 102, 116]⟩ W (by decide); rw [show (⟨((⟨#[108, 111, 119, 101, 114, 108, 101, 102, 116]⟩ : ByteArray).data.toList.map great).toArray⟩ : ByteArray) = ⟨#[76, 79, 87, 69, 82, 76, 69, 70, 84]⟩ by kernel_rfl] at this; exact this
  replace G := hid G
  have hl : lowered ⟨#[76, 79, 87, 69, 82, 76, 69, 70, 84]⟩ = ⟨#[108, 111, 119, 101, 114, 108, 101, 102, 116]⟩ := by kernel_rfl
  have O : ∀ W, Calls Try.prog 11 #[.string ⟨#[76, 79, 87, 69, 82, 76, 69, 70, 84]⟩] W fun e w' => e = .returned (.tuple #[.int .i64 0, .bool true]) ∧ Below W.heap.size W w' := fun W => origin_ok_lowerleft ⟨#[76, 79, 87, 69, 82, 76, 69, 70, 84]⟩ W (by decide) hl
  replace O := hid O
  have hx : lowered ⟨#[76, 79, 87, 69, 82, 76, 69, 70, 84, 120]⟩ = ⟨#[108, 111, 119, 101, 114, 108, 101, 102, 116, 120]⟩ := by kernel_rfl
  have x0 : ((⟨#[108, 111, 119, 101, 114, 108, 101, 102, 116, 120]⟩ : ByteArray).toList == [108, 108]) = false := by kernel_rfl
  have x1 : ((⟨#[108, 111, 119, 101, 114, 108, 101, 102, 116, 120]⟩ : ByteArray).toList == [108, 111, 119, 101, 114, 108, 101, 102, 116]) = false := by kernel_rfl
  have x2 : ((⟨#[108, 111, 119, 101, 114, 108, 101, 102, 116, 120]⟩ : ByteArray).toList == [108, 114]) = false := by kernel_rfl
  have x3 : ((⟨#[108, 111, 119, 101, 114, 108, 101, 102, 116, 120]⟩ : ByteArray).toList == [108, 111, 119, 101, 114, 114, 105, 103, 104, 116]) = false := by kernel_rfl
  have x4 : ((⟨#[108, 111, 119, 101, 114, 108, 101, 102, 116, 120]⟩ : ByteArray).toList == [117, 108]) = false := by kernel_rfl
  have x5 : ((⟨#[108, 111, 119, 101, 114, 108, 101, 102, 116, 120]⟩ : ByteArray).toList == [117, 112, 112, 101, 114, 108, 101, 102, 116]) = false := by kernel_rfl
  have x6 : ((⟨#[108, 111, 119, 101, 114, 108, 101, 102, 116, 120]⟩ : ByteArray).toList == [117, 114]) = false := by kernel_rfl
  have x7 : ((⟨#[108, 111, 119, 101, 114, 108, 101, 102, 116, 120]⟩ : ByteArray).toList == [117, 112, 112, 101, 114, 114, 105, 103, 104, 116]) = false := by kernel_rfl
  have hc : (⟨#[76, 79, 87, 69, 82, 76, 69, 70, 84]⟩ ++ ⟨#[120]⟩ : ByteArray) = ⟨#[76, 79, 87, 69, 82, 76, 69, 70, 84, 120]⟩ := by kernel_rfl
  have X : ∀ W, Calls Try.prog 11 #[.string (⟨#[76, 79, 87, 69, 82, 76, 69, 70, 84]⟩ ++ ⟨#[120]⟩)] W fun e w' => e = .returned (.tuple #[.int .i64 0, .bool false]) ∧ Below W.heap.size W w' := fun W => by rw [hc]; exact origin_bad ⟨#[76, 79, 87, 69, 82, 76, 69, 70, 84, 120]⟩ ⟨#[108, 111, 119, 101, 114, 108, 101, 102, 116, 120]⟩ W (by decide) hx x0 x1 x2 x3 x4 x5 x6 x7
  replace X := hid X
  clear hc hl hx x0 x1 x2 x3 x4 x5 x6 x7
  go_enter Try.func3, Try.ntmps3
  go_wp2_with (first | (go_at_call 10; with_reducible refine (G.out _).mono ?_; rintro e w' ⟨rfl, hb0⟩) | (go_at_call 11; with_reducible refine (O.out _).mono ?_; rintro e w' ⟨rfl, hb1⟩) | (go_at_call 11; with_reducible refine (X.out _).mono ?_; rintro e w' ⟨rfl, hb2⟩))
  go_ret
  exact ⟨rfl, by repeat (first | (with_reducible exact Below.refl _ _) | (with_reducible refine below_step ?_ hb2) | (with_reducible refine below_step ?_ hb1) | (with_reducible refine below_step ?_ hb0) | (with_reducible apply pw_below_drewN) | (with_reducible apply below_alloc) | (with_reducible apply below_drew1))⟩

theorem originOf_100 (w : World) :
    Calls Try.prog 3 #[.int .i64 1, .bool false, .bool false] w fun e w' => e = .returned (.bool true) ∧ Below w.heap.size w w' := by
  have hl : lowered ⟨#[108, 114]⟩ = ⟨#[108, 114]⟩ := by kernel_rfl
  have O : ∀ W, Calls Try.prog 11 #[.string ⟨#[108, 114]⟩] W fun e w' => e = .returned (.tuple #[.int .i64 1, .bool true]) ∧ Below W.heap.size W w' := fun W => origin_ok_lr ⟨#[108, 114]⟩ W (by decide) hl
  replace O := hid O
  have hx : lowered ⟨#[108, 114, 120]⟩ = ⟨#[108, 114, 120]⟩ := by kernel_rfl
  have x0 : ((⟨#[108, 114, 120]⟩ : ByteArray).toList == [108, 108]) = false := by kernel_rfl
  have x1 : ((⟨#[108, 114, 120]⟩ : ByteArray).toList == [108, 111, 119, 101, 114, 108, 101, 102, 116]) = false := by kernel_rfl
  have x2 : ((⟨#[108, 114, 120]⟩ : ByteArray).toList == [108, 114]) = false := by kernel_rfl
  have x3 : ((⟨#[108, 114, 120]⟩ : ByteArray).toList == [108, 111, 119, 101, 114, 114, 105, 103, 104, 116]) = false := by kernel_rfl
  have x4 : ((⟨#[108, 114, 120]⟩ : ByteArray).toList == [117, 108]) = false := by kernel_rfl
  have x5 : ((⟨#[108, 114, 120]⟩ : ByteArray).toList == [117, 112, 112, 101, 114, 108, 101, 102, 116]) = false := by kernel_rfl
  have x6 : ((⟨#[108, 114, 120]⟩ : ByteArray).toList == [117, 114]) = false := by kernel_rfl
  have x7 : ((⟨#[108, 114, 120]⟩ : ByteArray).toList == [117, 112, 112, 101, 114, 114, 105, 103, 104, 116]) = false := by kernel_rfl
  have hc : (⟨#[108, 114]⟩ ++ ⟨#[120]⟩ : ByteArray) = ⟨#[108, 114, 120]⟩ := by kernel_rfl
  have X : ∀ W, Calls Try.prog 11 #[.string (⟨#[108, 114]⟩ ++ ⟨#[120]⟩)] W fun e w' => e = .returned (.tuple #[.int .i64 0, .bool false]) ∧ Below W.heap.size W w' := fun W => by rw [hc]; exact origin_bad ⟨#[108, 114, 120]⟩ ⟨#[108, 114, 120]⟩ W (by decide) hx x0 x1 x2 x3 x4 x5 x6 x7
  replace X := hid X
  clear hc hl hx x0 x1 x2 x3 x4 x5 x6 x7
  go_enter Try.func3, Try.ntmps3
  go_wp2_with (first | (go_at_call 11; with_reducible refine (O.out _).mono ?_; rintro e w' ⟨rfl, hb1⟩) | (go_at_call 11; with_reducible refine (X.out _).mono ?_; rintro e w' ⟨rfl, hb2⟩))
  go_ret
  exact ⟨rfl, by repeat (first | (with_reducible exact Below.refl _ _) | (with_reducible refine below_step ?_ hb2) | (with_reducible refine below_step ?_ hb1) | (with_reducible refine below_step ?_ hb0) | (with_reducible apply pw_below_drewN) | (with_reducible apply below_alloc) | (with_reducible apply below_drew1))⟩

theorem originOf_101 (w : World) :
    Calls Try.prog 3 #[.int .i64 1, .bool false, .bool true] w fun e w' => e = .returned (.bool true) ∧ Below w.heap.size w w' := by
  have G : ∀ W, Calls Try.prog 10 #[.string ⟨#[108, 114]⟩] W fun e w' => e = .returned (.string ⟨#[76, 82]⟩) ∧ Below W.heap.size W w' := fun W => by have := upper_calls ⟨#[108, 114]⟩ W (by decide); rw [show (⟨((⟨#[108, 114]⟩ : ByteArray).data.toList.map great).toArray⟩ : ByteArray) = ⟨#[76, 82]⟩ by kernel_rfl] at this; exact this
  replace G := hid G
  have hl : lowered ⟨#[76, 82]⟩ = ⟨#[108, 114]⟩ := by kernel_rfl
  have O : ∀ W, Calls Try.prog 11 #[.string ⟨#[76, 82]⟩] W fun e w' => e = .returned (.tuple #[.int .i64 1, .bool true]) ∧ Below W.heap.size W w' := fun W => origin_ok_lr ⟨#[76, 82]⟩ W (by decide) hl
  replace O := hid O
  have hx : lowered ⟨#[76, 82, 120]⟩ = ⟨#[108, 114, 120]⟩ := by kernel_rfl
  have x0 : ((⟨#[108, 114, 120]⟩ : ByteArray).toList == [108, 108]) = false := by kernel_rfl
  have x1 : ((⟨#[108, 114, 120]⟩ : ByteArray).toList == [108, 111, 119, 101, 114, 108, 101, 102, 116]) = false := by kernel_rfl
  have x2 : ((⟨#[108, 114, 120]⟩ : ByteArray).toList == [108, 114]) = false := by kernel_rfl
  have x3 : ((⟨#[108, 114, 120]⟩ : ByteArray).toList == [108, 111, 119, 101, 114, 114, 105, 103, 104, 116]) = false := by kernel_rfl
  have x4 : ((⟨#[108, 114, 120]⟩ : ByteArray).toList == [117, 108]) = false := by kernel_rfl
  have x5 : ((⟨#[108, 114, 120]⟩ : ByteArray).toList == [117, 112, 112, 101, 114, 108, 101, 102, 116]) = false := by kernel_rfl
  have x6 : ((⟨#[108, 114, 120]⟩ : ByteArray).toList == [117, 114]) = false := by kernel_rfl
  have x7 : ((⟨#[108, 114, 120]⟩ : ByteArray).toList == [117, 112, 112, 101, 114, 114, 105, 103, 104, 116]) = false := by kernel_rfl
  have hc : (⟨#[76, 82]⟩ ++ ⟨#[120]⟩ : ByteArray) = ⟨#[76, 82, 120]⟩ := by kernel_rfl
  have X : ∀ W, Calls Try.prog 11 #[.string (⟨#[76, 82]⟩ ++ ⟨#[120]⟩)] W fun e w' => e = .returned (.tuple #[.int .i64 0, .bool false]) ∧ Below W.heap.size W w' := fun W => by rw [hc]; exact origin_bad ⟨#[76, 82, 120]⟩ ⟨#[108, 114, 120]⟩ W (by decide) hx x0 x1 x2 x3 x4 x5 x6 x7
  replace X := hid X
  clear hc hl hx x0 x1 x2 x3 x4 x5 x6 x7
  go_enter Try.func3, Try.ntmps3
  go_wp2_with (first | (go_at_call 10; with_reducible refine (G.out _).mono ?_; rintro e w' ⟨rfl, hb0⟩) | (go_at_call 11; with_reducible refine (O.out _).mono ?_; rintro e w' ⟨rfl, hb1⟩) | (go_at_call 11; with_reducible refine (X.out _).mono ?_; rintro e w' ⟨rfl, hb2⟩))
  go_ret
  exact ⟨rfl, by repeat (first | (with_reducible exact Below.refl _ _) | (with_reducible refine below_step ?_ hb2) | (with_reducible refine below_step ?_ hb1) | (with_reducible refine below_step ?_ hb0) | (with_reducible apply pw_below_drewN) | (with_reducible apply below_alloc) | (with_reducible apply below_drew1))⟩

theorem originOf_110 (w : World) :
    Calls Try.prog 3 #[.int .i64 1, .bool true, .bool false] w fun e w' => e = .returned (.bool true) ∧ Below w.heap.size w w' := by
  have hl : lowered ⟨#[108, 111, 119, 101, 114, 114, 105, 103, 104, 116]⟩ = ⟨#[108, 111, 119, 101, 114, 114, 105, 103, 104, 116]⟩ := by kernel_rfl
  have O : ∀ W, Calls Try.prog 11 #[.string ⟨#[108, 111, 119, 101, 114, 114, 105, 103, 104, 116]⟩] W fun e w' => e = .returned (.tuple #[.int .i64 1, .bool true]) ∧ Below W.heap.size W w' := fun W => origin_ok_lowerright ⟨#[108, 111, 119, 101, 114, 114, 105, 103, 104, 116]⟩ W (by decide) hl
  replace O := hid O
  have hx : lowered ⟨#[108, 111, 119, 101, 114, 114, 105, 103, 104, 116, 120]⟩ = ⟨#[108, 111, 119, 101, 114, 114, 105, 103, 104, 116, 120]⟩ := by kernel_rfl
  have x0 : ((⟨#[108, 111, 119, 101, 114, 114, 105, 103, 104, 116, 120]⟩ : ByteArray).toList == [108, 108]) = false := by kernel_rfl
  have x1 : ((⟨#[108, 111, 119, 101, 114, 114, 105, 103, 104, 116, 120]⟩ : ByteArray).toList == [108, 111, 119, 101, 114, 108, 101, 102, 116]) = false := by kernel_rfl
  have x2 : ((⟨#[108, 111, 119, 101, 114, 114, 105, 103, 104, 116, 120]⟩ : ByteArray).toList == [108, 114]) = false := by kernel_rfl
  have x3 : ((⟨#[108, 111, 119, 101, 114, 114, 105, 103, 104, 116, 120]⟩ : ByteArray).toList == [108, 111, 119, 101, 114, 114, 105, 103, 104, 116]) = false := by kernel_rfl
  have x4 : ((⟨#[108, 111, 119, 101, 114, 114, 105, 103, 104, 116, 120]⟩ : ByteArray).toList == [117, 108]) = false := by kernel_rfl
  have x5 : ((⟨#[108, 111, 119, 101, 114, 114, 105, 103, 104, 116, 120]⟩ : ByteArray).toList == [117, 112, 112, 101, 114, 108, 101, 102, 116]) = false := by kernel_rfl
  have x6 : ((⟨#[108, 111, 119, 101, 114, 114, 105, 103, 104, 116, 120]⟩ : ByteArray).toList == [117, 114]) = false := by kernel_rfl
  have x7 : ((⟨#[108, 111, 119, 101, 114, 114, 105, 103, 104, 116, 120]⟩ : ByteArray).toList == [117, 112, 112, 101, 114, 114, 105, 103, 104, 116]) = false := by kernel_rfl
  have hc : (⟨#[108, 111, 119, 101, 114, 114, 105, 103, 104, 116]⟩ ++ ⟨#[120]⟩ : ByteArray) = ⟨#[108, 111, 119, 101, 114, 114, 105, 103, 104, 116, 120]⟩ := by kernel_rfl
  have X : ∀ W, Calls Try.prog 11 #[.string (⟨#[108, 111, 119, 101, 114, 114, 105, 103, 104, 116]⟩ ++ ⟨#[120]⟩)] W fun e w' => e = .returned (.tuple #[.int .i64 0, .bool false]) ∧ Below W.heap.size W w' := fun W => by rw [hc]; exact origin_bad ⟨#[108, 111, 119, 101, 114, 114, 105, 103, 104, 116, 120]⟩ ⟨#[108, 111, 119, 101, 114, 114, 105, 103, 104, 116, 120]⟩ W (by decide) hx x0 x1 x2 x3 x4 x5 x6 x7
  replace X := hid X
  clear hc hl hx x0 x1 x2 x3 x4 x5 x6 x7
  go_enter Try.func3, Try.ntmps3
  go_wp2_with (first | (go_at_call 11; with_reducible refine (O.out _).mono ?_; rintro e w' ⟨rfl, hb1⟩) | (go_at_call 11; with_reducible refine (X.out _).mono ?_; rintro e w' ⟨rfl, hb2⟩))
  go_ret
  exact ⟨rfl, by repeat (first | (with_reducible exact Below.refl _ _) | (with_reducible refine below_step ?_ hb2) | (with_reducible refine below_step ?_ hb1) | (with_reducible refine below_step ?_ hb0) | (with_reducible apply pw_below_drewN) | (with_reducible apply below_alloc) | (with_reducible apply below_drew1))⟩

theorem originOf_111 (w : World) :
    Calls Try.prog 3 #[.int .i64 1, .bool true, .bool true] w fun e w' => e = .returned (.bool true) ∧ Below w.heap.size w w' := by
  have G : ∀ W, Calls Try.prog 10 #[.string ⟨#[108, 111, 119, 101, 114, 114, 105, 103, 104, 116]⟩] W fun e w' => e = .returned (.string ⟨#[76, 79, 87, 69, 82, 82, 73, 71, 72, 84]⟩) ∧ Below W.heap.size W w' := fun W => by have := upper_calls ⟨#[108, 111, 119, 101, 114, 114, 105, 103, 104, 116]⟩ W (by decide); rw [show (⟨((⟨#[108, 111, 119, 101, 114, 114, 105, 103, 104, 116]⟩ : ByteArray).data.toList.map great).toArray⟩ : ByteArray) = ⟨#[76, 79, 87, 69, 82, 82, 73, 71, 72, 84]⟩ by kernel_rfl] at this; exact this
  replace G := hid G
  have hl : lowered ⟨#[76, 79, 87, 69, 82, 82, 73, 71, 72, 84]⟩ = ⟨#[108, 111, 119, 101, 114, 114, 105, 103, 104, 116]⟩ := by kernel_rfl
  have O : ∀ W, Calls Try.prog 11 #[.string ⟨#[76, 79, 87, 69, 82, 82, 73, 71, 72, 84]⟩] W fun e w' => e = .returned (.tuple #[.int .i64 1, .bool true]) ∧ Below W.heap.size W w' := fun W => origin_ok_lowerright ⟨#[76, 79, 87, 69, 82, 82, 73, 71, 72, 84]⟩ W (by decide) hl
  replace O := hid O
  have hx : lowered ⟨#[76, 79, 87, 69, 82, 82, 73, 71, 72, 84, 120]⟩ = ⟨#[108, 111, 119, 101, 114, 114, 105, 103, 104, 116, 120]⟩ := by kernel_rfl
  have x0 : ((⟨#[108, 111, 119, 101, 114, 114, 105, 103, 104, 116, 120]⟩ : ByteArray).toList == [108, 108]) = false := by kernel_rfl
  have x1 : ((⟨#[108, 111, 119, 101, 114, 114, 105, 103, 104, 116, 120]⟩ : ByteArray).toList == [108, 111, 119, 101, 114, 108, 101, 102, 116]) = false := by kernel_rfl
  have x2 : ((⟨#[108, 111, 119, 101, 114, 114, 105, 103, 104, 116, 120]⟩ : ByteArray).toList == [108, 114]) = false := by kernel_rfl
  have x3 : ((⟨#[108, 111, 119, 101, 114, 114, 105, 103, 104, 116, 120]⟩ : ByteArray).toList == [108, 111, 119, 101, 114, 114, 105, 103, 104, 116]) = false := by kernel_rfl
  have x4 : ((⟨#[108, 111, 119, 101, 114, 114, 105, 103, 104, 116, 120]⟩ : ByteArray).toList == [117, 108]) = false := by kernel_rfl
  have x5 : ((⟨#[108, 111, 119, 101, 114, 114, 105, 103, 104, 116, 120]⟩ : ByteArray).toList == [117, 112, 112, 101, 114, 108, 101, 102, 116]) = false := by kernel_rfl
  have x6 : ((⟨#[108, 111, 119, 101, 114, 114, 105, 103, 104, 116, 120]⟩ : ByteArray).toList == [117, 114]) = false := by kernel_rfl
  have x7 : ((⟨#[108, 111, 119, 101, 114, 114, 105, 103, 104, 116, 120]⟩ : ByteArray).toList == [117, 112, 112, 101, 114, 114, 105, 103, 104, 116]) = false := by kernel_rfl
  have hc : (⟨#[76, 79, 87, 69, 82, 82, 73, 71, 72, 84]⟩ ++ ⟨#[120]⟩ : ByteArray) = ⟨#[76, 79, 87, 69, 82, 82, 73, 71, 72, 84, 120]⟩ := by kernel_rfl
  have X : ∀ W, Calls Try.prog 11 #[.string (⟨#[76, 79, 87, 69, 82, 82, 73, 71, 72, 84]⟩ ++ ⟨#[120]⟩)] W fun e w' => e = .returned (.tuple #[.int .i64 0, .bool false]) ∧ Below W.heap.size W w' := fun W => by rw [hc]; exact origin_bad ⟨#[76, 79, 87, 69, 82, 82, 73, 71, 72, 84, 120]⟩ ⟨#[108, 111, 119, 101, 114, 114, 105, 103, 104, 116, 120]⟩ W (by decide) hx x0 x1 x2 x3 x4 x5 x6 x7
  replace X := hid X
  clear hc hl hx x0 x1 x2 x3 x4 x5 x6 x7
  go_enter Try.func3, Try.ntmps3
  go_wp2_with (first | (go_at_call 10; with_reducible refine (G.out _).mono ?_; rintro e w' ⟨rfl, hb0⟩) | (go_at_call 11; with_reducible refine (O.out _).mono ?_; rintro e w' ⟨rfl, hb1⟩) | (go_at_call 11; with_reducible refine (X.out _).mono ?_; rintro e w' ⟨rfl, hb2⟩))
  go_ret
  exact ⟨rfl, by repeat (first | (with_reducible exact Below.refl _ _) | (with_reducible refine below_step ?_ hb2) | (with_reducible refine below_step ?_ hb1) | (with_reducible refine below_step ?_ hb0) | (with_reducible apply pw_below_drewN) | (with_reducible apply below_alloc) | (with_reducible apply below_drew1))⟩

theorem originOf_200 (w : World) :
    Calls Try.prog 3 #[.int .i64 2, .bool false, .bool false] w fun e w' => e = .returned (.bool true) ∧ Below w.heap.size w w' := by
  have hl : lowered ⟨#[117, 108]⟩ = ⟨#[117, 108]⟩ := by kernel_rfl
  have O : ∀ W, Calls Try.prog 11 #[.string ⟨#[117, 108]⟩] W fun e w' => e = .returned (.tuple #[.int .i64 2, .bool true]) ∧ Below W.heap.size W w' := fun W => origin_ok_ul ⟨#[117, 108]⟩ W (by decide) hl
  replace O := hid O
  have hx : lowered ⟨#[117, 108, 120]⟩ = ⟨#[117, 108, 120]⟩ := by kernel_rfl
  have x0 : ((⟨#[117, 108, 120]⟩ : ByteArray).toList == [108, 108]) = false := by kernel_rfl
  have x1 : ((⟨#[117, 108, 120]⟩ : ByteArray).toList == [108, 111, 119, 101, 114, 108, 101, 102, 116]) = false := by kernel_rfl
  have x2 : ((⟨#[117, 108, 120]⟩ : ByteArray).toList == [108, 114]) = false := by kernel_rfl
  have x3 : ((⟨#[117, 108, 120]⟩ : ByteArray).toList == [108, 111, 119, 101, 114, 114, 105, 103, 104, 116]) = false := by kernel_rfl
  have x4 : ((⟨#[117, 108, 120]⟩ : ByteArray).toList == [117, 108]) = false := by kernel_rfl
  have x5 : ((⟨#[117, 108, 120]⟩ : ByteArray).toList == [117, 112, 112, 101, 114, 108, 101, 102, 116]) = false := by kernel_rfl
  have x6 : ((⟨#[117, 108, 120]⟩ : ByteArray).toList == [117, 114]) = false := by kernel_rfl
  have x7 : ((⟨#[117, 108, 120]⟩ : ByteArray).toList == [117, 112, 112, 101, 114, 114, 105, 103, 104, 116]) = false := by kernel_rfl
  have hc : (⟨#[117, 108]⟩ ++ ⟨#[120]⟩ : ByteArray) = ⟨#[117, 108, 120]⟩ := by kernel_rfl
  have X : ∀ W, Calls Try.prog 11 #[.string (⟨#[117, 108]⟩ ++ ⟨#[120]⟩)] W fun e w' => e = .returned (.tuple #[.int .i64 0, .bool false]) ∧ Below W.heap.size W w' := fun W => by rw [hc]; exact origin_bad ⟨#[117, 108, 120]⟩ ⟨#[117, 108, 120]⟩ W (by decide) hx x0 x1 x2 x3 x4 x5 x6 x7
  replace X := hid X
  clear hc hl hx x0 x1 x2 x3 x4 x5 x6 x7
  go_enter Try.func3, Try.ntmps3
  go_wp2_with (first | (go_at_call 11; with_reducible refine (O.out _).mono ?_; rintro e w' ⟨rfl, hb1⟩) | (go_at_call 11; with_reducible refine (X.out _).mono ?_; rintro e w' ⟨rfl, hb2⟩))
  go_ret
  exact ⟨rfl, by repeat (first | (with_reducible exact Below.refl _ _) | (with_reducible refine below_step ?_ hb2) | (with_reducible refine below_step ?_ hb1) | (with_reducible refine below_step ?_ hb0) | (with_reducible apply pw_below_drewN) | (with_reducible apply below_alloc) | (with_reducible apply below_drew1))⟩

theorem originOf_201 (w : World) :
    Calls Try.prog 3 #[.int .i64 2, .bool false, .bool true] w fun e w' => e = .returned (.bool true) ∧ Below w.heap.size w w' := by
  have G : ∀ W, Calls Try.prog 10 #[.string ⟨#[117, 108]⟩] W fun e w' => e = .returned (.string ⟨#[85, 76]⟩) ∧ Below W.heap.size W w' := fun W => by have := upper_calls ⟨#[117, 108]⟩ W (by decide); rw [show (⟨((⟨#[117, 108]⟩ : ByteArray).data.toList.map great).toArray⟩ : ByteArray) = ⟨#[85, 76]⟩ by kernel_rfl] at this; exact this
  replace G := hid G
  have hl : lowered ⟨#[85, 76]⟩ = ⟨#[117, 108]⟩ := by kernel_rfl
  have O : ∀ W, Calls Try.prog 11 #[.string ⟨#[85, 76]⟩] W fun e w' => e = .returned (.tuple #[.int .i64 2, .bool true]) ∧ Below W.heap.size W w' := fun W => origin_ok_ul ⟨#[85, 76]⟩ W (by decide) hl
  replace O := hid O
  have hx : lowered ⟨#[85, 76, 120]⟩ = ⟨#[117, 108, 120]⟩ := by kernel_rfl
  have x0 : ((⟨#[117, 108, 120]⟩ : ByteArray).toList == [108, 108]) = false := by kernel_rfl
  have x1 : ((⟨#[117, 108, 120]⟩ : ByteArray).toList == [108, 111, 119, 101, 114, 108, 101, 102, 116]) = false := by kernel_rfl
  have x2 : ((⟨#[117, 108, 120]⟩ : ByteArray).toList == [108, 114]) = false := by kernel_rfl
  have x3 : ((⟨#[117, 108, 120]⟩ : ByteArray).toList == [108, 111, 119, 101, 114, 114, 105, 103, 104, 116]) = false := by kernel_rfl
  have x4 : ((⟨#[117, 108, 120]⟩ : ByteArray).toList == [117, 108]) = false := by kernel_rfl
  have x5 : ((⟨#[117, 108, 120]⟩ : ByteArray).toList == [117, 112, 112, 101, 114, 108, 101, 102, 116]) = false := by kernel_rfl
  have x6 : ((⟨#[117, 108, 120]⟩ : ByteArray).toList == [117, 114]) = false := by kernel_rfl
  have x7 : ((⟨#[117, 108, 120]⟩ : ByteArray).toList == [117, 112, 112, 101, 114, 114, 105, 103, 104, 116]) = false := by kernel_rfl
  have hc : (⟨#[85, 76]⟩ ++ ⟨#[120]⟩ : ByteArray) = ⟨#[85, 76, 120]⟩ := by kernel_rfl
  have X : ∀ W, Calls Try.prog 11 #[.string (⟨#[85, 76]⟩ ++ ⟨#[120]⟩)] W fun e w' => e = .returned (.tuple #[.int .i64 0, .bool false]) ∧ Below W.heap.size W w' := fun W => by rw [hc]; exact origin_bad ⟨#[85, 76, 120]⟩ ⟨#[117, 108, 120]⟩ W (by decide) hx x0 x1 x2 x3 x4 x5 x6 x7
  replace X := hid X
  clear hc hl hx x0 x1 x2 x3 x4 x5 x6 x7
  go_enter Try.func3, Try.ntmps3
  go_wp2_with (first | (go_at_call 10; with_reducible refine (G.out _).mono ?_; rintro e w' ⟨rfl, hb0⟩) | (go_at_call 11; with_reducible refine (O.out _).mono ?_; rintro e w' ⟨rfl, hb1⟩) | (go_at_call 11; with_reducible refine (X.out _).mono ?_; rintro e w' ⟨rfl, hb2⟩))
  go_ret
  exact ⟨rfl, by repeat (first | (with_reducible exact Below.refl _ _) | (with_reducible refine below_step ?_ hb2) | (with_reducible refine below_step ?_ hb1) | (with_reducible refine below_step ?_ hb0) | (with_reducible apply pw_below_drewN) | (with_reducible apply below_alloc) | (with_reducible apply below_drew1))⟩

theorem originOf_210 (w : World) :
    Calls Try.prog 3 #[.int .i64 2, .bool true, .bool false] w fun e w' => e = .returned (.bool true) ∧ Below w.heap.size w w' := by
  have hl : lowered ⟨#[117, 112, 112, 101, 114, 108, 101, 102, 116]⟩ = ⟨#[117, 112, 112, 101, 114, 108, 101, 102, 116]⟩ := by kernel_rfl
  have O : ∀ W, Calls Try.prog 11 #[.string ⟨#[117, 112, 112, 101, 114, 108, 101, 102, 116]⟩] W fun e w' => e = .returned (.tuple #[.int .i64 2, .bool true]) ∧ Below W.heap.size W w' := fun W => origin_ok_upperleft ⟨#[117, 112, 112, 101, 114, 108, 101, 102, 116]⟩ W (by decide) hl
  replace O := hid O
  have hx : lowered ⟨#[117, 112, 112, 101, 114, 108, 101, 102, 116, 120]⟩ = ⟨#[117, 112, 112, 101, 114, 108, 101, 102, 116, 120]⟩ := by kernel_rfl
  have x0 : ((⟨#[117, 112, 112, 101, 114, 108, 101, 102, 116, 120]⟩ : ByteArray).toList == [108, 108]) = false := by kernel_rfl
  have x1 : ((⟨#[117, 112, 112, 101, 114, 108, 101, 102, 116, 120]⟩ : ByteArray).toList == [108, 111, 119, 101, 114, 108, 101, 102, 116]) = false := by kernel_rfl
  have x2 : ((⟨#[117, 112, 112, 101, 114, 108, 101, 102, 116, 120]⟩ : ByteArray).toList == [108, 114]) = false := by kernel_rfl
  have x3 : ((⟨#[117, 112, 112, 101, 114, 108, 101, 102, 116, 120]⟩ : ByteArray).toList == [108, 111, 119, 101, 114, 114, 105, 103, 104, 116]) = false := by kernel_rfl
  have x4 : ((⟨#[117, 112, 112, 101, 114, 108, 101, 102, 116, 120]⟩ : ByteArray).toList == [117, 108]) = false := by kernel_rfl
  have x5 : ((⟨#[117, 112, 112, 101, 114, 108, 101, 102, 116, 120]⟩ : ByteArray).toList == [117, 112, 112, 101, 114, 108, 101, 102, 116]) = false := by kernel_rfl
  have x6 : ((⟨#[117, 112, 112, 101, 114, 108, 101, 102, 116, 120]⟩ : ByteArray).toList == [117, 114]) = false := by kernel_rfl
  have x7 : ((⟨#[117, 112, 112, 101, 114, 108, 101, 102, 116, 120]⟩ : ByteArray).toList == [117, 112, 112, 101, 114, 114, 105, 103, 104, 116]) = false := by kernel_rfl
  have hc : (⟨#[117, 112, 112, 101, 114, 108, 101, 102, 116]⟩ ++ ⟨#[120]⟩ : ByteArray) = ⟨#[117, 112, 112, 101, 114, 108, 101, 102, 116, 120]⟩ := by kernel_rfl
  have X : ∀ W, Calls Try.prog 11 #[.string (⟨#[117, 112, 112, 101, 114, 108, 101, 102, 116]⟩ ++ ⟨#[120]⟩)] W fun e w' => e = .returned (.tuple #[.int .i64 0, .bool false]) ∧ Below W.heap.size W w' := fun W => by rw [hc]; exact origin_bad ⟨#[117, 112, 112, 101, 114, 108, 101, 102, 116, 120]⟩ ⟨#[117, 112, 112, 101, 114, 108, 101, 102, 116, 120]⟩ W (by decide) hx x0 x1 x2 x3 x4 x5 x6 x7
  replace X := hid X
  clear hc hl hx x0 x1 x2 x3 x4 x5 x6 x7
  go_enter Try.func3, Try.ntmps3
  go_wp2_with (first | (go_at_call 11; with_reducible refine (O.out _).mono ?_; rintro e w' ⟨rfl, hb1⟩) | (go_at_call 11; with_reducible refine (X.out _).mono ?_; rintro e w' ⟨rfl, hb2⟩))
  go_ret
  exact ⟨rfl, by repeat (first | (with_reducible exact Below.refl _ _) | (with_reducible refine below_step ?_ hb2) | (with_reducible refine below_step ?_ hb1) | (with_reducible refine below_step ?_ hb0) | (with_reducible apply pw_below_drewN) | (with_reducible apply below_alloc) | (with_reducible apply below_drew1))⟩

theorem originOf_211 (w : World) :
    Calls Try.prog 3 #[.int .i64 2, .bool true, .bool true] w fun e w' => e = .returned (.bool true) ∧ Below w.heap.size w w' := by
  have G : ∀ W, Calls Try.prog 10 #[.string ⟨#[117, 112, 112, 101, 114, 108, 101, 102, 116]⟩] W fun e w' => e = .returned (.string ⟨#[85, 80, 80, 69, 82, 76, 69, 70, 84]⟩) ∧ Below W.heap.size W w' := fun W => by have := upper_calls ⟨#[117, 112, 112, 101, 114, 108, 101, 102, 116]⟩ W (by decide); rw [show (⟨((⟨#[117, 112, 112, 101, 114, 108, 101, 102, 116]⟩ : ByteArray).data.toList.map great).toArray⟩ : ByteArray) = ⟨#[85, 80, 80, 69, 82, 76, 69, 70, 84]⟩ by kernel_rfl] at this; exact this
  replace G := hid G
  have hl : lowered ⟨#[85, 80, 80, 69, 82, 76, 69, 70, 84]⟩ = ⟨#[117, 112, 112, 101, 114, 108, 101, 102, 116]⟩ := by kernel_rfl
  have O : ∀ W, Calls Try.prog 11 #[.string ⟨#[85, 80, 80, 69, 82, 76, 69, 70, 84]⟩] W fun e w' => e = .returned (.tuple #[.int .i64 2, .bool true]) ∧ Below W.heap.size W w' := fun W => origin_ok_upperleft ⟨#[85, 80, 80, 69, 82, 76, 69, 70, 84]⟩ W (by decide) hl
  replace O := hid O
  have hx : lowered ⟨#[85, 80, 80, 69, 82, 76, 69, 70, 84, 120]⟩ = ⟨#[117, 112, 112, 101, 114, 108, 101, 102, 116, 120]⟩ := by kernel_rfl
  have x0 : ((⟨#[117, 112, 112, 101, 114, 108, 101, 102, 116, 120]⟩ : ByteArray).toList == [108, 108]) = false := by kernel_rfl
  have x1 : ((⟨#[117, 112, 112, 101, 114, 108, 101, 102, 116, 120]⟩ : ByteArray).toList == [108, 111, 119, 101, 114, 108, 101, 102, 116]) = false := by kernel_rfl
  have x2 : ((⟨#[117, 112, 112, 101, 114, 108, 101, 102, 116, 120]⟩ : ByteArray).toList == [108, 114]) = false := by kernel_rfl
  have x3 : ((⟨#[117, 112, 112, 101, 114, 108, 101, 102, 116, 120]⟩ : ByteArray).toList == [108, 111, 119, 101, 114, 114, 105, 103, 104, 116]) = false := by kernel_rfl
  have x4 : ((⟨#[117, 112, 112, 101, 114, 108, 101, 102, 116, 120]⟩ : ByteArray).toList == [117, 108]) = false := by kernel_rfl
  have x5 : ((⟨#[117, 112, 112, 101, 114, 108, 101, 102, 116, 120]⟩ : ByteArray).toList == [117, 112, 112, 101, 114, 108, 101, 102, 116]) = false := by kernel_rfl
  have x6 : ((⟨#[117, 112, 112, 101, 114, 108, 101, 102, 116, 120]⟩ : ByteArray).toList == [117, 114]) = false := by kernel_rfl
  have x7 : ((⟨#[117, 112, 112, 101, 114, 108, 101, 102, 116, 120]⟩ : ByteArray).toList == [117, 112, 112, 101, 114, 114, 105, 103, 104, 116]) = false := by kernel_rfl
  have hc : (⟨#[85, 80, 80, 69, 82, 76, 69, 70, 84]⟩ ++ ⟨#[120]⟩ : ByteArray) = ⟨#[85, 80, 80, 69, 82, 76, 69, 70, 84, 120]⟩ := by kernel_rfl
  have X : ∀ W, Calls Try.prog 11 #[.string (⟨#[85, 80, 80, 69, 82, 76, 69, 70, 84]⟩ ++ ⟨#[120]⟩)] W fun e w' => e = .returned (.tuple #[.int .i64 0, .bool false]) ∧ Below W.heap.size W w' := fun W => by rw [hc]; exact origin_bad ⟨#[85, 80, 80, 69, 82, 76, 69, 70, 84, 120]⟩ ⟨#[117, 112, 112, 101, 114, 108, 101, 102, 116, 120]⟩ W (by decide) hx x0 x1 x2 x3 x4 x5 x6 x7
  replace X := hid X
  clear hc hl hx x0 x1 x2 x3 x4 x5 x6 x7
  go_enter Try.func3, Try.ntmps3
  go_wp2_with (first | (go_at_call 10; with_reducible refine (G.out _).mono ?_; rintro e w' ⟨rfl, hb0⟩) | (go_at_call 11; with_reducible refine (O.out _).mono ?_; rintro e w' ⟨rfl, hb1⟩) | (go_at_call 11; with_reducible refine (X.out _).mono ?_; rintro e w' ⟨rfl, hb2⟩))
  go_ret
  exact ⟨rfl, by repeat (first | (with_reducible exact Below.refl _ _) | (with_reducible refine below_step ?_ hb2) | (with_reducible refine below_step ?_ hb1) | (with_reducible refine below_step ?_ hb0) | (with_reducible apply pw_below_drewN) | (with_reducible apply below_alloc) | (with_reducible apply below_drew1))⟩

theorem originOf_300 (w : World) :
    Calls Try.prog 3 #[.int .i64 3, .bool false, .bool false] w fun e w' => e = .returned (.bool true) ∧ Below w.heap.size w w' := by
  have hl : lowered ⟨#[117, 114]⟩ = ⟨#[117, 114]⟩ := by kernel_rfl
  have O : ∀ W, Calls Try.prog 11 #[.string ⟨#[117, 114]⟩] W fun e w' => e = .returned (.tuple #[.int .i64 3, .bool true]) ∧ Below W.heap.size W w' := fun W => origin_ok_ur ⟨#[117, 114]⟩ W (by decide) hl
  replace O := hid O
  have hx : lowered ⟨#[117, 114, 120]⟩ = ⟨#[117, 114, 120]⟩ := by kernel_rfl
  have x0 : ((⟨#[117, 114, 120]⟩ : ByteArray).toList == [108, 108]) = false := by kernel_rfl
  have x1 : ((⟨#[117, 114, 120]⟩ : ByteArray).toList == [108, 111, 119, 101, 114, 108, 101, 102, 116]) = false := by kernel_rfl
  have x2 : ((⟨#[117, 114, 120]⟩ : ByteArray).toList == [108, 114]) = false := by kernel_rfl
  have x3 : ((⟨#[117, 114, 120]⟩ : ByteArray).toList == [108, 111, 119, 101, 114, 114, 105, 103, 104, 116]) = false := by kernel_rfl
  have x4 : ((⟨#[117, 114, 120]⟩ : ByteArray).toList == [117, 108]) = false := by kernel_rfl
  have x5 : ((⟨#[117, 114, 120]⟩ : ByteArray).toList == [117, 112, 112, 101, 114, 108, 101, 102, 116]) = false := by kernel_rfl
  have x6 : ((⟨#[117, 114, 120]⟩ : ByteArray).toList == [117, 114]) = false := by kernel_rfl
  have x7 : ((⟨#[117, 114, 120]⟩ : ByteArray).toList == [117, 112, 112, 101, 114, 114, 105, 103, 104, 116]) = false := by kernel_rfl
  have hc : (⟨#[117, 114]⟩ ++ ⟨#[120]⟩ : ByteArray) = ⟨#[117, 114, 120]⟩ := by kernel_rfl
  have X : ∀ W, Calls Try.prog 11 #[.string (⟨#[117, 114]⟩ ++ ⟨#[120]⟩)] W fun e w' => e = .returned (.tuple #[.int .i64 0, .bool false]) ∧ Below W.heap.size W w' := fun W => by rw [hc]; exact origin_bad ⟨#[117, 114, 120]⟩ ⟨#[117, 114, 120]⟩ W (by decide) hx x0 x1 x2 x3 x4 x5 x6 x7
  replace X := hid X
  clear hc hl hx x0 x1 x2 x3 x4 x5 x6 x7
  go_enter Try.func3, Try.ntmps3
  go_wp2_with (first | (go_at_call 11; with_reducible refine (O.out _).mono ?_; rintro e w' ⟨rfl, hb1⟩) | (go_at_call 11; with_reducible refine (X.out _).mono ?_; rintro e w' ⟨rfl, hb2⟩))
  go_ret
  exact ⟨rfl, by repeat (first | (with_reducible exact Below.refl _ _) | (with_reducible refine below_step ?_ hb2) | (with_reducible refine below_step ?_ hb1) | (with_reducible refine below_step ?_ hb0) | (with_reducible apply pw_below_drewN) | (with_reducible apply below_alloc) | (with_reducible apply below_drew1))⟩

theorem originOf_301 (w : World) :
    Calls Try.prog 3 #[.int .i64 3, .bool false, .bool true] w fun e w' => e = .returned (.bool true) ∧ Below w.heap.size w w' := by
  have G : ∀ W, Calls Try.prog 10 #[.string ⟨#[117, 114]⟩] W fun e w' => e = .returned (.string ⟨#[85, 82]⟩) ∧ Below W.heap.size W w' := fun W => by have := upper_calls ⟨#[117, 114]⟩ W (by decide); rw [show (⟨((⟨#[117, 114]⟩ : ByteArray).data.toList.map great).toArray⟩ : ByteArray) = ⟨#[85, 82]⟩ by kernel_rfl] at this; exact this
  replace G := hid G
  have hl : lowered ⟨#[85, 82]⟩ = ⟨#[117, 114]⟩ := by kernel_rfl
  have O : ∀ W, Calls Try.prog 11 #[.string ⟨#[85, 82]⟩] W fun e w' => e = .returned (.tuple #[.int .i64 3, .bool true]) ∧ Below W.heap.size W w' := fun W => origin_ok_ur ⟨#[85, 82]⟩ W (by decide) hl
  replace O := hid O
  have hx : lowered ⟨#[85, 82, 120]⟩ = ⟨#[117, 114, 120]⟩ := by kernel_rfl
  have x0 : ((⟨#[117, 114, 120]⟩ : ByteArray).toList == [108, 108]) = false := by kernel_rfl
  have x1 : ((⟨#[117, 114, 120]⟩ : ByteArray).toList == [108, 111, 119, 101, 114, 108, 101, 102, 116]) = false := by kernel_rfl
  have x2 : ((⟨#[117, 114, 120]⟩ : ByteArray).toList == [108, 114]) = false := by kernel_rfl
  have x3 : ((⟨#[117, 114, 120]⟩ : ByteArray).toList == [108, 111, 119, 101, 114, 114, 105, 103, 104, 116]) = false := by kernel_rfl
  have x4 : ((⟨#[117, 114, 120]⟩ : ByteArray).toList == [117, 108]) = false := by kernel_rfl
  have x5 : ((⟨#[117, 114, 120]⟩ : ByteArray).toList == [117, 112, 112, 101, 114, 108, 101, 102, 116]) = false := by kernel_rfl
  have x6 : ((⟨#[117, 114, 120]⟩ : ByteArray).toList == [117, 114]) = false := by kernel_rfl
  have x7 : ((⟨#[117, 114, 120]⟩ : ByteArray).toList == [117, 112, 112, 101, 114, 114, 105, 103, 104, 116]) = false := by kernel_rfl
  have hc : (⟨#[85, 82]⟩ ++ ⟨#[120]⟩ : ByteArray) = ⟨#[85, 82, 120]⟩ := by kernel_rfl
  have X : ∀ W, Calls Try.prog 11 #[.string (⟨#[85, 82]⟩ ++ ⟨#[120]⟩)] W fun e w' => e = .returned (.tuple #[.int .i64 0, .bool false]) ∧ Below W.heap.size W w' := fun W => by rw [hc]; exact origin_bad ⟨#[85, 82, 120]⟩ ⟨#[117, 114, 120]⟩ W (by decide) hx x0 x1 x2 x3 x4 x5 x6 x7
  replace X := hid X
  clear hc hl hx x0 x1 x2 x3 x4 x5 x6 x7
  go_enter Try.func3, Try.ntmps3
  go_wp2_with (first | (go_at_call 10; with_reducible refine (G.out _).mono ?_; rintro e w' ⟨rfl, hb0⟩) | (go_at_call 11; with_reducible refine (O.out _).mono ?_; rintro e w' ⟨rfl, hb1⟩) | (go_at_call 11; with_reducible refine (X.out _).mono ?_; rintro e w' ⟨rfl, hb2⟩))
  go_ret
  exact ⟨rfl, by repeat (first | (with_reducible exact Below.refl _ _) | (with_reducible refine below_step ?_ hb2) | (with_reducible refine below_step ?_ hb1) | (with_reducible refine below_step ?_ hb0) | (with_reducible apply pw_below_drewN) | (with_reducible apply below_alloc) | (with_reducible apply below_drew1))⟩

theorem originOf_310 (w : World) :
    Calls Try.prog 3 #[.int .i64 3, .bool true, .bool false] w fun e w' => e = .returned (.bool true) ∧ Below w.heap.size w w' := by
  have hl : lowered ⟨#[117, 112, 112, 101, 114, 114, 105, 103, 104, 116]⟩ = ⟨#[117, 112, 112, 101, 114, 114, 105, 103, 104, 116]⟩ := by kernel_rfl
  have O : ∀ W, Calls Try.prog 11 #[.string ⟨#[117, 112, 112, 101, 114, 114, 105, 103, 104, 116]⟩] W fun e w' => e = .returned (.tuple #[.int .i64 3, .bool true]) ∧ Below W.heap.size W w' := fun W => origin_ok_upperright ⟨#[117, 112, 112, 101, 114, 114, 105, 103, 104, 116]⟩ W (by decide) hl
  replace O := hid O
  have hx : lowered ⟨#[117, 112, 112, 101, 114, 114, 105, 103, 104, 116, 120]⟩ = ⟨#[117, 112, 112, 101, 114, 114, 105, 103, 104, 116, 120]⟩ := by kernel_rfl
  have x0 : ((⟨#[117, 112, 112, 101, 114, 114, 105, 103, 104, 116, 120]⟩ : ByteArray).toList == [108, 108]) = false := by kernel_rfl
  have x1 : ((⟨#[117, 112, 112, 101, 114, 114, 105, 103, 104, 116, 120]⟩ : ByteArray).toList == [108, 111, 119, 101, 114, 108, 101, 102, 116]) = false := by kernel_rfl
  have x2 : ((⟨#[117, 112, 112, 101, 114, 114, 105, 103, 104, 116, 120]⟩ : ByteArray).toList == [108, 114]) = false := by kernel_rfl
  have x3 : ((⟨#[117, 112, 112, 101, 114, 114, 105, 103, 104, 116, 120]⟩ : ByteArray).toList == [108, 111, 119, 101, 114, 114, 105, 103, 104, 116]) = false := by kernel_rfl
  have x4 : ((⟨#[117, 112, 112, 101, 114, 114, 105, 103, 104, 116, 120]⟩ : ByteArray).toList == [117, 108]) = false := by kernel_rfl
  have x5 : ((⟨#[117, 112, 112, 101, 114, 114, 105, 103, 104, 116, 120]⟩ : ByteArray).toList == [117, 112, 112, 101, 114, 108, 101, 102, 116]) = false := by kernel_rfl
  have x6 : ((⟨#[117, 112, 112, 101, 114, 114, 105, 103, 104, 116, 120]⟩ : ByteArray).toList == [117, 114]) = false := by kernel_rfl
  have x7 : ((⟨#[117, 112, 112, 101, 114, 114, 105, 103, 104, 116, 120]⟩ : ByteArray).toList == [117, 112, 112, 101, 114, 114, 105, 103, 104, 116]) = false := by kernel_rfl
  have hc : (⟨#[117, 112, 112, 101, 114, 114, 105, 103, 104, 116]⟩ ++ ⟨#[120]⟩ : ByteArray) = ⟨#[117, 112, 112, 101, 114, 114, 105, 103, 104, 116, 120]⟩ := by kernel_rfl
  have X : ∀ W, Calls Try.prog 11 #[.string (⟨#[117, 112, 112, 101, 114, 114, 105, 103, 104, 116]⟩ ++ ⟨#[120]⟩)] W fun e w' => e = .returned (.tuple #[.int .i64 0, .bool false]) ∧ Below W.heap.size W w' := fun W => by rw [hc]; exact origin_bad ⟨#[117, 112, 112, 101, 114, 114, 105, 103, 104, 116, 120]⟩ ⟨#[117, 112, 112, 101, 114, 114, 105, 103, 104, 116, 120]⟩ W (by decide) hx x0 x1 x2 x3 x4 x5 x6 x7
  replace X := hid X
  clear hc hl hx x0 x1 x2 x3 x4 x5 x6 x7
  go_enter Try.func3, Try.ntmps3
  go_wp2_with (first | (go_at_call 11; with_reducible refine (O.out _).mono ?_; rintro e w' ⟨rfl, hb1⟩) | (go_at_call 11; with_reducible refine (X.out _).mono ?_; rintro e w' ⟨rfl, hb2⟩))
  go_ret
  exact ⟨rfl, by repeat (first | (with_reducible exact Below.refl _ _) | (with_reducible refine below_step ?_ hb2) | (with_reducible refine below_step ?_ hb1) | (with_reducible refine below_step ?_ hb0) | (with_reducible apply pw_below_drewN) | (with_reducible apply below_alloc) | (with_reducible apply below_drew1))⟩

theorem originOf_311 (w : World) :
    Calls Try.prog 3 #[.int .i64 3, .bool true, .bool true] w fun e w' => e = .returned (.bool true) ∧ Below w.heap.size w w' := by
  have G : ∀ W, Calls Try.prog 10 #[.string ⟨#[117, 112, 112, 101, 114, 114, 105, 103, 104, 116]⟩] W fun e w' => e = .returned (.string ⟨#[85, 80, 80, 69, 82, 82, 73, 71, 72, 84]⟩) ∧ Below W.heap.size W w' := fun W => by have := upper_calls ⟨#[117, 112, 112, 101, 114, 114, 105, 103, 104, 116]⟩ W (by decide); rw [show (⟨((⟨#[117, 112, 112, 101, 114, 114, 105, 103, 104, 116]⟩ : ByteArray).data.toList.map great).toArray⟩ : ByteArray) = ⟨#[85, 80, 80, 69, 82, 82, 73, 71, 72, 84]⟩ by kernel_rfl] at this; exact this
  replace G := hid G
  have hl : lowered ⟨#[85, 80, 80, 69, 82, 82, 73, 71, 72, 84]⟩ = ⟨#[117, 112, 112, 101, 114, 114, 105, 103, 104, 116]⟩ := by kernel_rfl
  have O : ∀ W, Calls Try.prog 11 #[.string ⟨#[85, 80, 80, 69, 82, 82, 73, 71, 72, 84]⟩] W fun e w' => e = .returned (.tuple #[.int .i64 3, .bool true]) ∧ Below W.heap.size W w' := fun W => origin_ok_upperright ⟨#[85, 80, 80, 69, 82, 82, 73, 71, 72, 84]⟩ W (by decide) hl
  replace O := hid O
  have hx : lowered ⟨#[85, 80, 80, 69, 82, 82, 73, 71, 72, 84, 120]⟩ = ⟨#[117, 112, 112, 101, 114, 114, 105, 103, 104, 116, 120]⟩ := by kernel_rfl
  have x0 : ((⟨#[117, 112, 112, 101, 114, 114, 105, 103, 104, 116, 120]⟩ : ByteArray).toList == [108, 108]) = false := by kernel_rfl
  have x1 : ((⟨#[117, 112, 112, 101, 114, 114, 105, 103, 104, 116, 120]⟩ : ByteArray).toList == [108, 111, 119, 101, 114, 108, 101, 102, 116]) = false := by kernel_rfl
  have x2 : ((⟨#[117, 112, 112, 101, 114, 114, 105, 103, 104, 116, 120]⟩ : ByteArray).toList == [108, 114]) = false := by kernel_rfl
  have x3 : ((⟨#[117, 112, 112, 101, 114, 114, 105, 103, 104, 116, 120]⟩ : ByteArray).toList == [108, 111, 119, 101, 114, 114, 105, 103, 104, 116]) = false := by kernel_rfl
  have x4 : ((⟨#[117, 112, 112, 101, 114, 114, 105, 103, 104, 116, 120]⟩ : ByteArray).toList == [117, 108]) = false := by kernel_rfl
  have x5 : ((⟨#[117, 112, 112, 101, 114, 114, 105, 103, 104, 116, 120]⟩ : ByteArray).toList == [117, 112, 112, 101, 114, 108, 101, 102, 116]) = false := by kernel_rfl
  have x6 : ((⟨#[117, 112, 112, 101, 114, 114, 105, 103, 104, 116, 120]⟩ : ByteArray).toList == [117, 114]) = false := by kernel_rfl
  have x7 : ((⟨#[117, 112, 112, 101, 114, 114, 105, 103, 104, 116, 120]⟩ : ByteArray).toList == [117, 112, 112, 101, 114, 114, 105, 103, 104, 116]) = false := by kernel_rfl
  have hc : (⟨#[85, 80, 80, 69, 82, 82, 73, 71, 72, 84]⟩ ++ ⟨#[120]⟩ : ByteArray) = ⟨#[85, 80, 80, 69, 82, 82, 73, 71, 72, 84, 120]⟩ := by kernel_rfl
  have X : ∀ W, Calls Try.prog 11 #[.string (⟨#[85, 80, 80, 69, 82, 82, 73, 71, 72, 84]⟩ ++ ⟨#[120]⟩)] W fun e w' => e = .returned (.tuple #[.int .i64 0, .bool false]) ∧ Below W.heap.size W w' := fun W => by rw [hc]; exact origin_bad ⟨#[85, 80, 80, 69, 82, 82, 73, 71, 72, 84, 120]⟩ ⟨#[117, 112, 112, 101, 114, 114, 105, 103, 104, 116, 120]⟩ W (by decide) hx x0 x1 x2 x3 x4 x5 x6 x7
  replace X := hid X
  clear hc hl hx x0 x1 x2 x3 x4 x5 x6 x7
  go_enter Try.func3, Try.ntmps3
  go_wp2_with (first | (go_at_call 10; with_reducible refine (G.out _).mono ?_; rintro e w' ⟨rfl, hb0⟩) | (go_at_call 11; with_reducible refine (O.out _).mono ?_; rintro e w' ⟨rfl, hb1⟩) | (go_at_call 11; with_reducible refine (X.out _).mono ?_; rintro e w' ⟨rfl, hb2⟩))
  go_ret
  exact ⟨rfl, by repeat (first | (with_reducible exact Below.refl _ _) | (with_reducible refine below_step ?_ hb2) | (with_reducible refine below_step ?_ hb1) | (with_reducible refine below_step ?_ hb0) | (with_reducible apply pw_below_drewN) | (with_reducible apply below_alloc) | (with_reducible apply below_drew1))⟩

theorem originOf_out (n : Int) (a b : Bool) (w : World) (h : n < 0 ∨ 4 ≤ n) :
    Calls Try.prog 3 #[.int .i64 n, .bool a, .bool b] w fun e w' => e = .returned (.bool true) ∧ Below w.heap.size w w' := by
  go_enter Try.func3, Try.ntmps3
  by_cases h0 : n < 0
  · go_wp2
    go_ret
    exact ⟨rfl, by repeat (first | (with_reducible exact Below.refl _ _) | (with_reducible apply pw_below_drewN) | (with_reducible apply below_alloc) | (with_reducible apply below_drew1))⟩
  · have h1 : 4 ≤ n := by omega
    go_wp2
    go_ret
    exact ⟨rfl, by repeat (first | (with_reducible exact Below.refl _ _) | (with_reducible apply pw_below_drewN) | (with_reducible apply below_alloc) | (with_reducible apply below_drew1))⟩
/-- The law's walk. -/
theorem originOf_walk (n : Int) (a b : Bool) (w : World) :
    Calls Try.prog 3 #[.int .i64 n, .bool a, .bool b] w fun e w' => e = .returned (.bool true) ∧ Below w.heap.size w w' := by
  by_cases h : n < 0 ∨ 4 ≤ n
  · exact originOf_out n a b w h
  · obtain rfl | rfl | rfl | rfl : n = 0 ∨ n = 1 ∨ n = 2 ∨ n = 3 := by omega
    all_goals cases a <;> cases b
    · exact originOf_000 w
    · exact originOf_001 w
    · exact originOf_010 w
    · exact originOf_011 w
    · exact originOf_100 w
    · exact originOf_101 w
    · exact originOf_110 w
    · exact originOf_111 w
    · exact originOf_200 w
    · exact originOf_201 w
    · exact originOf_210 w
    · exact originOf_211 w
    · exact originOf_300 w
    · exact originOf_301 w
    · exact originOf_310 w
    · exact originOf_311 w
end Go.Proofs.Ytmngibfakkfnnaa
