/-
The law FnAnchorOf: the law's own function walked, word by word. Conditions: none.
-/
import Derived.Test.YtmngibfakkfnnaaC4
namespace Go.Proofs.Ytmngibfakkfnnaa
open Go.RowKit Go.ChangeShapes Go.Proofs.YtmngibfakkfnnaaW.PrintWords

theorem anchorOf_600 (w : World) :
    Calls Try.prog 8 #[.int .i64 6, .bool false, .bool false] w fun e w' => e = .returned (.bool true) ∧ Below w.heap.size w w' := by
  have hl : lowered ⟨#[98, 108]⟩ = ⟨#[98, 108]⟩ := by kernel_rfl
  have P := hid (fun W => position_ok_bl W)
  have F := hid (fun W => position_ok_full W)
  have O : ∀ W, Calls Try.prog 25 #[.string ⟨#[98, 108]⟩] W fun e w' => e = .returned (.tuple #[.int .i64 6, .bool true]) ∧ Below W.heap.size W w' := fun W => anchor_ok_bl ⟨#[98, 108]⟩ W (by decide) hl
  replace O := hid O
  have hx : lowered ⟨#[98, 108, 120]⟩ = ⟨#[98, 108, 120]⟩ := by kernel_rfl
  have x0 : ((⟨#[98, 108, 120]⟩ : ByteArray).toList == [116, 108]) = false := by kernel_rfl
  have x1 : ((⟨#[98, 108, 120]⟩ : ByteArray).toList == [116, 111, 112, 108, 101, 102, 116]) = false := by kernel_rfl
  have x2 : ((⟨#[98, 108, 120]⟩ : ByteArray).toList == [116, 99]) = false := by kernel_rfl
  have x3 : ((⟨#[98, 108, 120]⟩ : ByteArray).toList == [116, 111, 112, 99, 101, 110, 116, 101, 114]) = false := by kernel_rfl
  have x4 : ((⟨#[98, 108, 120]⟩ : ByteArray).toList == [116, 114]) = false := by kernel_rfl
  have x5 : ((⟨#[98, 108, 120]⟩ : ByteArray).toList == [116, 111, 112, 114, 105, 103, 104, 116]) = false := by kernel_rfl
  have x6 : ((⟨#[98, 108, 120]⟩ : ByteArray).toList == [108]) = false := by kernel_rfl
  have x7 : ((⟨#[98, 108, 120]⟩ : ByteArray).toList == [108, 101, 102, 116]) = false := by kernel_rfl
  have x8 : ((⟨#[98, 108, 120]⟩ : ByteArray).toList == [99]) = false := by kernel_rfl
  have x9 : ((⟨#[98, 108, 120]⟩ : ByteArray).toList == [99, 101, 110, 116, 101, 114]) = false := by kernel_rfl
  have x10 : ((⟨#[98, 108, 120]⟩ : ByteArray).toList == [114]) = false := by kernel_rfl
  have x11 : ((⟨#[98, 108, 120]⟩ : ByteArray).toList == [114, 105, 103, 104, 116]) = false := by kernel_rfl
  have x12 : ((⟨#[98, 108, 120]⟩ : ByteArray).toList == [98, 108]) = false := by kernel_rfl
  have x13 : ((⟨#[98, 108, 120]⟩ : ByteArray).toList == [98, 111, 116, 116, 111, 109, 108, 101, 102, 116]) = false := by kernel_rfl
  have x14 : ((⟨#[98, 108, 120]⟩ : ByteArray).toList == [98, 99]) = false := by kernel_rfl
  have x15 : ((⟨#[98, 108, 120]⟩ : ByteArray).toList == [98, 111, 116, 116, 111, 109, 99, 101, 110, 116, 101, 114]) = false := by kernel_rfl
  have x16 : ((⟨#[98, 108, 120]⟩ : ByteArray).toList == [98, 114]) = false := by kernel_rfl
  have x17 : ((⟨#[98, 108, 120]⟩ : ByteArray).toList == [98, 111, 116, 116, 111, 109, 114, 105, 103, 104, 116]) = false := by kernel_rfl
  have hc : (⟨#[98, 108]⟩ ++ ⟨#[120]⟩ : ByteArray) = ⟨#[98, 108, 120]⟩ := by kernel_rfl
  have X : ∀ W, Calls Try.prog 25 #[.string (⟨#[98, 108]⟩ ++ ⟨#[120]⟩)] W fun e w' => e = .returned (.tuple #[.int .i64 0, .bool false]) ∧ Below W.heap.size W w' := fun W => by rw [hc]; exact anchor_bad ⟨#[98, 108, 120]⟩ ⟨#[98, 108, 120]⟩ W (by decide) hx x0 x1 x2 x3 x4 x5 x6 x7 x8 x9 x10 x11 x12 x13 x14 x15 x16 x17
  replace X := hid X
  clear hc hl hx x0 x1 x2 x3 x4 x5 x6 x7 x8 x9 x10 x11 x12 x13 x14 x15 x16 x17
  go_enter Try.func8, Try.ntmps8
  go_wp2_with (first | (go_at_call 25; with_reducible refine (O.out _).mono ?_; rintro e w' ⟨rfl, hb1⟩) | (go_at_call 25; with_reducible refine (X.out _).mono ?_; rintro e w' ⟨rfl, hb2⟩) | (go_at_call 24; with_reducible refine (P.out _).mono ?_; rintro e w' ⟨rfl, hb3⟩) | (go_at_call 24; with_reducible refine (F.out _).mono ?_; rintro e w' ⟨rfl, hb4⟩) | (go_at_call 23; go_in))
  go_ret
  exact ⟨rfl, by repeat (first | (with_reducible exact Below.refl _ _) | (with_reducible refine below_step ?_ hb4) | (with_reducible refine below_step ?_ hb3) | (with_reducible refine below_step ?_ hb2) | (with_reducible refine below_step ?_ hb1) | (with_reducible refine below_step ?_ hb0) | (with_reducible apply pw_below_drewN) | (with_reducible apply below_alloc) | (with_reducible apply below_drew1))⟩

theorem anchorOf_601 (w : World) :
    Calls Try.prog 8 #[.int .i64 6, .bool false, .bool true] w fun e w' => e = .returned (.bool true) ∧ Below w.heap.size w w' := by
  have G : ∀ W, Calls Try.prog 10 #[.string ⟨#[98, 108]⟩] W fun e w' => e = .returned (.string ⟨#[66, 76]⟩) ∧ Below W.heap.size W w' := fun W => by have := upper_calls ⟨#[98, 108]⟩ W (by decide); rw [show (⟨((⟨#[98, 108]⟩ : ByteArray).data.toList.map great).toArray⟩ : ByteArray) = ⟨#[66, 76]⟩ by kernel_rfl] at this; exact this
  replace G := hid G
  have hl : lowered ⟨#[66, 76]⟩ = ⟨#[98, 108]⟩ := by kernel_rfl
  have P := hid (fun W => position_ok_bl W)
  have F := hid (fun W => position_ok_full W)
  have O : ∀ W, Calls Try.prog 25 #[.string ⟨#[66, 76]⟩] W fun e w' => e = .returned (.tuple #[.int .i64 6, .bool true]) ∧ Below W.heap.size W w' := fun W => anchor_ok_bl ⟨#[66, 76]⟩ W (by decide) hl
  replace O := hid O
  have hx : lowered ⟨#[66, 76, 120]⟩ = ⟨#[98, 108, 120]⟩ := by kernel_rfl
  have x0 : ((⟨#[98, 108, 120]⟩ : ByteArray).toList == [116, 108]) = false := by kernel_rfl
  have x1 : ((⟨#[98, 108, 120]⟩ : ByteArray).toList == [116, 111, 112, 108, 101, 102, 116]) = false := by kernel_rfl
  have x2 : ((⟨#[98, 108, 120]⟩ : ByteArray).toList == [116, 99]) = false := by kernel_rfl
  have x3 : ((⟨#[98, 108, 120]⟩ : ByteArray).toList == [116, 111, 112, 99, 101, 110, 116, 101, 114]) = false := by kernel_rfl
  have x4 : ((⟨#[98, 108, 120]⟩ : ByteArray).toList == [116, 114]) = false := by kernel_rfl
  have x5 : ((⟨#[98, 108, 120]⟩ : ByteArray).toList == [116, 111, 112, 114, 105, 103, 104, 116]) = false := by kernel_rfl
  have x6 : ((⟨#[98, 108, 120]⟩ : ByteArray).toList == [108]) = false := by kernel_rfl
  have x7 : ((⟨#[98, 108, 120]⟩ : ByteArray).toList == [108, 101, 102, 116]) = false := by kernel_rfl
  have x8 : ((⟨#[98, 108, 120]⟩ : ByteArray).toList == [99]) = false := by kernel_rfl
  have x9 : ((⟨#[98, 108, 120]⟩ : ByteArray).toList == [99, 101, 110, 116, 101, 114]) = false := by kernel_rfl
  have x10 : ((⟨#[98, 108, 120]⟩ : ByteArray).toList == [114]) = false := by kernel_rfl
  have x11 : ((⟨#[98, 108, 120]⟩ : ByteArray).toList == [114, 105, 103, 104, 116]) = false := by kernel_rfl
  have x12 : ((⟨#[98, 108, 120]⟩ : ByteArray).toList == [98, 108]) = false := by kernel_rfl
  have x13 : ((⟨#[98, 108, 120]⟩ : ByteArray).toList == [98, 111, 116, 116, 111, 109, 108, 101, 102, 116]) = false := by kernel_rfl
  have x14 : ((⟨#[98, 108, 120]⟩ : ByteArray).toList == [98, 99]) = false := by kernel_rfl
  have x15 : ((⟨#[98, 108, 120]⟩ : ByteArray).toList == [98, 111, 116, 116, 111, 109, 99, 101, 110, 116, 101, 114]) = false := by kernel_rfl
  have x16 : ((⟨#[98, 108, 120]⟩ : ByteArray).toList == [98, 114]) = false := by kernel_rfl
  have x17 : ((⟨#[98, 108, 120]⟩ : ByteArray).toList == [98, 111, 116, 116, 111, 109, 114, 105, 103, 104, 116]) = false := by kernel_rfl
  have hc : (⟨#[66, 76]⟩ ++ ⟨#[120]⟩ : ByteArray) = ⟨#[66, 76, 120]⟩ := by kernel_rfl
  have X : ∀ W, Calls Try.prog 25 #[.string (⟨#[66, 76]⟩ ++ ⟨#[120]⟩)] W fun e w' => e = .returned (.tuple #[.int .i64 0, .bool false]) ∧ Below W.heap.size W w' := fun W => by rw [hc]; exact anchor_bad ⟨#[66, 76, 120]⟩ ⟨#[98, 108, 120]⟩ W (by decide) hx x0 x1 x2 x3 x4 x5 x6 x7 x8 x9 x10 x11 x12 x13 x14 x15 x16 x17
  replace X := hid X
  clear hc hl hx x0 x1 x2 x3 x4 x5 x6 x7 x8 x9 x10 x11 x12 x13 x14 x15 x16 x17
  go_enter Try.func8, Try.ntmps8
  go_wp2_with (first | (go_at_call 10; with_reducible refine (G.out _).mono ?_; rintro e w' ⟨rfl, hb0⟩) | (go_at_call 25; with_reducible refine (O.out _).mono ?_; rintro e w' ⟨rfl, hb1⟩) | (go_at_call 25; with_reducible refine (X.out _).mono ?_; rintro e w' ⟨rfl, hb2⟩) | (go_at_call 24; with_reducible refine (P.out _).mono ?_; rintro e w' ⟨rfl, hb3⟩) | (go_at_call 24; with_reducible refine (F.out _).mono ?_; rintro e w' ⟨rfl, hb4⟩) | (go_at_call 23; go_in))
  go_ret
  exact ⟨rfl, by repeat (first | (with_reducible exact Below.refl _ _) | (with_reducible refine below_step ?_ hb4) | (with_reducible refine below_step ?_ hb3) | (with_reducible refine below_step ?_ hb2) | (with_reducible refine below_step ?_ hb1) | (with_reducible refine below_step ?_ hb0) | (with_reducible apply pw_below_drewN) | (with_reducible apply below_alloc) | (with_reducible apply below_drew1))⟩

theorem anchorOf_610 (w : World) :
    Calls Try.prog 8 #[.int .i64 6, .bool true, .bool false] w fun e w' => e = .returned (.bool true) ∧ Below w.heap.size w w' := by
  have hl : lowered ⟨#[98, 111, 116, 116, 111, 109, 108, 101, 102, 116]⟩ = ⟨#[98, 111, 116, 116, 111, 109, 108, 101, 102, 116]⟩ := by kernel_rfl
  have P := hid (fun W => position_ok_bottomleft W)
  have F := hid (fun W => position_ok_full W)
  have O : ∀ W, Calls Try.prog 25 #[.string ⟨#[98, 111, 116, 116, 111, 109, 108, 101, 102, 116]⟩] W fun e w' => e = .returned (.tuple #[.int .i64 6, .bool true]) ∧ Below W.heap.size W w' := fun W => anchor_ok_bottomleft ⟨#[98, 111, 116, 116, 111, 109, 108, 101, 102, 116]⟩ W (by decide) hl
  replace O := hid O
  have hx : lowered ⟨#[98, 111, 116, 116, 111, 109, 108, 101, 102, 116, 120]⟩ = ⟨#[98, 111, 116, 116, 111, 109, 108, 101, 102, 116, 120]⟩ := by kernel_rfl
  have x0 : ((⟨#[98, 111, 116, 116, 111, 109, 108, 101, 102, 116, 120]⟩ : ByteArray).toList == [116, 108]) = false := by kernel_rfl
  have x1 : ((⟨#[98, 111, 116, 116, 111, 109, 108, 101, 102, 116, 120]⟩ : ByteArray).toList == [116, 111, 112, 108, 101, 102, 116]) = false := by kernel_rfl
  have x2 : ((⟨#[98, 111, 116, 116, 111, 109, 108, 101, 102, 116, 120]⟩ : ByteArray).toList == [116, 99]) = false := by kernel_rfl
  have x3 : ((⟨#[98, 111, 116, 116, 111, 109, 108, 101, 102, 116, 120]⟩ : ByteArray).toList == [116, 111, 112, 99, 101, 110, 116, 101, 114]) = false := by kernel_rfl
  have x4 : ((⟨#[98, 111, 116, 116, 111, 109, 108, 101, 102, 116, 120]⟩ : ByteArray).toList == [116, 114]) = false := by kernel_rfl
  have x5 : ((⟨#[98, 111, 116, 116, 111, 109, 108, 101, 102, 116, 120]⟩ : ByteArray).toList == [116, 111, 112, 114, 105, 103, 104, 116]) = false := by kernel_rfl
  have x6 : ((⟨#[98, 111, 116, 116, 111, 109, 108, 101, 102, 116, 120]⟩ : ByteArray).toList == [108]) = false := by kernel_rfl
  have x7 : ((⟨#[98, 111, 116, 116, 111, 109, 108, 101, 102, 116, 120]⟩ : ByteArray).toList == [108, 101, 102, 116]) = false := by kernel_rfl
  have x8 : ((⟨#[98, 111, 116, 116, 111, 109, 108, 101, 102, 116, 120]⟩ : ByteArray).toList == [99]) = false := by kernel_rfl
  have x9 : ((⟨#[98, 111, 116, 116, 111, 109, 108, 101, 102, 116, 120]⟩ : ByteArray).toList == [99, 101, 110, 116, 101, 114]) = false := by kernel_rfl
  have x10 : ((⟨#[98, 111, 116, 116, 111, 109, 108, 101, 102, 116, 120]⟩ : ByteArray).toList == [114]) = false := by kernel_rfl
  have x11 : ((⟨#[98, 111, 116, 116, 111, 109, 108, 101, 102, 116, 120]⟩ : ByteArray).toList == [114, 105, 103, 104, 116]) = false := by kernel_rfl
  have x12 : ((⟨#[98, 111, 116, 116, 111, 109, 108, 101, 102, 116, 120]⟩ : ByteArray).toList == [98, 108]) = false := by kernel_rfl
  have x13 : ((⟨#[98, 111, 116, 116, 111, 109, 108, 101, 102, 116, 120]⟩ : ByteArray).toList == [98, 111, 116, 116, 111, 109, 108, 101, 102, 116]) = false := by kernel_rfl
  have x14 : ((⟨#[98, 111, 116, 116, 111, 109, 108, 101, 102, 116, 120]⟩ : ByteArray).toList == [98, 99]) = false := by kernel_rfl
  have x15 : ((⟨#[98, 111, 116, 116, 111, 109, 108, 101, 102, 116, 120]⟩ : ByteArray).toList == [98, 111, 116, 116, 111, 109, 99, 101, 110, 116, 101, 114]) = false := by kernel_rfl
  have x16 : ((⟨#[98, 111, 116, 116, 111, 109, 108, 101, 102, 116, 120]⟩ : ByteArray).toList == [98, 114]) = false := by kernel_rfl
  have x17 : ((⟨#[98, 111, 116, 116, 111, 109, 108, 101, 102, 116, 120]⟩ : ByteArray).toList == [98, 111, 116, 116, 111, 109, 114, 105, 103, 104, 116]) = false := by kernel_rfl
  have hc : (⟨#[98, 111, 116, 116, 111, 109, 108, 101, 102, 116]⟩ ++ ⟨#[120]⟩ : ByteArray) = ⟨#[98, 111, 116, 116, 111, 109, 108, 101, 102, 116, 120]⟩ := by kernel_rfl
  have X : ∀ W, Calls Try.prog 25 #[.string (⟨#[98, 111, 116, 116, 111, 109, 108, 101, 102, 116]⟩ ++ ⟨#[120]⟩)] W fun e w' => e = .returned (.tuple #[.int .i64 0, .bool false]) ∧ Below W.heap.size W w' := fun W => by rw [hc]; exact anchor_bad ⟨#[98, 111, 116, 116, 111, 109, 108, 101, 102, 116, 120]⟩ ⟨#[98, 111, 116, 116, 111, 109, 108, 101, 102, 116, 120]⟩ W (by decide) hx x0 x1 x2 x3 x4 x5 x6 x7 x8 x9 x10 x11 x12 x13 x14 x15 x16 x17
  replace X := hid X
  clear hc hl hx x0 x1 x2 x3 x4 x5 x6 x7 x8 x9 x10 x11 x12 x13 x14 x15 x16 x17
  go_enter Try.func8, Try.ntmps8
  go_wp2_with (first | (go_at_call 25; with_reducible refine (O.out _).mono ?_; rintro e w' ⟨rfl, hb1⟩) | (go_at_call 25; with_reducible refine (X.out _).mono ?_; rintro e w' ⟨rfl, hb2⟩) | (go_at_call 24; with_reducible refine (P.out _).mono ?_; rintro e w' ⟨rfl, hb3⟩) | (go_at_call 24; with_reducible refine (F.out _).mono ?_; rintro e w' ⟨rfl, hb4⟩) | (go_at_call 23; go_in))
  go_ret
  exact ⟨rfl, by repeat (first | (with_reducible exact Below.refl _ _) | (with_reducible refine below_step ?_ hb4) | (with_reducible refine below_step ?_ hb3) | (with_reducible refine below_step ?_ hb2) | (with_reducible refine below_step ?_ hb1) | (with_reducible refine below_step ?_ hb0) | (with_reducible apply pw_below_drewN) | (with_reducible apply below_alloc) | (with_reducible apply below_drew1))⟩

theorem anchorOf_611 (w : World) :
    Calls Try.prog 8 #[.int .i64 6, .bool true, .bool true] w fun e w' => e = .returned (.bool true) ∧ Below w.heap.size w w' := by
  have G : ∀ W, Calls Try.prog 10 #[.string ⟨#[98, 111, 116, 116, 111, 109, 108, 101, 102, 116]⟩] W fun e w' => e = .returned (.string ⟨#[66, 79, 84, 84, 79, 77, 76, 69, 70, 84]⟩) ∧ Below W.heap.size W w' := fun W => by have := upper_calls ⟨#[98, 111, 116, 116, 111, 109, 108, 101, 102, 116]⟩ W (by decide); rw [show (⟨((⟨#[98, 111, 116, 116, 111, 109, 108, 101, 102, 116]⟩ : ByteArray).data.toList.map great).toArray⟩ : ByteArray) = ⟨#[66, 79, 84, 84, 79, 77, 76, 69, 70, 84]⟩ by kernel_rfl] at this; exact this
  replace G := hid G
  have hl : lowered ⟨#[66, 79, 84, 84, 79, 77, 76, 69, 70, 84]⟩ = ⟨#[98, 111, 116, 116, 111, 109, 108, 101, 102, 116]⟩ := by kernel_rfl
  have P := hid (fun W => position_ok_bottomleft W)
  have F := hid (fun W => position_ok_full W)
  have O : ∀ W, Calls Try.prog 25 #[.string ⟨#[66, 79, 84, 84, 79, 77, 76, 69, 70, 84]⟩] W fun e w' => e = .returned (.tuple #[.int .i64 6, .bool true]) ∧ Below W.heap.size W w' := fun W => anchor_ok_bottomleft ⟨#[66, 79, 84, 84, 79, 77, 76, 69, 70, 84]⟩ W (by decide) hl
  replace O := hid O
  have hx : lowered ⟨#[66, 79, 84, 84, 79, 77, 76, 69, 70, 84, 120]⟩ = ⟨#[98, 111, 116, 116, 111, 109, 108, 101, 102, 116, 120]⟩ := by kernel_rfl
  have x0 : ((⟨#[98, 111, 116, 116, 111, 109, 108, 101, 102, 116, 120]⟩ : ByteArray).toList == [116, 108]) = false := by kernel_rfl
  have x1 : ((⟨#[98, 111, 116, 116, 111, 109, 108, 101, 102, 116, 120]⟩ : ByteArray).toList == [116, 111, 112, 108, 101, 102, 116]) = false := by kernel_rfl
  have x2 : ((⟨#[98, 111, 116, 116, 111, 109, 108, 101, 102, 116, 120]⟩ : ByteArray).toList == [116, 99]) = false := by kernel_rfl
  have x3 : ((⟨#[98, 111, 116, 116, 111, 109, 108, 101, 102, 116, 120]⟩ : ByteArray).toList == [116, 111, 112, 99, 101, 110, 116, 101, 114]) = false := by kernel_rfl
  have x4 : ((⟨#[98, 111, 116, 116, 111, 109, 108, 101, 102, 116, 120]⟩ : ByteArray).toList == [116, 114]) = false := by kernel_rfl
  have x5 : ((⟨#[98, 111, 116, 116, 111, 109, 108, 101, 102, 116, 120]⟩ : ByteArray).toList == [116, 111, 112, 114, 105, 103, 104, 116]) = false := by kernel_rfl
  have x6 : ((⟨#[98, 111, 116, 116, 111, 109, 108, 101, 102, 116, 120]⟩ : ByteArray).toList == [108]) = false := by kernel_rfl
  have x7 : ((⟨#[98, 111, 116, 116, 111, 109, 108, 101, 102, 116, 120]⟩ : ByteArray).toList == [108, 101, 102, 116]) = false := by kernel_rfl
  have x8 : ((⟨#[98, 111, 116, 116, 111, 109, 108, 101, 102, 116, 120]⟩ : ByteArray).toList == [99]) = false := by kernel_rfl
  have x9 : ((⟨#[98, 111, 116, 116, 111, 109, 108, 101, 102, 116, 120]⟩ : ByteArray).toList == [99, 101, 110, 116, 101, 114]) = false := by kernel_rfl
  have x10 : ((⟨#[98, 111, 116, 116, 111, 109, 108, 101, 102, 116, 120]⟩ : ByteArray).toList == [114]) = false := by kernel_rfl
  have x11 : ((⟨#[98, 111, 116, 116, 111, 109, 108, 101, 102, 116, 120]⟩ : ByteArray).toList == [114, 105, 103, 104, 116]) = false := by kernel_rfl
  have x12 : ((⟨#[98, 111, 116, 116, 111, 109, 108, 101, 102, 116, 120]⟩ : ByteArray).toList == [98, 108]) = false := by kernel_rfl
  have x13 : ((⟨#[98, 111, 116, 116, 111, 109, 108, 101, 102, 116, 120]⟩ : ByteArray).toList == [98, 111, 116, 116, 111, 109, 108, 101, 102, 116]) = false := by kernel_rfl
  have x14 : ((⟨#[98, 111, 116, 116, 111, 109, 108, 101, 102, 116, 120]⟩ : ByteArray).toList == [98, 99]) = false := by kernel_rfl
  have x15 : ((⟨#[98, 111, 116, 116, 111, 109, 108, 101, 102, 116, 120]⟩ : ByteArray).toList == [98, 111, 116, 116, 111, 109, 99, 101, 110, 116, 101, 114]) = false := by kernel_rfl
  have x16 : ((⟨#[98, 111, 116, 116, 111, 109, 108, 101, 102, 116, 120]⟩ : ByteArray).toList == [98, 114]) = false := by kernel_rfl
  have x17 : ((⟨#[98, 111, 116, 116, 111, 109, 108, 101, 102, 116, 120]⟩ : ByteArray).toList == [98, 111, 116, 116, 111, 109, 114, 105, 103, 104, 116]) = false := by kernel_rfl
  have hc : (⟨#[66, 79, 84, 84, 79, 77, 76, 69, 70, 84]⟩ ++ ⟨#[120]⟩ : ByteArray) = ⟨#[66, 79, 84, 84, 79, 77, 76, 69, 70, 84, 120]⟩ := by kernel_rfl
  have X : ∀ W, Calls Try.prog 25 #[.string (⟨#[66, 79, 84, 84, 79, 77, 76, 69, 70, 84]⟩ ++ ⟨#[120]⟩)] W fun e w' => e = .returned (.tuple #[.int .i64 0, .bool false]) ∧ Below W.heap.size W w' := fun W => by rw [hc]; exact anchor_bad ⟨#[66, 79, 84, 84, 79, 77, 76, 69, 70, 84, 120]⟩ ⟨#[98, 111, 116, 116, 111, 109, 108, 101, 102, 116, 120]⟩ W (by decide) hx x0 x1 x2 x3 x4 x5 x6 x7 x8 x9 x10 x11 x12 x13 x14 x15 x16 x17
  replace X := hid X
  clear hc hl hx x0 x1 x2 x3 x4 x5 x6 x7 x8 x9 x10 x11 x12 x13 x14 x15 x16 x17
  go_enter Try.func8, Try.ntmps8
  go_wp2_with (first | (go_at_call 10; with_reducible refine (G.out _).mono ?_; rintro e w' ⟨rfl, hb0⟩) | (go_at_call 25; with_reducible refine (O.out _).mono ?_; rintro e w' ⟨rfl, hb1⟩) | (go_at_call 25; with_reducible refine (X.out _).mono ?_; rintro e w' ⟨rfl, hb2⟩) | (go_at_call 24; with_reducible refine (P.out _).mono ?_; rintro e w' ⟨rfl, hb3⟩) | (go_at_call 24; with_reducible refine (F.out _).mono ?_; rintro e w' ⟨rfl, hb4⟩) | (go_at_call 23; go_in))
  go_ret
  exact ⟨rfl, by repeat (first | (with_reducible exact Below.refl _ _) | (with_reducible refine below_step ?_ hb4) | (with_reducible refine below_step ?_ hb3) | (with_reducible refine below_step ?_ hb2) | (with_reducible refine below_step ?_ hb1) | (with_reducible refine below_step ?_ hb0) | (with_reducible apply pw_below_drewN) | (with_reducible apply below_alloc) | (with_reducible apply below_drew1))⟩

theorem anchorOf_700 (w : World) :
    Calls Try.prog 8 #[.int .i64 7, .bool false, .bool false] w fun e w' => e = .returned (.bool true) ∧ Below w.heap.size w w' := by
  have hl : lowered ⟨#[98, 99]⟩ = ⟨#[98, 99]⟩ := by kernel_rfl
  have P := hid (fun W => position_ok_bc W)
  have F := hid (fun W => position_ok_full W)
  have O : ∀ W, Calls Try.prog 25 #[.string ⟨#[98, 99]⟩] W fun e w' => e = .returned (.tuple #[.int .i64 7, .bool true]) ∧ Below W.heap.size W w' := fun W => anchor_ok_bc ⟨#[98, 99]⟩ W (by decide) hl
  replace O := hid O
  have hx : lowered ⟨#[98, 99, 120]⟩ = ⟨#[98, 99, 120]⟩ := by kernel_rfl
  have x0 : ((⟨#[98, 99, 120]⟩ : ByteArray).toList == [116, 108]) = false := by kernel_rfl
  have x1 : ((⟨#[98, 99, 120]⟩ : ByteArray).toList == [116, 111, 112, 108, 101, 102, 116]) = false := by kernel_rfl
  have x2 : ((⟨#[98, 99, 120]⟩ : ByteArray).toList == [116, 99]) = false := by kernel_rfl
  have x3 : ((⟨#[98, 99, 120]⟩ : ByteArray).toList == [116, 111, 112, 99, 101, 110, 116, 101, 114]) = false := by kernel_rfl
  have x4 : ((⟨#[98, 99, 120]⟩ : ByteArray).toList == [116, 114]) = false := by kernel_rfl
  have x5 : ((⟨#[98, 99, 120]⟩ : ByteArray).toList == [116, 111, 112, 114, 105, 103, 104, 116]) = false := by kernel_rfl
  have x6 : ((⟨#[98, 99, 120]⟩ : ByteArray).toList == [108]) = false := by kernel_rfl
  have x7 : ((⟨#[98, 99, 120]⟩ : ByteArray).toList == [108, 101, 102, 116]) = false := by kernel_rfl
  have x8 : ((⟨#[98, 99, 120]⟩ : ByteArray).toList == [99]) = false := by kernel_rfl
  have x9 : ((⟨#[98, 99, 120]⟩ : ByteArray).toList == [99, 101, 110, 116, 101, 114]) = false := by kernel_rfl
  have x10 : ((⟨#[98, 99, 120]⟩ : ByteArray).toList == [114]) = false := by kernel_rfl
  have x11 : ((⟨#[98, 99, 120]⟩ : ByteArray).toList == [114, 105, 103, 104, 116]) = false := by kernel_rfl
  have x12 : ((⟨#[98, 99, 120]⟩ : ByteArray).toList == [98, 108]) = false := by kernel_rfl
  have x13 : ((⟨#[98, 99, 120]⟩ : ByteArray).toList == [98, 111, 116, 116, 111, 109, 108, 101, 102, 116]) = false := by kernel_rfl
  have x14 : ((⟨#[98, 99, 120]⟩ : ByteArray).toList == [98, 99]) = false := by kernel_rfl
  have x15 : ((⟨#[98, 99, 120]⟩ : ByteArray).toList == [98, 111, 116, 116, 111, 109, 99, 101, 110, 116, 101, 114]) = false := by kernel_rfl
  have x16 : ((⟨#[98, 99, 120]⟩ : ByteArray).toList == [98, 114]) = false := by kernel_rfl
  have x17 : ((⟨#[98, 99, 120]⟩ : ByteArray).toList == [98, 111, 116, 116, 111, 109, 114, 105, 103, 104, 116]) = false := by kernel_rfl
  have hc : (⟨#[98, 99]⟩ ++ ⟨#[120]⟩ : ByteArray) = ⟨#[98, 99, 120]⟩ := by kernel_rfl
  have X : ∀ W, Calls Try.prog 25 #[.string (⟨#[98, 99]⟩ ++ ⟨#[120]⟩)] W fun e w' => e = .returned (.tuple #[.int .i64 0, .bool false]) ∧ Below W.heap.size W w' := fun W => by rw [hc]; exact anchor_bad ⟨#[98, 99, 120]⟩ ⟨#[98, 99, 120]⟩ W (by decide) hx x0 x1 x2 x3 x4 x5 x6 x7 x8 x9 x10 x11 x12 x13 x14 x15 x16 x17
  replace X := hid X
  clear hc hl hx x0 x1 x2 x3 x4 x5 x6 x7 x8 x9 x10 x11 x12 x13 x14 x15 x16 x17
  go_enter Try.func8, Try.ntmps8
  go_wp2_with (first | (go_at_call 25; with_reducible refine (O.out _).mono ?_; rintro e w' ⟨rfl, hb1⟩) | (go_at_call 25; with_reducible refine (X.out _).mono ?_; rintro e w' ⟨rfl, hb2⟩) | (go_at_call 24; with_reducible refine (P.out _).mono ?_; rintro e w' ⟨rfl, hb3⟩) | (go_at_call 24; with_reducible refine (F.out _).mono ?_; rintro e w' ⟨rfl, hb4⟩) | (go_at_call 23; go_in))
  go_ret
  exact ⟨rfl, by repeat (first | (with_reducible exact Below.refl _ _) | (with_reducible refine below_step ?_ hb4) | (with_reducible refine below_step ?_ hb3) | (with_reducible refine below_step ?_ hb2) | (with_reducible refine below_step ?_ hb1) | (with_reducible refine below_step ?_ hb0) | (with_reducible apply pw_below_drewN) | (with_reducible apply below_alloc) | (with_reducible apply below_drew1))⟩

theorem anchorOf_701 (w : World) :
    Calls Try.prog 8 #[.int .i64 7, .bool false, .bool true] w fun e w' => e = .returned (.bool true) ∧ Below w.heap.size w w' := by
  have G : ∀ W, Calls Try.prog 10 #[.string ⟨#[98, 99]⟩] W fun e w' => e = .returned (.string ⟨#[66, 67]⟩) ∧ Below W.heap.size W w' := fun W => by have := upper_calls ⟨#[98, 99]⟩ W (by decide); rw [show (⟨((⟨#[98, 99]⟩ : ByteArray).data.toList.map great).toArray⟩ : ByteArray) = ⟨#[66, 67]⟩ by kernel_rfl] at this; exact this
  replace G := hid G
  have hl : lowered ⟨#[66, 67]⟩ = ⟨#[98, 99]⟩ := by kernel_rfl
  have P := hid (fun W => position_ok_bc W)
  have F := hid (fun W => position_ok_full W)
  have O : ∀ W, Calls Try.prog 25 #[.string ⟨#[66, 67]⟩] W fun e w' => e = .returned (.tuple #[.int .i64 7, .bool true]) ∧ Below W.heap.size W w' := fun W => anchor_ok_bc ⟨#[66, 67]⟩ W (by decide) hl
  replace O := hid O
  have hx : lowered ⟨#[66, 67, 120]⟩ = ⟨#[98, 99, 120]⟩ := by kernel_rfl
  have x0 : ((⟨#[98, 99, 120]⟩ : ByteArray).toList == [116, 108]) = false := by kernel_rfl
  have x1 : ((⟨#[98, 99, 120]⟩ : ByteArray).toList == [116, 111, 112, 108, 101, 102, 116]) = false := by kernel_rfl
  have x2 : ((⟨#[98, 99, 120]⟩ : ByteArray).toList == [116, 99]) = false := by kernel_rfl
  have x3 : ((⟨#[98, 99, 120]⟩ : ByteArray).toList == [116, 111, 112, 99, 101, 110, 116, 101, 114]) = false := by kernel_rfl
  have x4 : ((⟨#[98, 99, 120]⟩ : ByteArray).toList == [116, 114]) = false := by kernel_rfl
  have x5 : ((⟨#[98, 99, 120]⟩ : ByteArray).toList == [116, 111, 112, 114, 105, 103, 104, 116]) = false := by kernel_rfl
  have x6 : ((⟨#[98, 99, 120]⟩ : ByteArray).toList == [108]) = false := by kernel_rfl
  have x7 : ((⟨#[98, 99, 120]⟩ : ByteArray).toList == [108, 101, 102, 116]) = false := by kernel_rfl
  have x8 : ((⟨#[98, 99, 120]⟩ : ByteArray).toList == [99]) = false := by kernel_rfl
  have x9 : ((⟨#[98, 99, 120]⟩ : ByteArray).toList == [99, 101, 110, 116, 101, 114]) = false := by kernel_rfl
  have x10 : ((⟨#[98, 99, 120]⟩ : ByteArray).toList == [114]) = false := by kernel_rfl
  have x11 : ((⟨#[98, 99, 120]⟩ : ByteArray).toList == [114, 105, 103, 104, 116]) = false := by kernel_rfl
  have x12 : ((⟨#[98, 99, 120]⟩ : ByteArray).toList == [98, 108]) = false := by kernel_rfl
  have x13 : ((⟨#[98, 99, 120]⟩ : ByteArray).toList == [98, 111, 116, 116, 111, 109, 108, 101, 102, 116]) = false := by kernel_rfl
  have x14 : ((⟨#[98, 99, 120]⟩ : ByteArray).toList == [98, 99]) = false := by kernel_rfl
  have x15 : ((⟨#[98, 99, 120]⟩ : ByteArray).toList == [98, 111, 116, 116, 111, 109, 99, 101, 110, 116, 101, 114]) = false := by kernel_rfl
  have x16 : ((⟨#[98, 99, 120]⟩ : ByteArray).toList == [98, 114]) = false := by kernel_rfl
  have x17 : ((⟨#[98, 99, 120]⟩ : ByteArray).toList == [98, 111, 116, 116, 111, 109, 114, 105, 103, 104, 116]) = false := by kernel_rfl
  have hc : (⟨#[66, 67]⟩ ++ ⟨#[120]⟩ : ByteArray) = ⟨#[66, 67, 120]⟩ := by kernel_rfl
  have X : ∀ W, Calls Try.prog 25 #[.string (⟨#[66, 67]⟩ ++ ⟨#[120]⟩)] W fun e w' => e = .returned (.tuple #[.int .i64 0, .bool false]) ∧ Below W.heap.size W w' := fun W => by rw [hc]; exact anchor_bad ⟨#[66, 67, 120]⟩ ⟨#[98, 99, 120]⟩ W (by decide) hx x0 x1 x2 x3 x4 x5 x6 x7 x8 x9 x10 x11 x12 x13 x14 x15 x16 x17
  replace X := hid X
  clear hc hl hx x0 x1 x2 x3 x4 x5 x6 x7 x8 x9 x10 x11 x12 x13 x14 x15 x16 x17
  go_enter Try.func8, Try.ntmps8
  go_wp2_with (first | (go_at_call 10; with_reducible refine (G.out _).mono ?_; rintro e w' ⟨rfl, hb0⟩) | (go_at_call 25; with_reducible refine (O.out _).mono ?_; rintro e w' ⟨rfl, hb1⟩) | (go_at_call 25; with_reducible refine (X.out _).mono ?_; rintro e w' ⟨rfl, hb2⟩) | (go_at_call 24; with_reducible refine (P.out _).mono ?_; rintro e w' ⟨rfl, hb3⟩) | (go_at_call 24; with_reducible refine (F.out _).mono ?_; rintro e w' ⟨rfl, hb4⟩) | (go_at_call 23; go_in))
  go_ret
  exact ⟨rfl, by repeat (first | (with_reducible exact Below.refl _ _) | (with_reducible refine below_step ?_ hb4) | (with_reducible refine below_step ?_ hb3) | (with_reducible refine below_step ?_ hb2) | (with_reducible refine below_step ?_ hb1) | (with_reducible refine below_step ?_ hb0) | (with_reducible apply pw_below_drewN) | (with_reducible apply below_alloc) | (with_reducible apply below_drew1))⟩

theorem anchorOf_710 (w : World) :
    Calls Try.prog 8 #[.int .i64 7, .bool true, .bool false] w fun e w' => e = .returned (.bool true) ∧ Below w.heap.size w w' := by
  have hl : lowered ⟨#[98, 111, 116, 116, 111, 109, 99, 101, 110, 116, 101, 114]⟩ = ⟨#[98, 111, 116, 116, 111, 109, 99, 101, 110, 116, 101, 114]⟩ := by kernel_rfl
  have P := hid (fun W => position_ok_bottomcenter W)
  have F := hid (fun W => position_ok_full W)
  have O : ∀ W, Calls Try.prog 25 #[.string ⟨#[98, 111, 116, 116, 111, 109, 99, 101, 110, 116, 101, 114]⟩] W fun e w' => e = .returned (.tuple #[.int .i64 7, .bool true]) ∧ Below W.heap.size W w' := fun W => anchor_ok_bottomcenter ⟨#[98, 111, 116, 116, 111, 109, 99, 101, 110, 116, 101, 114]⟩ W (by decide) hl
  replace O := hid O
  have hx : lowered ⟨#[98, 111, 116, 116, 111, 109, 99, 101, 110, 116, 101, 114, 120]⟩ = ⟨#[98, 111, 116, 116, 111, 109, 99, 101, 110, 116, 101, 114, 120]⟩ := by kernel_rfl
  have x0 : ((⟨#[98, 111, 116, 116, 111, 109, 99, 101, 110, 116, 101, 114, 120]⟩ : ByteArray).toList == [116, 108]) = false := by kernel_rfl
  have x1 : ((⟨#[98, 111, 116, 116, 111, 109, 99, 101, 110, 116, 101, 114, 120]⟩ : ByteArray).toList == [116, 111, 112, 108, 101, 102, 116]) = false := by kernel_rfl
  have x2 : ((⟨#[98, 111, 116, 116, 111, 109, 99, 101, 110, 116, 101, 114, 120]⟩ : ByteArray).toList == [116, 99]) = false := by kernel_rfl
  have x3 : ((⟨#[98, 111, 116, 116, 111, 109, 99, 101, 110, 116, 101, 114, 120]⟩ : ByteArray).toList == [116, 111, 112, 99, 101, 110, 116, 101, 114]) = false := by kernel_rfl
  have x4 : ((⟨#[98, 111, 116, 116, 111, 109, 99, 101, 110, 116, 101, 114, 120]⟩ : ByteArray).toList == [116, 114]) = false := by kernel_rfl
  have x5 : ((⟨#[98, 111, 116, 116, 111, 109, 99, 101, 110, 116, 101, 114, 120]⟩ : ByteArray).toList == [116, 111, 112, 114, 105, 103, 104, 116]) = false := by kernel_rfl
  have x6 : ((⟨#[98, 111, 116, 116, 111, 109, 99, 101, 110, 116, 101, 114, 120]⟩ : ByteArray).toList == [108]) = false := by kernel_rfl
  have x7 : ((⟨#[98, 111, 116, 116, 111, 109, 99, 101, 110, 116, 101, 114, 120]⟩ : ByteArray).toList == [108, 101, 102, 116]) = false := by kernel_rfl
  have x8 : ((⟨#[98, 111, 116, 116, 111, 109, 99, 101, 110, 116, 101, 114, 120]⟩ : ByteArray).toList == [99]) = false := by kernel_rfl
  have x9 : ((⟨#[98, 111, 116, 116, 111, 109, 99, 101, 110, 116, 101, 114, 120]⟩ : ByteArray).toList == [99, 101, 110, 116, 101, 114]) = false := by kernel_rfl
  have x10 : ((⟨#[98, 111, 116, 116, 111, 109, 99, 101, 110, 116, 101, 114, 120]⟩ : ByteArray).toList == [114]) = false := by kernel_rfl
  have x11 : ((⟨#[98, 111, 116, 116, 111, 109, 99, 101, 110, 116, 101, 114, 120]⟩ : ByteArray).toList == [114, 105, 103, 104, 116]) = false := by kernel_rfl
  have x12 : ((⟨#[98, 111, 116, 116, 111, 109, 99, 101, 110, 116, 101, 114, 120]⟩ : ByteArray).toList == [98, 108]) = false := by kernel_rfl
  have x13 : ((⟨#[98, 111, 116, 116, 111, 109, 99, 101, 110, 116, 101, 114, 120]⟩ : ByteArray).toList == [98, 111, 116, 116, 111, 109, 108, 101, 102, 116]) = false := by kernel_rfl
  have x14 : ((⟨#[98, 111, 116, 116, 111, 109, 99, 101, 110, 116, 101, 114, 120]⟩ : ByteArray).toList == [98, 99]) = false := by kernel_rfl
  have x15 : ((⟨#[98, 111, 116, 116, 111, 109, 99, 101, 110, 116, 101, 114, 120]⟩ : ByteArray).toList == [98, 111, 116, 116, 111, 109, 99, 101, 110, 116, 101, 114]) = false := by kernel_rfl
  have x16 : ((⟨#[98, 111, 116, 116, 111, 109, 99, 101, 110, 116, 101, 114, 120]⟩ : ByteArray).toList == [98, 114]) = false := by kernel_rfl
  have x17 : ((⟨#[98, 111, 116, 116, 111, 109, 99, 101, 110, 116, 101, 114, 120]⟩ : ByteArray).toList == [98, 111, 116, 116, 111, 109, 114, 105, 103, 104, 116]) = false := by kernel_rfl
  have hc : (⟨#[98, 111, 116, 116, 111, 109, 99, 101, 110, 116, 101, 114]⟩ ++ ⟨#[120]⟩ : ByteArray) = ⟨#[98, 111, 116, 116, 111, 109, 99, 101, 110, 116, 101, 114, 120]⟩ := by kernel_rfl
  have X : ∀ W, Calls Try.prog 25 #[.string (⟨#[98, 111, 116, 116, 111, 109, 99, 101, 110, 116, 101, 114]⟩ ++ ⟨#[120]⟩)] W fun e w' => e = .returned (.tuple #[.int .i64 0, .bool false]) ∧ Below W.heap.size W w' := fun W => by rw [hc]; exact anchor_bad ⟨#[98, 111, 116, 116, 111, 109, 99, 101, 110, 116, 101, 114, 120]⟩ ⟨#[98, 111, 116, 116, 111, 109, 99, 101, 110, 116, 101, 114, 120]⟩ W (by decide) hx x0 x1 x2 x3 x4 x5 x6 x7 x8 x9 x10 x11 x12 x13 x14 x15 x16 x17
  replace X := hid X
  clear hc hl hx x0 x1 x2 x3 x4 x5 x6 x7 x8 x9 x10 x11 x12 x13 x14 x15 x16 x17
  go_enter Try.func8, Try.ntmps8
  go_wp2_with (first | (go_at_call 25; with_reducible refine (O.out _).mono ?_; rintro e w' ⟨rfl, hb1⟩) | (go_at_call 25; with_reducible refine (X.out _).mono ?_; rintro e w' ⟨rfl, hb2⟩) | (go_at_call 24; with_reducible refine (P.out _).mono ?_; rintro e w' ⟨rfl, hb3⟩) | (go_at_call 24; with_reducible refine (F.out _).mono ?_; rintro e w' ⟨rfl, hb4⟩) | (go_at_call 23; go_in))
  go_ret
  exact ⟨rfl, by repeat (first | (with_reducible exact Below.refl _ _) | (with_reducible refine below_step ?_ hb4) | (with_reducible refine below_step ?_ hb3) | (with_reducible refine below_step ?_ hb2) | (with_reducible refine below_step ?_ hb1) | (with_reducible refine below_step ?_ hb0) | (with_reducible apply pw_below_drewN) | (with_reducible apply below_alloc) | (with_reducible apply below_drew1))⟩

theorem anchorOf_711 (w : World) :
    Calls Try.prog 8 #[.int .i64 7, .bool true, .bool true] w fun e w' => e = .returned (.bool true) ∧ Below w.heap.size w w' := by
  have G : ∀ W, Calls Try.prog 10 #[.string ⟨#[98, 111, 116, 116, 111, 109, 99, 101, 110, 116, 101, 114]⟩] W fun e w' => e = .returned (.string ⟨#[66, 79, 84, 84, 79, 77, 67, 69, 78, 84, 69, 82]⟩) ∧ Below W.heap.size W w' := fun W => by have := upper_calls ⟨#[98, 111, 116, 116, 111, 109, 99, 101, 110, 116, 101, 114]⟩ W (by decide); rw [show (⟨((⟨#[98, 111, 116, 116, 111, 109, 99, 101, 110, 116, 101, 114]⟩ : ByteArray).data.toList.map great).toArray⟩ : ByteArray) = ⟨#[66, 79, 84, 84, 79, 77, 67, 69, 78, 84, 69, 82]⟩ by kernel_rfl] at this; exact this
  replace G := hid G
  have hl : lowered ⟨#[66, 79, 84, 84, 79, 77, 67, 69, 78, 84, 69, 82]⟩ = ⟨#[98, 111, 116, 116, 111, 109, 99, 101, 110, 116, 101, 114]⟩ := by kernel_rfl
  have P := hid (fun W => position_ok_bottomcenter W)
  have F := hid (fun W => position_ok_full W)
  have O : ∀ W, Calls Try.prog 25 #[.string ⟨#[66, 79, 84, 84, 79, 77, 67, 69, 78, 84, 69, 82]⟩] W fun e w' => e = .returned (.tuple #[.int .i64 7, .bool true]) ∧ Below W.heap.size W w' := fun W => anchor_ok_bottomcenter ⟨#[66, 79, 84, 84, 79, 77, 67, 69, 78, 84, 69, 82]⟩ W (by decide) hl
  replace O := hid O
  have hx : lowered ⟨#[66, 79, 84, 84, 79, 77, 67, 69, 78, 84, 69, 82, 120]⟩ = ⟨#[98, 111, 116, 116, 111, 109, 99, 101, 110, 116, 101, 114, 120]⟩ := by kernel_rfl
  have x0 : ((⟨#[98, 111, 116, 116, 111, 109, 99, 101, 110, 116, 101, 114, 120]⟩ : ByteArray).toList == [116, 108]) = false := by kernel_rfl
  have x1 : ((⟨#[98, 111, 116, 116, 111, 109, 99, 101, 110, 116, 101, 114, 120]⟩ : ByteArray).toList == [116, 111, 112, 108, 101, 102, 116]) = false := by kernel_rfl
  have x2 : ((⟨#[98, 111, 116, 116, 111, 109, 99, 101, 110, 116, 101, 114, 120]⟩ : ByteArray).toList == [116, 99]) = false := by kernel_rfl
  have x3 : ((⟨#[98, 111, 116, 116, 111, 109, 99, 101, 110, 116, 101, 114, 120]⟩ : ByteArray).toList == [116, 111, 112, 99, 101, 110, 116, 101, 114]) = false := by kernel_rfl
  have x4 : ((⟨#[98, 111, 116, 116, 111, 109, 99, 101, 110, 116, 101, 114, 120]⟩ : ByteArray).toList == [116, 114]) = false := by kernel_rfl
  have x5 : ((⟨#[98, 111, 116, 116, 111, 109, 99, 101, 110, 116, 101, 114, 120]⟩ : ByteArray).toList == [116, 111, 112, 114, 105, 103, 104, 116]) = false := by kernel_rfl
  have x6 : ((⟨#[98, 111, 116, 116, 111, 109, 99, 101, 110, 116, 101, 114, 120]⟩ : ByteArray).toList == [108]) = false := by kernel_rfl
  have x7 : ((⟨#[98, 111, 116, 116, 111, 109, 99, 101, 110, 116, 101, 114, 120]⟩ : ByteArray).toList == [108, 101, 102, 116]) = false := by kernel_rfl
  have x8 : ((⟨#[98, 111, 116, 116, 111, 109, 99, 101, 110, 116, 101, 114, 120]⟩ : ByteArray).toList == [99]) = false := by kernel_rfl
  have x9 : ((⟨#[98, 111, 116, 116, 111, 109, 99, 101, 110, 116, 101, 114, 120]⟩ : ByteArray).toList == [99, 101, 110, 116, 101, 114]) = false := by kernel_rfl
  have x10 : ((⟨#[98, 111, 116, 116, 111, 109, 99, 101, 110, 116, 101, 114, 120]⟩ : ByteArray).toList == [114]) = false := by kernel_rfl
  have x11 : ((⟨#[98, 111, 116, 116, 111, 109, 99, 101, 110, 116, 101, 114, 120]⟩ : ByteArray).toList == [114, 105, 103, 104, 116]) = false := by kernel_rfl
  have x12 : ((⟨#[98, 111, 116, 116, 111, 109, 99, 101, 110, 116, 101, 114, 120]⟩ : ByteArray).toList == [98, 108]) = false := by kernel_rfl
  have x13 : ((⟨#[98, 111, 116, 116, 111, 109, 99, 101, 110, 116, 101, 114, 120]⟩ : ByteArray).toList == [98, 111, 116, 116, 111, 109, 108, 101, 102, 116]) = false := by kernel_rfl
  have x14 : ((⟨#[98, 111, 116, 116, 111, 109, 99, 101, 110, 116, 101, 114, 120]⟩ : ByteArray).toList == [98, 99]) = false := by kernel_rfl
  have x15 : ((⟨#[98, 111, 116, 116, 111, 109, 99, 101, 110, 116, 101, 114, 120]⟩ : ByteArray).toList == [98, 111, 116, 116, 111, 109, 99, 101, 110, 116, 101, 114]) = false := by kernel_rfl
  have x16 : ((⟨#[98, 111, 116, 116, 111, 109, 99, 101, 110, 116, 101, 114, 120]⟩ : ByteArray).toList == [98, 114]) = false := by kernel_rfl
  have x17 : ((⟨#[98, 111, 116, 116, 111, 109, 99, 101, 110, 116, 101, 114, 120]⟩ : ByteArray).toList == [98, 111, 116, 116, 111, 109, 114, 105, 103, 104, 116]) = false := by kernel_rfl
  have hc : (⟨#[66, 79, 84, 84, 79, 77, 67, 69, 78, 84, 69, 82]⟩ ++ ⟨#[120]⟩ : ByteArray) = ⟨#[66, 79, 84, 84, 79, 77, 67, 69, 78, 84, 69, 82, 120]⟩ := by kernel_rfl
  have X : ∀ W, Calls Try.prog 25 #[.string (⟨#[66, 79, 84, 84, 79, 77, 67, 69, 78, 84, 69, 82]⟩ ++ ⟨#[120]⟩)] W fun e w' => e = .returned (.tuple #[.int .i64 0, .bool false]) ∧ Below W.heap.size W w' := fun W => by rw [hc]; exact anchor_bad ⟨#[66, 79, 84, 84, 79, 77, 67, 69, 78, 84, 69, 82, 120]⟩ ⟨#[98, 111, 116, 116, 111, 109, 99, 101, 110, 116, 101, 114, 120]⟩ W (by decide) hx x0 x1 x2 x3 x4 x5 x6 x7 x8 x9 x10 x11 x12 x13 x14 x15 x16 x17
  replace X := hid X
  clear hc hl hx x0 x1 x2 x3 x4 x5 x6 x7 x8 x9 x10 x11 x12 x13 x14 x15 x16 x17
  go_enter Try.func8, Try.ntmps8
  go_wp2_with (first | (go_at_call 10; with_reducible refine (G.out _).mono ?_; rintro e w' ⟨rfl, hb0⟩) | (go_at_call 25; with_reducible refine (O.out _).mono ?_; rintro e w' ⟨rfl, hb1⟩) | (go_at_call 25; with_reducible refine (X.out _).mono ?_; rintro e w' ⟨rfl, hb2⟩) | (go_at_call 24; with_reducible refine (P.out _).mono ?_; rintro e w' ⟨rfl, hb3⟩) | (go_at_call 24; with_reducible refine (F.out _).mono ?_; rintro e w' ⟨rfl, hb4⟩) | (go_at_call 23; go_in))
  go_ret
  exact ⟨rfl, by repeat (first | (with_reducible exact Below.refl _ _) | (with_reducible refine below_step ?_ hb4) | (with_reducible refine below_step ?_ hb3) | (with_reducible refine below_step ?_ hb2) | (with_reducible refine below_step ?_ hb1) | (with_reducible refine below_step ?_ hb0) | (with_reducible apply pw_below_drewN) | (with_reducible apply below_alloc) | (with_reducible apply below_drew1))⟩

theorem anchorOf_800 (w : World) :
    Calls Try.prog 8 #[.int .i64 8, .bool false, .bool false] w fun e w' => e = .returned (.bool true) ∧ Below w.heap.size w w' := by
  have hl : lowered ⟨#[98, 114]⟩ = ⟨#[98, 114]⟩ := by kernel_rfl
  have P := hid (fun W => position_ok_br W)
  have F := hid (fun W => position_ok_full W)
  have O : ∀ W, Calls Try.prog 25 #[.string ⟨#[98, 114]⟩] W fun e w' => e = .returned (.tuple #[.int .i64 8, .bool true]) ∧ Below W.heap.size W w' := fun W => anchor_ok_br ⟨#[98, 114]⟩ W (by decide) hl
  replace O := hid O
  have hx : lowered ⟨#[98, 114, 120]⟩ = ⟨#[98, 114, 120]⟩ := by kernel_rfl
  have x0 : ((⟨#[98, 114, 120]⟩ : ByteArray).toList == [116, 108]) = false := by kernel_rfl
  have x1 : ((⟨#[98, 114, 120]⟩ : ByteArray).toList == [116, 111, 112, 108, 101, 102, 116]) = false := by kernel_rfl
  have x2 : ((⟨#[98, 114, 120]⟩ : ByteArray).toList == [116, 99]) = false := by kernel_rfl
  have x3 : ((⟨#[98, 114, 120]⟩ : ByteArray).toList == [116, 111, 112, 99, 101, 110, 116, 101, 114]) = false := by kernel_rfl
  have x4 : ((⟨#[98, 114, 120]⟩ : ByteArray).toList == [116, 114]) = false := by kernel_rfl
  have x5 : ((⟨#[98, 114, 120]⟩ : ByteArray).toList == [116, 111, 112, 114, 105, 103, 104, 116]) = false := by kernel_rfl
  have x6 : ((⟨#[98, 114, 120]⟩ : ByteArray).toList == [108]) = false := by kernel_rfl
  have x7 : ((⟨#[98, 114, 120]⟩ : ByteArray).toList == [108, 101, 102, 116]) = false := by kernel_rfl
  have x8 : ((⟨#[98, 114, 120]⟩ : ByteArray).toList == [99]) = false := by kernel_rfl
  have x9 : ((⟨#[98, 114, 120]⟩ : ByteArray).toList == [99, 101, 110, 116, 101, 114]) = false := by kernel_rfl
  have x10 : ((⟨#[98, 114, 120]⟩ : ByteArray).toList == [114]) = false := by kernel_rfl
  have x11 : ((⟨#[98, 114, 120]⟩ : ByteArray).toList == [114, 105, 103, 104, 116]) = false := by kernel_rfl
  have x12 : ((⟨#[98, 114, 120]⟩ : ByteArray).toList == [98, 108]) = false := by kernel_rfl
  have x13 : ((⟨#[98, 114, 120]⟩ : ByteArray).toList == [98, 111, 116, 116, 111, 109, 108, 101, 102, 116]) = false := by kernel_rfl
  have x14 : ((⟨#[98, 114, 120]⟩ : ByteArray).toList == [98, 99]) = false := by kernel_rfl
  have x15 : ((⟨#[98, 114, 120]⟩ : ByteArray).toList == [98, 111, 116, 116, 111, 109, 99, 101, 110, 116, 101, 114]) = false := by kernel_rfl
  have x16 : ((⟨#[98, 114, 120]⟩ : ByteArray).toList == [98, 114]) = false := by kernel_rfl
  have x17 : ((⟨#[98, 114, 120]⟩ : ByteArray).toList == [98, 111, 116, 116, 111, 109, 114, 105, 103, 104, 116]) = false := by kernel_rfl
  have hc : (⟨#[98, 114]⟩ ++ ⟨#[120]⟩ : ByteArray) = ⟨#[98, 114, 120]⟩ := by kernel_rfl
  have X : ∀ W, Calls Try.prog 25 #[.string (⟨#[98, 114]⟩ ++ ⟨#[120]⟩)] W fun e w' => e = .returned (.tuple #[.int .i64 0, .bool false]) ∧ Below W.heap.size W w' := fun W => by rw [hc]; exact anchor_bad ⟨#[98, 114, 120]⟩ ⟨#[98, 114, 120]⟩ W (by decide) hx x0 x1 x2 x3 x4 x5 x6 x7 x8 x9 x10 x11 x12 x13 x14 x15 x16 x17
  replace X := hid X
  clear hc hl hx x0 x1 x2 x3 x4 x5 x6 x7 x8 x9 x10 x11 x12 x13 x14 x15 x16 x17
  go_enter Try.func8, Try.ntmps8
  go_wp2_with (first | (go_at_call 25; with_reducible refine (O.out _).mono ?_; rintro e w' ⟨rfl, hb1⟩) | (go_at_call 25; with_reducible refine (X.out _).mono ?_; rintro e w' ⟨rfl, hb2⟩) | (go_at_call 24; with_reducible refine (P.out _).mono ?_; rintro e w' ⟨rfl, hb3⟩) | (go_at_call 24; with_reducible refine (F.out _).mono ?_; rintro e w' ⟨rfl, hb4⟩) | (go_at_call 23; go_in))
  go_ret
  exact ⟨rfl, by repeat (first | (with_reducible exact Below.refl _ _) | (with_reducible refine below_step ?_ hb4) | (with_reducible refine below_step ?_ hb3) | (with_reducible refine below_step ?_ hb2) | (with_reducible refine below_step ?_ hb1) | (with_reducible refine below_step ?_ hb0) | (with_reducible apply pw_below_drewN) | (with_reducible apply below_alloc) | (with_reducible apply below_drew1))⟩

theorem anchorOf_801 (w : World) :
    Calls Try.prog 8 #[.int .i64 8, .bool false, .bool true] w fun e w' => e = .returned (.bool true) ∧ Below w.heap.size w w' := by
  have G : ∀ W, Calls Try.prog 10 #[.string ⟨#[98, 114]⟩] W fun e w' => e = .returned (.string ⟨#[66, 82]⟩) ∧ Below W.heap.size W w' := fun W => by have := upper_calls ⟨#[98, 114]⟩ W (by decide); rw [show (⟨((⟨#[98, 114]⟩ : ByteArray).data.toList.map great).toArray⟩ : ByteArray) = ⟨#[66, 82]⟩ by kernel_rfl] at this; exact this
  replace G := hid G
  have hl : lowered ⟨#[66, 82]⟩ = ⟨#[98, 114]⟩ := by kernel_rfl
  have P := hid (fun W => position_ok_br W)
  have F := hid (fun W => position_ok_full W)
  have O : ∀ W, Calls Try.prog 25 #[.string ⟨#[66, 82]⟩] W fun e w' => e = .returned (.tuple #[.int .i64 8, .bool true]) ∧ Below W.heap.size W w' := fun W => anchor_ok_br ⟨#[66, 82]⟩ W (by decide) hl
  replace O := hid O
  have hx : lowered ⟨#[66, 82, 120]⟩ = ⟨#[98, 114, 120]⟩ := by kernel_rfl
  have x0 : ((⟨#[98, 114, 120]⟩ : ByteArray).toList == [116, 108]) = false := by kernel_rfl
  have x1 : ((⟨#[98, 114, 120]⟩ : ByteArray).toList == [116, 111, 112, 108, 101, 102, 116]) = false := by kernel_rfl
  have x2 : ((⟨#[98, 114, 120]⟩ : ByteArray).toList == [116, 99]) = false := by kernel_rfl
  have x3 : ((⟨#[98, 114, 120]⟩ : ByteArray).toList == [116, 111, 112, 99, 101, 110, 116, 101, 114]) = false := by kernel_rfl
  have x4 : ((⟨#[98, 114, 120]⟩ : ByteArray).toList == [116, 114]) = false := by kernel_rfl
  have x5 : ((⟨#[98, 114, 120]⟩ : ByteArray).toList == [116, 111, 112, 114, 105, 103, 104, 116]) = false := by kernel_rfl
  have x6 : ((⟨#[98, 114, 120]⟩ : ByteArray).toList == [108]) = false := by kernel_rfl
  have x7 : ((⟨#[98, 114, 120]⟩ : ByteArray).toList == [108, 101, 102, 116]) = false := by kernel_rfl
  have x8 : ((⟨#[98, 114, 120]⟩ : ByteArray).toList == [99]) = false := by kernel_rfl
  have x9 : ((⟨#[98, 114, 120]⟩ : ByteArray).toList == [99, 101, 110, 116, 101, 114]) = false := by kernel_rfl
  have x10 : ((⟨#[98, 114, 120]⟩ : ByteArray).toList == [114]) = false := by kernel_rfl
  have x11 : ((⟨#[98, 114, 120]⟩ : ByteArray).toList == [114, 105, 103, 104, 116]) = false := by kernel_rfl
  have x12 : ((⟨#[98, 114, 120]⟩ : ByteArray).toList == [98, 108]) = false := by kernel_rfl
  have x13 : ((⟨#[98, 114, 120]⟩ : ByteArray).toList == [98, 111, 116, 116, 111, 109, 108, 101, 102, 116]) = false := by kernel_rfl
  have x14 : ((⟨#[98, 114, 120]⟩ : ByteArray).toList == [98, 99]) = false := by kernel_rfl
  have x15 : ((⟨#[98, 114, 120]⟩ : ByteArray).toList == [98, 111, 116, 116, 111, 109, 99, 101, 110, 116, 101, 114]) = false := by kernel_rfl
  have x16 : ((⟨#[98, 114, 120]⟩ : ByteArray).toList == [98, 114]) = false := by kernel_rfl
  have x17 : ((⟨#[98, 114, 120]⟩ : ByteArray).toList == [98, 111, 116, 116, 111, 109, 114, 105, 103, 104, 116]) = false := by kernel_rfl
  have hc : (⟨#[66, 82]⟩ ++ ⟨#[120]⟩ : ByteArray) = ⟨#[66, 82, 120]⟩ := by kernel_rfl
  have X : ∀ W, Calls Try.prog 25 #[.string (⟨#[66, 82]⟩ ++ ⟨#[120]⟩)] W fun e w' => e = .returned (.tuple #[.int .i64 0, .bool false]) ∧ Below W.heap.size W w' := fun W => by rw [hc]; exact anchor_bad ⟨#[66, 82, 120]⟩ ⟨#[98, 114, 120]⟩ W (by decide) hx x0 x1 x2 x3 x4 x5 x6 x7 x8 x9 x10 x11 x12 x13 x14 x15 x16 x17
  replace X := hid X
  clear hc hl hx x0 x1 x2 x3 x4 x5 x6 x7 x8 x9 x10 x11 x12 x13 x14 x15 x16 x17
  go_enter Try.func8, Try.ntmps8
  go_wp2_with (first | (go_at_call 10; with_reducible refine (G.out _).mono ?_; rintro e w' ⟨rfl, hb0⟩) | (go_at_call 25; with_reducible refine (O.out _).mono ?_; rintro e w' ⟨rfl, hb1⟩) | (go_at_call 25; with_reducible refine (X.out _).mono ?_; rintro e w' ⟨rfl, hb2⟩) | (go_at_call 24; with_reducible refine (P.out _).mono ?_; rintro e w' ⟨rfl, hb3⟩) | (go_at_call 24; with_reducible refine (F.out _).mono ?_; rintro e w' ⟨rfl, hb4⟩) | (go_at_call 23; go_in))
  go_ret
  exact ⟨rfl, by repeat (first | (with_reducible exact Below.refl _ _) | (with_reducible refine below_step ?_ hb4) | (with_reducible refine below_step ?_ hb3) | (with_reducible refine below_step ?_ hb2) | (with_reducible refine below_step ?_ hb1) | (with_reducible refine below_step ?_ hb0) | (with_reducible apply pw_below_drewN) | (with_reducible apply below_alloc) | (with_reducible apply below_drew1))⟩

theorem anchorOf_810 (w : World) :
    Calls Try.prog 8 #[.int .i64 8, .bool true, .bool false] w fun e w' => e = .returned (.bool true) ∧ Below w.heap.size w w' := by
  have hl : lowered ⟨#[98, 111, 116, 116, 111, 109, 114, 105, 103, 104, 116]⟩ = ⟨#[98, 111, 116, 116, 111, 109, 114, 105, 103, 104, 116]⟩ := by kernel_rfl
  have P := hid (fun W => position_ok_bottomright W)
  have F := hid (fun W => position_ok_full W)
  have O : ∀ W, Calls Try.prog 25 #[.string ⟨#[98, 111, 116, 116, 111, 109, 114, 105, 103, 104, 116]⟩] W fun e w' => e = .returned (.tuple #[.int .i64 8, .bool true]) ∧ Below W.heap.size W w' := fun W => anchor_ok_bottomright ⟨#[98, 111, 116, 116, 111, 109, 114, 105, 103, 104, 116]⟩ W (by decide) hl
  replace O := hid O
  have hx : lowered ⟨#[98, 111, 116, 116, 111, 109, 114, 105, 103, 104, 116, 120]⟩ = ⟨#[98, 111, 116, 116, 111, 109, 114, 105, 103, 104, 116, 120]⟩ := by kernel_rfl
  have x0 : ((⟨#[98, 111, 116, 116, 111, 109, 114, 105, 103, 104, 116, 120]⟩ : ByteArray).toList == [116, 108]) = false := by kernel_rfl
  have x1 : ((⟨#[98, 111, 116, 116, 111, 109, 114, 105, 103, 104, 116, 120]⟩ : ByteArray).toList == [116, 111, 112, 108, 101, 102, 116]) = false := by kernel_rfl
  have x2 : ((⟨#[98, 111, 116, 116, 111, 109, 114, 105, 103, 104, 116, 120]⟩ : ByteArray).toList == [116, 99]) = false := by kernel_rfl
  have x3 : ((⟨#[98, 111, 116, 116, 111, 109, 114, 105, 103, 104, 116, 120]⟩ : ByteArray).toList == [116, 111, 112, 99, 101, 110, 116, 101, 114]) = false := by kernel_rfl
  have x4 : ((⟨#[98, 111, 116, 116, 111, 109, 114, 105, 103, 104, 116, 120]⟩ : ByteArray).toList == [116, 114]) = false := by kernel_rfl
  have x5 : ((⟨#[98, 111, 116, 116, 111, 109, 114, 105, 103, 104, 116, 120]⟩ : ByteArray).toList == [116, 111, 112, 114, 105, 103, 104, 116]) = false := by kernel_rfl
  have x6 : ((⟨#[98, 111, 116, 116, 111, 109, 114, 105, 103, 104, 116, 120]⟩ : ByteArray).toList == [108]) = false := by kernel_rfl
  have x7 : ((⟨#[98, 111, 116, 116, 111, 109, 114, 105, 103, 104, 116, 120]⟩ : ByteArray).toList == [108, 101, 102, 116]) = false := by kernel_rfl
  have x8 : ((⟨#[98, 111, 116, 116, 111, 109, 114, 105, 103, 104, 116, 120]⟩ : ByteArray).toList == [99]) = false := by kernel_rfl
  have x9 : ((⟨#[98, 111, 116, 116, 111, 109, 114, 105, 103, 104, 116, 120]⟩ : ByteArray).toList == [99, 101, 110, 116, 101, 114]) = false := by kernel_rfl
  have x10 : ((⟨#[98, 111, 116, 116, 111, 109, 114, 105, 103, 104, 116, 120]⟩ : ByteArray).toList == [114]) = false := by kernel_rfl
  have x11 : ((⟨#[98, 111, 116, 116, 111, 109, 114, 105, 103, 104, 116, 120]⟩ : ByteArray).toList == [114, 105, 103, 104, 116]) = false := by kernel_rfl
  have x12 : ((⟨#[98, 111, 116, 116, 111, 109, 114, 105, 103, 104, 116, 120]⟩ : ByteArray).toList == [98, 108]) = false := by kernel_rfl
  have x13 : ((⟨#[98, 111, 116, 116, 111, 109, 114, 105, 103, 104, 116, 120]⟩ : ByteArray).toList == [98, 111, 116, 116, 111, 109, 108, 101, 102, 116]) = false := by kernel_rfl
  have x14 : ((⟨#[98, 111, 116, 116, 111, 109, 114, 105, 103, 104, 116, 120]⟩ : ByteArray).toList == [98, 99]) = false := by kernel_rfl
  have x15 : ((⟨#[98, 111, 116, 116, 111, 109, 114, 105, 103, 104, 116, 120]⟩ : ByteArray).toList == [98, 111, 116, 116, 111, 109, 99, 101, 110, 116, 101, 114]) = false := by kernel_rfl
  have x16 : ((⟨#[98, 111, 116, 116, 111, 109, 114, 105, 103, 104, 116, 120]⟩ : ByteArray).toList == [98, 114]) = false := by kernel_rfl
  have x17 : ((⟨#[98, 111, 116, 116, 111, 109, 114, 105, 103, 104, 116, 120]⟩ : ByteArray).toList == [98, 111, 116, 116, 111, 109, 114, 105, 103, 104, 116]) = false := by kernel_rfl
  have hc : (⟨#[98, 111, 116, 116, 111, 109, 114, 105, 103, 104, 116]⟩ ++ ⟨#[120]⟩ : ByteArray) = ⟨#[98, 111, 116, 116, 111, 109, 114, 105, 103, 104, 116, 120]⟩ := by kernel_rfl
  have X : ∀ W, Calls Try.prog 25 #[.string (⟨#[98, 111, 116, 116, 111, 109, 114, 105, 103, 104, 116]⟩ ++ ⟨#[120]⟩)] W fun e w' => e = .returned (.tuple #[.int .i64 0, .bool false]) ∧ Below W.heap.size W w' := fun W => by rw [hc]; exact anchor_bad ⟨#[98, 111, 116, 116, 111, 109, 114, 105, 103, 104, 116, 120]⟩ ⟨#[98, 111, 116, 116, 111, 109, 114, 105, 103, 104, 116, 120]⟩ W (by decide) hx x0 x1 x2 x3 x4 x5 x6 x7 x8 x9 x10 x11 x12 x13 x14 x15 x16 x17
  replace X := hid X
  clear hc hl hx x0 x1 x2 x3 x4 x5 x6 x7 x8 x9 x10 x11 x12 x13 x14 x15 x16 x17
  go_enter Try.func8, Try.ntmps8
  go_wp2_with (first | (go_at_call 25; with_reducible refine (O.out _).mono ?_; rintro e w' ⟨rfl, hb1⟩) | (go_at_call 25; with_reducible refine (X.out _).mono ?_; rintro e w' ⟨rfl, hb2⟩) | (go_at_call 24; with_reducible refine (P.out _).mono ?_; rintro e w' ⟨rfl, hb3⟩) | (go_at_call 24; with_reducible refine (F.out _).mono ?_; rintro e w' ⟨rfl, hb4⟩) | (go_at_call 23; go_in))
  go_ret
  exact ⟨rfl, by repeat (first | (with_reducible exact Below.refl _ _) | (with_reducible refine below_step ?_ hb4) | (with_reducible refine below_step ?_ hb3) | (with_reducible refine below_step ?_ hb2) | (with_reducible refine below_step ?_ hb1) | (with_reducible refine below_step ?_ hb0) | (with_reducible apply pw_below_drewN) | (with_reducible apply below_alloc) | (with_reducible apply below_drew1))⟩

theorem anchorOf_811 (w : World) :
    Calls Try.prog 8 #[.int .i64 8, .bool true, .bool true] w fun e w' => e = .returned (.bool true) ∧ Below w.heap.size w w' := by
  have G : ∀ W, Calls Try.prog 10 #[.string ⟨#[98, 111, 116, 116, 111, 109, 114, 105, 103, 104, 116]⟩] W fun e w' => e = .returned (.string ⟨#[66, 79, 84, 84, 79, 77, 82, 73, 71, 72, 84]⟩) ∧ Below W.heap.size W w' := fun W => by have := upper_calls ⟨#[98, 111, 116, 116, 111, 109, 114, 105, 103, 104, 116]⟩ W (by decide); rw [show (⟨((⟨#[98, 111, 116, 116, 111, 109, 114, 105, 103, 104, 116]⟩ : ByteArray).data.toList.map great).toArray⟩ : ByteArray) = ⟨#[66, 79, 84, 84, 79, 77, 82, 73, 71, 72, 84]⟩ by kernel_rfl] at this; exact this
  replace G := hid G
  have hl : lowered ⟨#[66, 79, 84, 84, 79, 77, 82, 73, 71, 72, 84]⟩ = ⟨#[98, 111, 116, 116, 111, 109, 114, 105, 103, 104, 116]⟩ := by kernel_rfl
  have P := hid (fun W => position_ok_bottomright W)
  have F := hid (fun W => position_ok_full W)
  have O : ∀ W, Calls Try.prog 25 #[.string ⟨#[66, 79, 84, 84, 79, 77, 82, 73, 71, 72, 84]⟩] W fun e w' => e = .returned (.tuple #[.int .i64 8, .bool true]) ∧ Below W.heap.size W w' := fun W => anchor_ok_bottomright ⟨#[66, 79, 84, 84, 79, 77, 82, 73, 71, 72, 84]⟩ W (by decide) hl
  replace O := hid O
  have hx : lowered ⟨#[66, 79, 84, 84, 79, 77, 82, 73, 71, 72, 84, 120]⟩ = ⟨#[98, 111, 116, 116, 111, 109, 114, 105, 103, 104, 116, 120]⟩ := by kernel_rfl
  have x0 : ((⟨#[98, 111, 116, 116, 111, 109, 114, 105, 103, 104, 116, 120]⟩ : ByteArray).toList == [116, 108]) = false := by kernel_rfl
  have x1 : ((⟨#[98, 111, 116, 116, 111, 109, 114, 105, 103, 104, 116, 120]⟩ : ByteArray).toList == [116, 111, 112, 108, 101, 102, 116]) = false := by kernel_rfl
  have x2 : ((⟨#[98, 111, 116, 116, 111, 109, 114, 105, 103, 104, 116, 120]⟩ : ByteArray).toList == [116, 99]) = false := by kernel_rfl
  have x3 : ((⟨#[98, 111, 116, 116, 111, 109, 114, 105, 103, 104, 116, 120]⟩ : ByteArray).toList == [116, 111, 112, 99, 101, 110, 116, 101, 114]) = false := by kernel_rfl
  have x4 : ((⟨#[98, 111, 116, 116, 111, 109, 114, 105, 103, 104, 116, 120]⟩ : ByteArray).toList == [116, 114]) = false := by kernel_rfl
  have x5 : ((⟨#[98, 111, 116, 116, 111, 109, 114, 105, 103, 104, 116, 120]⟩ : ByteArray).toList == [116, 111, 112, 114, 105, 103, 104, 116]) = false := by kernel_rfl
  have x6 : ((⟨#[98, 111, 116, 116, 111, 109, 114, 105, 103, 104, 116, 120]⟩ : ByteArray).toList == [108]) = false := by kernel_rfl
  have x7 : ((⟨#[98, 111, 116, 116, 111, 109, 114, 105, 103, 104, 116, 120]⟩ : ByteArray).toList == [108, 101, 102, 116]) = false := by kernel_rfl
  have x8 : ((⟨#[98, 111, 116, 116, 111, 109, 114, 105, 103, 104, 116, 120]⟩ : ByteArray).toList == [99]) = false := by kernel_rfl
  have x9 : ((⟨#[98, 111, 116, 116, 111, 109, 114, 105, 103, 104, 116, 120]⟩ : ByteArray).toList == [99, 101, 110, 116, 101, 114]) = false := by kernel_rfl
  have x10 : ((⟨#[98, 111, 116, 116, 111, 109, 114, 105, 103, 104, 116, 120]⟩ : ByteArray).toList == [114]) = false := by kernel_rfl
  have x11 : ((⟨#[98, 111, 116, 116, 111, 109, 114, 105, 103, 104, 116, 120]⟩ : ByteArray).toList == [114, 105, 103, 104, 116]) = false := by kernel_rfl
  have x12 : ((⟨#[98, 111, 116, 116, 111, 109, 114, 105, 103, 104, 116, 120]⟩ : ByteArray).toList == [98, 108]) = false := by kernel_rfl
  have x13 : ((⟨#[98, 111, 116, 116, 111, 109, 114, 105, 103, 104, 116, 120]⟩ : ByteArray).toList == [98, 111, 116, 116, 111, 109, 108, 101, 102, 116]) = false := by kernel_rfl
  have x14 : ((⟨#[98, 111, 116, 116, 111, 109, 114, 105, 103, 104, 116, 120]⟩ : ByteArray).toList == [98, 99]) = false := by kernel_rfl
  have x15 : ((⟨#[98, 111, 116, 116, 111, 109, 114, 105, 103, 104, 116, 120]⟩ : ByteArray).toList == [98, 111, 116, 116, 111, 109, 99, 101, 110, 116, 101, 114]) = false := by kernel_rfl
  have x16 : ((⟨#[98, 111, 116, 116, 111, 109, 114, 105, 103, 104, 116, 120]⟩ : ByteArray).toList == [98, 114]) = false := by kernel_rfl
  have x17 : ((⟨#[98, 111, 116, 116, 111, 109, 114, 105, 103, 104, 116, 120]⟩ : ByteArray).toList == [98, 111, 116, 116, 111, 109, 114, 105, 103, 104, 116]) = false := by kernel_rfl
  have hc : (⟨#[66, 79, 84, 84, 79, 77, 82, 73, 71, 72, 84]⟩ ++ ⟨#[120]⟩ : ByteArray) = ⟨#[66, 79, 84, 84, 79, 77, 82, 73, 71, 72, 84, 120]⟩ := by kernel_rfl
  have X : ∀ W, Calls Try.prog 25 #[.string (⟨#[66, 79, 84, 84, 79, 77, 82, 73, 71, 72, 84]⟩ ++ ⟨#[120]⟩)] W fun e w' => e = .returned (.tuple #[.int .i64 0, .bool false]) ∧ Below W.heap.size W w' := fun W => by rw [hc]; exact anchor_bad ⟨#[66, 79, 84, 84, 79, 77, 82, 73, 71, 72, 84, 120]⟩ ⟨#[98, 111, 116, 116, 111, 109, 114, 105, 103, 104, 116, 120]⟩ W (by decide) hx x0 x1 x2 x3 x4 x5 x6 x7 x8 x9 x10 x11 x12 x13 x14 x15 x16 x17
  replace X := hid X
  clear hc hl hx x0 x1 x2 x3 x4 x5 x6 x7 x8 x9 x10 x11 x12 x13 x14 x15 x16 x17
  go_enter Try.func8, Try.ntmps8
  go_wp2_with (first | (go_at_call 10; with_reducible refine (G.out _).mono ?_; rintro e w' ⟨rfl, hb0⟩) | (go_at_call 25; with_reducible refine (O.out _).mono ?_; rintro e w' ⟨rfl, hb1⟩) | (go_at_call 25; with_reducible refine (X.out _).mono ?_; rintro e w' ⟨rfl, hb2⟩) | (go_at_call 24; with_reducible refine (P.out _).mono ?_; rintro e w' ⟨rfl, hb3⟩) | (go_at_call 24; with_reducible refine (F.out _).mono ?_; rintro e w' ⟨rfl, hb4⟩) | (go_at_call 23; go_in))
  go_ret
  exact ⟨rfl, by repeat (first | (with_reducible exact Below.refl _ _) | (with_reducible refine below_step ?_ hb4) | (with_reducible refine below_step ?_ hb3) | (with_reducible refine below_step ?_ hb2) | (with_reducible refine below_step ?_ hb1) | (with_reducible refine below_step ?_ hb0) | (with_reducible apply pw_below_drewN) | (with_reducible apply below_alloc) | (with_reducible apply below_drew1))⟩

end Go.Proofs.Ytmngibfakkfnnaa
