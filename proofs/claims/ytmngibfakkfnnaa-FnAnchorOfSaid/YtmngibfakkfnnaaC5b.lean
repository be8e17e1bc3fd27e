/-
The law FnAnchorOf: the law's own function walked, word by word. Conditions: none.
-/
import Derived.Test.YtmngibfakkfnnaaC4
namespace Go.Proofs.Ytmngibfakkfnnaa
open Go.RowKit Go.ChangeShapes Go.Proofs.YtmngibfakkfnnaaW.PrintWords

theorem anchorOf_300 (w : World) :
    Calls Try.prog 8 #[.int .i64 3, .bool false, .bool false] w fun e w' => e = .returned (.bool true) ∧ Below w.heap.size w w' := by
  have hl : lowered ⟨#[108]⟩ = ⟨#[108]⟩ := by kernel_rfl
  have P := hid (fun W => position_ok_l W)
  have F := hid (fun W => position_ok_full W)
  have O : ∀ W, Calls Try.prog 25 #[.string ⟨#[108]⟩] W fun e w' => e = .returned (.tuple #[.int .i64 3, .bool true]) ∧ Below W.heap.size W w' := fun W => anchor_ok_l ⟨#[108]⟩ W (by decide) hl
  replace O := hid O
  have hx : lowered ⟨#[108, 120]⟩ = ⟨#[108, 120]⟩ := by kernel_rfl
  have x0 : ((⟨#[108, 120]⟩ : ByteArray).toList == [116, 108]) = false := by kernel_rfl
  have x1 : ((⟨#[108, 120]⟩ : ByteArray).toList == [116, 111, 112, 108, 101, 102, 116]) = false := by kernel_rfl
  have x2 : ((⟨#[108, 120]⟩ : ByteArray).toList == [116, 99]) = false := by kernel_rfl
  have x3 : ((⟨#[108, 120]⟩ : ByteArray).toList == [116, 111, 112, 99, 101, 110, 116, 101, 114]) = false := by kernel_rfl
  have x4 : ((⟨#[108, 120]⟩ : ByteArray).toList == [116, 114]) = false := by kernel_rfl
  have x5 : ((⟨#[108, 120]⟩ : ByteArray).toList == [116, 111, 112, 114, 105, 103, 104, 116]) = false := by kernel_rfl
  have x6 : ((⟨#[108, 120]⟩ : ByteArray).toList == [108]) = false := by kernel_rfl
  have x7 : ((⟨#[108, 120]⟩ : ByteArray).toList == [108, 101, 102, 116]) = false := by kernel_rfl
  have x8 : ((⟨#[108, 120]⟩ : ByteArray).toList == [99]) = false := by kernel_rfl
  have x9 : ((⟨#[108, 120]⟩ : ByteArray).toList == [99, 101, 110, 116, 101, 114]) = false := by kernel_rfl
  have x10 : ((⟨#[108, 120]⟩ : ByteArray).toList == [114]) = false := by kernel_rfl
  have x11 : ((⟨#[108, 120]⟩ : ByteArray).toList == [114, 105, 103, 104, 116]) = false := by kernel_rfl
  have x12 : ((⟨#[108, 120]⟩ : ByteArray).toList == [98, 108]) = false := by kernel_rfl
  have x13 : ((⟨#[108, 120]⟩ : ByteArray).toList == [98, 111, 116, 116, 111, 109, 108, 101, 102, 116]) = false := by kernel_rfl
  have x14 : ((⟨#[108, 120]⟩ : ByteArray).toList == [98, 99]) = false := by kernel_rfl
  have x15 : ((⟨#[108, 120]⟩ : ByteArray).toList == [98, 111, 116, 116, 111, 109, 99, 101, 110, 116, 101, 114]) = false := by kernel_rfl
  have x16 : ((⟨#[108, 120]⟩ : ByteArray).toList == [98, 114]) = false := by kernel_rfl
  have x17 : ((⟨#[108, 120]⟩ : ByteArray).toList == [98, 111, 116, 116, 111, 109, 114, 105, 103, 104, 116]) = false := by kernel_rfl
  have hc : (⟨#[108]⟩ ++ ⟨#[120]⟩ : ByteArray) = ⟨#[108, 120]⟩ := by kernel_rfl
  have X : ∀ W, Calls Try.prog 25 #[.string (⟨#[108]⟩ ++ ⟨#[120]⟩)] W fun e w' => e = .returned (.tuple #[.int .i64 0, .bool false]) ∧ Below W.heap.size W w' := fun W => by rw [hc]; exact anchor_bad ⟨#[108, 120]⟩ ⟨#[108, 120]⟩ W (by decide) hx x0 x1 x2 x3 x4 x5 x6 x7 x8 x9 x10 x11 x12 x13 x14 x15 x16 x17
  replace X := hid X
  clear hc hl hx x0 x1 x2 x3 x4 x5 x6 x7 x8 x9 x10 x11 x12 x13 x14 x15 x16 x17
  go_enter Try.func8, Try.ntmps8
  go_wp2_with (first | (go_at_call 25; with_reducible refine (O.out _).mono ?_; rintro e w' ⟨rfl, hb1⟩) | (go_at_call 25; with_reducible refine (X.out _).mono ?_; rintro e w' ⟨rfl, hb2⟩) | (go_at_call 24; with_reducible refine (P.out _).mono ?_; rintro e w' ⟨rfl, hb3⟩) | (go_at_call 24; with_reducible refine (F.out _).mono ?_; rintro e w' ⟨rfl, hb4⟩) | (go_at_call 23; go_in))
  go_ret
  exact ⟨rfl, by repeat (first | (with_reducible exact Below.refl _ _) | (with_reducible refine below_step ?_ hb4) | (with_reducible refine below_step ?_ hb3) | (with_reducible refine below_step ?_ hb2) | (with_reducible refine below_step ?_ hb1) | (with_reducible refine below_step ?_ hb0) | (with_reducible apply pw_below_drewN) | (with_reducible apply below_alloc) | (with_reducible apply below_drew1))⟩

theorem anchorOf_301 (w : World) :
    Calls Try.prog 8 #[.int .i64 3, .bool false, .bool true] w fun e w' => e = .returned (.bool true) ∧ Below w.heap.size w w' := by
  have G : ∀ W, Calls Try.prog 10 #[.string ⟨#[108]⟩] W fun e w' => e = .returned (.string ⟨#[76]⟩) ∧ Below W.heap.size W w' := fun W => by have := upper_calls ⟨#[108]⟩ W (by decide); rw [show (⟨((⟨#[108]⟩ : ByteArray).data.toList.map great).toArray⟩ : ByteArray) = ⟨#[76]⟩ by kernel_rfl] at this; exact this
  replace G := hid G
  have hl : lowered ⟨#[76]⟩ = ⟨#[108]⟩ := by kernel_rfl
  have P := hid (fun W => position_ok_l W)
  have F := hid (fun W => position_ok_full W)
  have O : ∀ W, Calls Try.prog 25 #[.string ⟨#[76]⟩] W fun e w' => e = .returned (.tuple #[.int .i64 3, .bool true]) ∧ Below W.heap.size W w' := fun W => anchor_ok_l ⟨#[76]⟩ W (by decide) hl
  replace O := hid O
  have hx : lowered ⟨#[76, 120]⟩ = ⟨#[108, 120]⟩ := by kernel_rfl
  have x0 : ((⟨#[108, 120]⟩ : ByteArray).toList == [116, 108]) = false := by kernel_rfl
  have x1 : ((⟨#[108, 120]⟩ : ByteArray).toList == [116, 111, 112, 108, 101, 102, 116]) = false := by kernel_rfl
  have x2 : ((⟨#[108, 120]⟩ : ByteArray).toList == [116, 99]) = false := by kernel_rfl
  have x3 : ((⟨#[108, 120]⟩ : ByteArray).toList == [116, 111, 112, 99, 101, 110, 116, 101, 114]) = false := by kernel_rfl
  have x4 : ((⟨#[108, 120]⟩ : ByteArray).toList == [116, 114]) = false := by kernel_rfl
  have x5 : ((⟨#[108, 120]⟩ : ByteArray).toList == [116, 111, 112, 114, 105, 103, 104, 116]) = false := by kernel_rfl
  have x6 : ((⟨#[108, 120]⟩ : ByteArray).toList == [108]) = false := by kernel_rfl
  have x7 : ((⟨#[108, 120]⟩ : ByteArray).toList == [108, 101, 102, 116]) = false := by kernel_rfl
  have x8 : ((⟨#[108, 120]⟩ : ByteArray).toList == [99]) = false := by kernel_rfl
  have x9 : ((⟨#[108, 120]⟩ : ByteArray).toList == [99, 101, 110, 116, 101, 114]) = false := by kernel_rfl
  have x10 : ((⟨#[108, 120]⟩ : ByteArray).toList == [114]) = false := by kernel_rfl
  have x11 : ((⟨#[108, 120]⟩ : ByteArray).toList == [114, 105, 103, 104, 116]) = false := by kernel_rfl
  have x12 : ((⟨#[108, 120]⟩ : ByteArray).toList == [98, 108]) = false := by kernel_rfl
  have x13 : ((⟨#[108, 120]⟩ : ByteArray).toList == [98, 111, 116, 116, 111, 109, 108, 101, 102, 116]) = false := by kernel_rfl
  have x14 : ((⟨#[108, 120]⟩ : ByteArray).toList == [98, 99]) = false := by kernel_rfl
  have x15 : ((⟨#[108, 120]⟩ : ByteArray).toList == [98, 111, 116, 116, 111, 109, 99, 101, 110, 116, 101, 114]) = false := by kernel_rfl
  have x16 : ((⟨#[108, 120]⟩ : ByteArray).toList == [98, 114]) = false := by kernel_rfl
  have x17 : ((⟨#[108, 120]⟩ : ByteArray).toList == [98, 111, 116, 116, 111, 109, 114, 105, 103, 104, 116]) = false := by kernel_rfl
  have hc : (⟨#[76]⟩ ++ ⟨#[120]⟩ : ByteArray) = ⟨#[76, 120]⟩ := by kernel_rfl
  have X : ∀ W, Calls Try.prog 25 #[.string (⟨#[76]⟩ ++ ⟨#[120]⟩)] W fun e w' => e = .returned (.tuple #[.int .i64 0, .bool false]) ∧ Below W.heap.size W w' := fun W => by rw [hc]; exact anchor_bad ⟨#[76, 120]⟩ ⟨#[108, 120]⟩ W (by decide) hx x0 x1 x2 x3 x4 x5 x6 x7 x8 x9 x10 x11 x12 x13 x14 x15 x16 x17
  replace X := hid X
  clear hc hl hx x0 x1 x2 x3 x4 x5 x6 x7 x8 x9 x10 x11 x12 x13 x14 x15 x16 x17
  go_enter Try.func8, Try.ntmps8
  go_wp2_with (first | (go_at_call 10; with_reducible refine (G.out _).mono ?_; rintro e w' ⟨rfl, hb0⟩) | (go_at_call 25; with_reducible refine (O.out _).mono ?_; rintro e w' ⟨rfl, hb1⟩) | (go_at_call 25; with_reducible refine (X.out _).mono ?_; rintro e w' ⟨rfl, hb2⟩) | (go_at_call 24; with_reducible refine (P.out _).mono ?_; rintro e w' ⟨rfl, hb3⟩) | (go_at_call 24; with_reducible refine (F.out _).mono ?_; rintro e w' ⟨rfl, hb4⟩) | (go_at_call 23; go_in))
  go_ret
  exact ⟨rfl, by repeat (first | (with_reducible exact Below.refl _ _) | (with_reducible refine below_step ?_ hb4) | (with_reducible refine below_step ?_ hb3) | (with_reducible refine below_step ?_ hb2) | (with_reducible refine below_step ?_ hb1) | (with_reducible refine below_step ?_ hb0) | (with_reducible apply pw_below_drewN) | (with_reducible apply below_alloc) | (with_reducible apply below_drew1))⟩

theorem anchorOf_310 (w : World) :
    Calls Try.prog 8 #[.int .i64 3, .bool true, .bool false] w fun e w' => e = .returned (.bool true) ∧ Below w.heap.size w w' := by
  have hl : lowered ⟨#[108, 101, 102, 116]⟩ = ⟨#[108, 101, 102, 116]⟩ := by kernel_rfl
  have P := hid (fun W => position_ok_left W)
  have F := hid (fun W => position_ok_full W)
  have O : ∀ W, Calls Try.prog 25 #[.string ⟨#[108, 101, 102, 116]⟩] W fun e w' => e = .returned (.tuple #[.int .i64 3, .bool true]) ∧ Below W.heap.size W w' := fun W => anchor_ok_left ⟨#[108, 101, 102, 116]⟩ W (by decide) hl
  replace O := hid O
  have hx : lowered ⟨#[108, 101, 102, 116, 120]⟩ = ⟨#[108, 101, 102, 116, 120]⟩ := by kernel_rfl
  have x0 : ((⟨#[108, 101, 102, 116, 120]⟩ : ByteArray).toList == [116, 108]) = false := by kernel_rfl
  have x1 : ((⟨#[108, 101, 102, 116, 120]⟩ : ByteArray).toList == [116, 111, 112, 108, 101, 102, 116]) = false := by kernel_rfl
  have x2 : ((⟨#[108, 101, 102, 116, 120]⟩ : ByteArray).toList == [116, 99]) = false := by kernel_rfl
  have x3 : ((⟨#[108, 101, 102, 116, 120]⟩ : ByteArray).toList == [116, 111, 112, 99, 101, 110, 116, 101, 114]) = false := by kernel_rfl
  have x4 : ((⟨#[108, 101, 102, 116, 120]⟩ : ByteArray).toList == [116, 114]) = false := by kernel_rfl
  have x5 : ((⟨#[108, 101, 102, 116, 120]⟩ : ByteArray).toList == [116, 111, 112, 114, 105, 103, 104, 116]) = false := by kernel_rfl
  have x6 : ((⟨#[108, 101, 102, 116, 120]⟩ : ByteArray).toList == [108]) = false := by kernel_rfl
  have x7 : ((⟨#[108, 101, 102, 116, 120]⟩ : ByteArray).toList == [108, 101, 102, 116]) = false := by kernel_rfl
  have x8 : ((⟨#[108, 101, 102, 116, 120]⟩ : ByteArray).toList == [99]) = false := by kernel_rfl
  have x9 : ((⟨#[108, 101, 102, 116, 120]⟩ : ByteArray).toList == [99, 101, 110, 116, 101, 114]) = false := by kernel_rfl
  have x10 : ((⟨#[108, 101, 102, 116, 120]⟩ : ByteArray).toList == [114]) = false := by kernel_rfl
  have x11 : ((⟨#[108, 101, 102, 116, 120]⟩ : ByteArray).toList == [114, 105, 103, 104, 116]) = false := by kernel_rfl
  have x12 : ((⟨#[108, 101, 102, 116, 120]⟩ : ByteArray).toList == [98, 108]) = false := by kernel_rfl
  have x13 : ((⟨#[108, 101, 102, 116, 120]⟩ : ByteArray).toList == [98, 111, 116, 116, 111, 109, 108, 101, 102, 116]) = false := by kernel_rfl
  have x14 : ((⟨#[108, 101, 102, 116, 120]⟩ : ByteArray).toList == [98, 99]) = false := by kernel_rfl
  have x15 : ((⟨#[108, 101, 102, 116, 120]⟩ : ByteArray).toList == [98, 111, 116, 116, 111, 109, 99, 101, 110, 116, 101, 114]) = false := by kernel_rfl
  have x16 : ((⟨#[108, 101, 102, 116, 120]⟩ : ByteArray).toList == [98, 114]) = false := by kernel_rfl
  have x17 : ((⟨#[108, 101, 102, 116, 120]⟩ : ByteArray).toList == [98, 111, 116, 116, 111, 109, 114, 105, 103, 104, 116]) = false := by kernel_rfl
  have hc : (⟨#[108, 101, 102, 116]⟩ ++ ⟨#[120]⟩ : ByteArray) = ⟨#[108, 101, 102, 116, 120]⟩ := by kernel_rfl
  have X : ∀ W, Calls Try.prog 25 #[.string (⟨#[108, 101, 102, 116]⟩ ++ ⟨#[120]⟩)] W fun e w' => e = .returned (.tuple #[.int .i64 0, .bool false]) ∧ Below W.heap.size W w' := fun W => by rw [hc]; exact anchor_bad ⟨#[108, 101, 102, 116, 120]⟩ ⟨#[108, 101, 102, 116, 120]⟩ W (by decide) hx x0 x1 x2 x3 x4 x5 x6 x7 x8 x9 x10 x11 x12 x13 x14 x15 x16 x17
  replace X := hid X
  clear hc hl hx x0 x1 x2 x3 x4 x5 x6 x7 x8 x9 x10 x11 x12 x13 x14 x15 x16 x17
  go_enter Try.func8, Try.ntmps8
  go_wp2_with (first | (go_at_call 25; with_reducible refine (O.out _).mono ?_; rintro e w' ⟨rfl, hb1⟩) | (go_at_call 25; with_reducible refine (X.out _).mono ?_; rintro e w' ⟨rfl, hb2⟩) | (go_at_call 24; with_reducible refine (P.out _).mono ?_; rintro e w' ⟨rfl, hb3⟩) | (go_at_call 24; with_reducible refine (F.out _).mono ?_; rintro e w' ⟨rfl, hb4⟩) | (go_at_call 23; go_in))
  go_ret
  exact ⟨rfl, by repeat (first | (with_reducible exact Below.refl _ _) | (with_reducible refine below_step ?_ hb4) | (with_reducible refine below_step ?_ hb3) | (with_reducible refine below_step ?_ hb2) | (with_reducible refine below_step ?_ hb1) | (with_reducible refine below_step ?_ hb0) | (with_reducible apply pw_below_drewN) | (with_reducible apply below_alloc) | (with_reducible apply below_drew1))⟩

theorem anchorOf_311 (w : World) :
    Calls Try.prog 8 #[.int .i64 3, .bool true, .bool true] w fun e w' => e = .returned (.bool true) ∧ Below w.heap.size w w' := by
  have G : ∀ W, Calls Try.prog 10 #[.string ⟨#[108, 101, 102, 116]⟩] W fun e w' => e = .returned (.string ⟨#[76, 69, 70, 84]⟩) ∧ Below W.heap.size W w' := fun W => by have := upper_calls ⟨#[108, 101, 102, 116]⟩ W (by decide); rw [show (⟨((⟨#[108, 101, 102, 116]⟩ : ByteArray).data.toList.map great).toArray⟩ : ByteArray) = ⟨#[76, 69, 70, 84]⟩ by kernel_rfl] at this; exact this
  replace G := hid G
  have hl : lowered ⟨#[76, 69, 70, 84]⟩ = ⟨#[108, 101, 102, 116]⟩ := by kernel_rfl
  have P := hid (fun W => position_ok_left W)
  have F := hid (fun W => position_ok_full W)
  have O : ∀ W, Calls Try.prog 25 #[.string ⟨#[76, 69, 70, 84]⟩] W fun e w' => e = .returned (.tuple #[.int .i64 3, .bool true]) ∧ Below W.heap.size W w' := fun W => anchor_ok_left ⟨#[76, 69, 70, 84]⟩ W (by decide) hl
  replace O := hid O
  have hx : lowered ⟨#[76, 69, 70, 84, 120]⟩ = ⟨#[108, 101, 102, 116, 120]⟩ := by kernel_rfl
  have x0 : ((⟨#[108, 101, 102, 116, 120]⟩ : ByteArray).toList == [116, 108]) = false := by kernel_rfl
  have x1 : ((⟨#[108, 101, 102, 116, 120]⟩ : ByteArray).toList == [116, 111, 112, 108, 101, 102, 116]) = false := by kernel_rfl
  have x2 : ((⟨#[108, 101, 102, 116, 120]⟩ : ByteArray).toList == [116, 99]) = false := by kernel_rfl
  have x3 : ((⟨#[108, 101, 102, 116, 120]⟩ : ByteArray).toList == [116, 111, 112, 99, 101, 110, 116, 101, 114]) = false := by kernel_rfl
  have x4 : ((⟨#[108, 101, 102, 116, 120]⟩ : ByteArray).toList == [116, 114]) = false := by kernel_rfl
  have x5 : ((⟨#[108, 101, 102, 116, 120]⟩ : ByteArray).toList == [116, 111, 112, 114, 105, 103, 104, 116]) = false := by kernel_rfl
  have x6 : ((⟨#[108, 101, 102, 116, 120]⟩ : ByteArray).toList == [108]) = false := by kernel_rfl
  have x7 : ((⟨#[108, 101, 102, 116, 120]⟩ : ByteArray).toList == [108, 101, 102, 116]) = false := by kernel_rfl
  have x8 : ((⟨#[108, 101, 102, 116, 120]⟩ : ByteArray).toList == [99]) = false := by kernel_rfl
  have x9 : ((⟨#[108, 101, 102, 116, 120]⟩ : ByteArray).toList == [99, 101, 110, 116, 101, 114]) = false := by kernel_rfl
  have x10 : ((⟨#[108, 101, 102, 116, 120]⟩ : ByteArray).toList == [114]) = false := by kernel_rfl
  have x11 : ((⟨#[108, 101, 102, 116, 120]⟩ : ByteArray).toList == [114, 105, 103, 104, 116]) = false := by kernel_rfl
  have x12 : ((⟨#[108, 101, 102, 116, 120]⟩ : ByteArray).toList == [98, 108]) = false := by kernel_rfl
  have x13 : ((⟨#[108, 101, 102, 116, 120]⟩ : ByteArray).toList == [98, 111, 116, 116, 111, 109, 108, 101, 102, 116]) = false := by kernel_rfl
  have x14 : ((⟨#[108, 101, 102, 116, 120]⟩ : ByteArray).toList == [98, 99]) = false := by kernel_rfl
  have x15 : ((⟨#[108, 101, 102, 116, 120]⟩ : ByteArray).toList == [98, 111, 116, 116, 111, 109, 99, 101, 110, 116, 101, 114]) = false := by kernel_rfl
  have x16 : ((⟨#[108, 101, 102, 116, 120]⟩ : ByteArray).toList == [98, 114]) = false := by kernel_rfl
  have x17 : ((⟨#[108, 101, 102, 116, 120]⟩ : ByteArray).toList == [98, 111, 116, 116, 111, 109, 114, 105, 103, 104, 116]) = false := by kernel_rfl
  have hc : (⟨#[76, 69, 70, 84]⟩ ++ ⟨#[120]⟩ : ByteArray) = ⟨#[76, 69, 70, 84, 120]⟩ := by kernel_rfl
  have X : ∀ W, Calls Try.prog 25 #[.string (⟨#[76, 69, 70, 84]⟩ ++ ⟨#[120]⟩)] W fun e w' => e = .returned (.tuple #[.int .i64 0, .bool false]) ∧ Below W.heap.size W w' := fun W => by rw [hc]; exact anchor_bad ⟨#[76, 69, 70, 84, 120]⟩ ⟨#[108, 101, 102, 116, 120]⟩ W (by decide) hx x0 x1 x2 x3 x4 x5 x6 x7 x8 x9 x10 x11 x12 x13 x14 x15 x16 x17
  replace X := hid X
  clear hc hl hx x0 x1 x2 x3 x4 x5 x6 x7 x8 x9 x10 x11 x12 x13 x14 x15 x16 x17
  go_enter Try.func8, Try.ntmps8
  go_wp2_with (first | (go_at_call 10; with_reducible refine (G.out _).mono ?_; rintro e w' ⟨rfl, hb0⟩) | (go_at_call 25; with_reducible refine (O.out _).mono ?_; rintro e w' ⟨rfl, hb1⟩) | (go_at_call 25; with_reducible refine (X.out _).mono ?_; rintro e w' ⟨rfl, hb2⟩) | (go_at_call 24; with_reducible refine (P.out _).mono ?_; rintro e w' ⟨rfl, hb3⟩) | (go_at_call 24; with_reducible refine (F.out _).mono ?_; rintro e w' ⟨rfl, hb4⟩) | (go_at_call 23; go_in))
  go_ret
  exact ⟨rfl, by repeat (first | (with_reducible exact Below.refl _ _) | (with_reducible refine below_step ?_ hb4) | (with_reducible refine below_step ?_ hb3) | (with_reducible refine below_step ?_ hb2) | (with_reducible refine below_step ?_ hb1) | (with_reducible refine below_step ?_ hb0) | (with_reducible apply pw_below_drewN) | (with_reducible apply below_alloc) | (with_reducible apply below_drew1))⟩

theorem anchorOf_400 (w : World) :
    Calls Try.prog 8 #[.int .i64 4, .bool false, .bool false] w fun e w' => e = .returned (.bool true) ∧ Below w.heap.size w w' := by
  have hl : lowered ⟨#[99]⟩ = ⟨#[99]⟩ := by kernel_rfl
  have P := hid (fun W => position_ok_c W)
  have F := hid (fun W => position_ok_full W)
  have O : ∀ W, Calls Try.prog 25 #[.string ⟨#[99]⟩] W fun e w' => e = .returned (.tuple #[.int .i64 4, .bool true]) ∧ Below W.heap.size W w' := fun W => anchor_ok_c ⟨#[99]⟩ W (by decide) hl
  replace O := hid O
  have hx : lowered ⟨#[99, 120]⟩ = ⟨#[99, 120]⟩ := by kernel_rfl
  have x0 : ((⟨#[99, 120]⟩ : ByteArray).toList == [116, 108]) = false := by kernel_rfl
  have x1 : ((⟨#[99, 120]⟩ : ByteArray).toList == [116, 111, 112, 108, 101, 102, 116]) = false := by kernel_rfl
  have x2 : ((⟨#[99, 120]⟩ : ByteArray).toList == [116, 99]) = false := by kernel_rfl
  have x3 : ((⟨#[99, 120]⟩ : ByteArray).toList == [116, 111, 112, 99, 101, 110, 116, 101, 114]) = false := by kernel_rfl
  have x4 : ((⟨#[99, 120]⟩ : ByteArray).toList == [116, 114]) = false := by kernel_rfl
  have x5 : ((⟨#[99, 120]⟩ : ByteArray).toList == [116, 111, 112, 114, 105, 103, 104, 116]) = false := by kernel_rfl
  have x6 : ((⟨#[99, 120]⟩ : ByteArray).toList == [108]) = false := by kernel_rfl
  have x7 : ((⟨#[99, 120]⟩ : ByteArray).toList == [108, 101, 102, 116]) = false := by kernel_rfl
  have x8 : ((⟨#[99, 120]⟩ : ByteArray).toList == [99]) = false := by kernel_rfl
  have x9 : ((⟨#[99, 120]⟩ : ByteArray).toList == [99, 101, 110, 116, 101, 114]) = false := by kernel_rfl
  have x10 : ((⟨#[99, 120]⟩ : ByteArray).toList == [114]) = false := by kernel_rfl
  have x11 : ((⟨#[99, 120]⟩ : ByteArray).toList == [114, 105, 103, 104, 116]) = false := by kernel_rfl
  have x12 : ((⟨#[99, 120]⟩ : ByteArray).toList == [98, 108]) = false := by kernel_rfl
  have x13 : ((⟨#[99, 120]⟩ : ByteArray).toList == [98, 111, 116, 116, 111, 109, 108, 101, 102, 116]) = false := by kernel_rfl
  have x14 : ((⟨#[99, 120]⟩ : ByteArray).toList == [98, 99]) = false := by kernel_rfl
  have x15 : ((⟨#[99, 120]⟩ : ByteArray).toList == [98, 111, 116, 116, 111, 109, 99, 101, 110, 116, 101, 114]) = false := by kernel_rfl
  have x16 : ((⟨#[99, 120]⟩ : ByteArray).toList == [98, 114]) = false := by kernel_rfl
  have x17 : ((⟨#[99, 120]⟩ : ByteArray).toList == [98, 111, 116, 116, 111, 109, 114, 105, 103, 104, 116]) = false := by kernel_rfl
  have hc : (⟨#[99]⟩ ++ ⟨#[120]⟩ : ByteArray) = ⟨#[99, 120]⟩ := by kernel_rfl
  have X : ∀ W, Calls Try.prog 25 #[.string (⟨#[99]⟩ ++ ⟨#[120]⟩)] W fun e w' => e = .returned (.tuple #[.int .i64 0, .bool false]) ∧ Below W.heap.size W w' := fun W => by rw [hc]; exact anchor_bad ⟨#[99, 120]⟩ ⟨#[99, 120]⟩ W (by decide) hx x0 x1 x2 x3 x4 x5 x6 x7 x8 x9 x10 x11 x12 x13 x14 x15 x16 x17
  replace X := hid X
  clear hc hl hx x0 x1 x2 x3 x4 x5 x6 x7 x8 x9 x10 x11 x12 x13 x14 x15 x16 x17
  go_enter Try.func8, Try.ntmps8
  go_wp2_with (first | (go_at_call 25; with_reducible refine (O.out _).mono ?_; rintro e w' ⟨rfl, hb1⟩) | (go_at_call 25; with_reducible refine (X.out _).mono ?_; rintro e w' ⟨rfl, hb2⟩) | (go_at_call 24; with_reducible refine (P.out _).mono ?_; rintro e w' ⟨rfl, hb3⟩) | (go_at_call 24; with_reducible refine (F.out _).mono ?_; rintro e w' ⟨rfl, hb4⟩) | (go_at_call 23; go_in))
  go_ret
  exact ⟨rfl, by repeat (first | (with_reducible exact Below.refl _ _) | (with_reducible refine below_step ?_ hb4) | (with_reducible refine below_step ?_ hb3) | (with_reducible refine below_step ?_ hb2) | (with_reducible refine below_step ?_ hb1) | (with_reducible refine below_step ?_ hb0) | (with_reducible apply pw_below_drewN) | (with_reducible apply below_alloc) | (with_reducible apply below_drew1))⟩

theorem anchorOf_401 (w : World) :
    Calls Try.prog 8 #[.int .i64 4, .bool false, .bool true] w fun e w' => e = .returned (.bool true) ∧ Below w.heap.size w w' := by
  have G : ∀ W, Calls Try.prog 10 #[.string ⟨#[99]⟩] W fun e w' => e = .returned (.string ⟨#[67]⟩) ∧ Below W.heap.size W w' := fun W => by have := upper_calls ⟨#[99]⟩ W (by decide); rw [show (⟨((⟨#[99]⟩ : ByteArray).data.toList.map great).toArray⟩ : ByteArray) = ⟨#[67]⟩ by kernel_rfl] at this; exact this
  replace G := hid G
  have hl : lowered ⟨#[67]⟩ = ⟨#[99]⟩ := by kernel_rfl
  have P := hid (fun W => position_ok_c W)
  have F := hid (fun W => position_ok_full W)
  have O : ∀ W, Calls Try.prog 25 #[.string ⟨#[67]⟩] W fun e w' => e = .returned (.tuple #[.int .i64 4, .bool true]) ∧ Below W.heap.size W w' := fun W => anchor_ok_c ⟨#[67]⟩ W (by decide) hl
  replace O := hid O
  have hx : lowered ⟨#[67, 120]⟩ = ⟨#[99, 120]⟩ := by kernel_rfl
  have x0 : ((⟨#[99, 120]⟩ : ByteArray).toList == [116, 108]) = false := by kernel_rfl
  have x1 : ((⟨#[99, 120]⟩ : ByteArray).toList == [116, 111, 112, 108, 101, 102, 116]) = false := by kernel_rfl
  have x2 : ((⟨#[99, 120]⟩ : ByteArray).toList == [116, 99]) = false := by kernel_rfl
  have x3 : ((⟨#[99, 120]⟩ : ByteArray).toList == [116, 111, 112, 99, 101, 110, 116, 101, 114]) = false := by kernel_rfl
  have x4 : ((⟨#[99, 120]⟩ : ByteArray).toList == [116, 114]) = false := by kernel_rfl
  have x5 : ((⟨#[99, 120]⟩ : ByteArray).toList == [116, 111, 112, 114, 105, 103, 104, 116]) = false := by kernel_rfl
  have x6 : ((⟨#[99, 120]⟩ : ByteArray).toList == [108]) = false := by kernel_rfl
  have x7 : ((⟨#[99, 120]⟩ : ByteArray).toList == [108, 101, 102, 116]) = false := by kernel_rfl
  have x8 : ((⟨#[99, 120]⟩ : ByteArray).toList == [99]) = false := by kernel_rfl
  have x9 : ((⟨#[99, 120]⟩ : ByteArray).toList == [99, 101, 110, 116, 101, 114]) = false := by kernel_rfl
  have x10 : ((⟨#[99, 120]⟩ : ByteArray).toList == [114]) = false := by kernel_rfl
  have x11 : ((⟨#[99, 120]⟩ : ByteArray).toList == [114, 105, 103, 104, 116]) = false := by kernel_rfl
  have x12 : ((⟨#[99, 120]⟩ : ByteArray).toList == [98, 108]) = false := by kernel_rfl
  have x13 : ((⟨#[99, 120]⟩ : ByteArray).toList == [98, 111, 116, 116, 111, 109, 108, 101, 102, 116]) = false := by kernel_rfl
  have x14 : ((⟨#[99, 120]⟩ : ByteArray).toList == [98, 99]) = false := by kernel_rfl
  have x15 : ((⟨#[99, 120]⟩ : ByteArray).toList == [98, 111, 116, 116, 111, 109, 99, 101, 110, 116, 101, 114]) = false := by kernel_rfl
  have x16 : ((⟨#[99, 120]⟩ : ByteArray).toList == [98, 114]) = false := by kernel_rfl
  have x17 : ((⟨#[99, 120]⟩ : ByteArray).toList == [98, 111, 116, 116, 111, 109, 114, 105, 103, 104, 116]) = false := by kernel_rfl
  have hc : (⟨#[67]⟩ ++ ⟨#[120]⟩ : ByteArray) = ⟨#[67, 120]⟩ := by kernel_rfl
  have X : ∀ W, Calls Try.prog 25 #[.string (⟨#[67]⟩ ++ ⟨#[120]⟩)] W fun e w' => e = .returned (.tuple #[.int .i64 0, .bool false]) ∧ Below W.heap.size W w' := fun W => by rw [hc]; exact anchor_bad ⟨#[67, 120]⟩ ⟨#[99, 120]⟩ W (by decide) hx x0 x1 x2 x3 x4 x5 x6 x7 x8 x9 x10 x11 x12 x13 x14 x15 x16 x17
  replace X := hid X
  clear hc hl hx x0 x1 x2 x3 x4 x5 x6 x7 x8 x9 x10 x11 x12 x13 x14 x15 x16 x17
  go_enter Try.func8, Try.ntmps8
  go_wp2_with (first | (go_at_call 10; with_reducible refine (G.out _).mono ?_; rintro e w' ⟨rfl, hb0⟩) | (go_at_call 25; with_reducible refine (O.out _).mono ?_; rintro e w' ⟨rfl, hb1⟩) | (go_at_call 25; with_reducible refine (X.out _).mono ?_; rintro e w' ⟨rfl, hb2⟩) | (go_at_call 24; with_reducible refine (P.out _).mono ?_; rintro e w' ⟨rfl, hb3⟩) | (go_at_call 24; with_reducible refine (F.out _).mono ?_; rintro e w' ⟨rfl, hb4⟩) | (go_at_call 23; go_in))
  go_ret
  exact ⟨rfl, by repeat (first | (with_reducible exact Below.refl _ _) | (with_reducible refine below_step ?_ hb4) | (with_reducible refine below_step ?_ hb3) | (with_reducible refine below_step ?_ hb2) | (with_reducible refine below_step ?_ hb1) | (with_reducible refine below_step ?_ hb0) | (with_reducible apply pw_below_drewN) | (with_reducible apply below_alloc) | (with_reducible apply below_drew1))⟩

theorem anchorOf_410 (w : World) :
    Calls Try.prog 8 #[.int .i64 4, .bool true, .bool false] w fun e w' => e = .returned (.bool true) ∧ Below w.heap.size w w' := by
  have hl : lowered ⟨#[99, 101, 110, 116, 101, 114]⟩ = ⟨#[99, 101, 110, 116, 101, 114]⟩ := by kernel_rfl
  have P := hid (fun W => position_ok_center W)
  have F := hid (fun W => position_ok_full W)
  have O : ∀ W, Calls Try.prog 25 #[.string ⟨#[99, 101, 110, 116, 101, 114]⟩] W fun e w' => e = .returned (.tuple #[.int .i64 4, .bool true]) ∧ Below W.heap.size W w' := fun W => anchor_ok_center ⟨#[99, 101, 110, 116, 101, 114]⟩ W (by decide) hl
  replace O := hid O
  have hx : lowered ⟨#[99, 101, 110, 116, 101, 114, 120]⟩ = ⟨#[99, 101, 110, 116, 101, 114, 120]⟩ := by kernel_rfl
  have x0 : ((⟨#[99, 101, 110, 116, 101, 114, 120]⟩ : ByteArray).toList == [116, 108]) = false := by kernel_rfl
  have x1 : ((⟨#[99, 101, 110, 116, 101, 114, 120]⟩ : ByteArray).toList == [116, 111, 112, 108, 101, 102, 116]) = false := by kernel_rfl
  have x2 : ((⟨#[99, 101, 110, 116, 101, 114, 120]⟩ : ByteArray).toList == [116, 99]) = false := by kernel_rfl
  have x3 : ((⟨#[99, 101, 110, 116, 101, 114, 120]⟩ : ByteArray).toList == [116, 111, 112, 99, 101, 110, 116, 101, 114]) = false := by kernel_rfl
  have x4 : ((⟨#[99, 101, 110, 116, 101, 114, 120]⟩ : ByteArray).toList == [116, 114]) = false := by kernel_rfl
  have x5 : ((⟨#[99, 101, 110, 116, 101, 114, 120]⟩ : ByteArray).toList == [116, 111, 112, 114, 105, 103, 104, 116]) = false := by kernel_rfl
  have x6 : ((⟨#[99, 101, 110, 116, 101, 114, 120]⟩ : ByteArray).toList == [108]) = false := by kernel_rfl
  have x7 : ((⟨#[99, 101, 110, 116, 101, 114, 120]⟩ : ByteArray).toList == [108, 101, 102, 116]) = false := by kernel_rfl
  have x8 : ((⟨#[99, 101, 110, 116, 101, 114, 120]⟩ : ByteArray).toList == [99]) = false := by kernel_rfl
  have x9 : ((⟨#[99, 101, 110, 116, 101, 114, 120]⟩ : ByteArray).toList == [99, 101, 110, 116, 101, 114]) = false := by kernel_rfl
  have x10 : ((⟨#[99, 101, 110, 116, 101, 114, 120]⟩ : ByteArray).toList == [114]) = false := by kernel_rfl
  have x11 : ((⟨#[99, 101, 110, 116, 101, 114, 120]⟩ : ByteArray).toList == [114, 105, 103, 104, 116]) = false := by kernel_rfl
  have x12 : ((⟨#[99, 101, 110, 116, 101, 114, 120]⟩ : ByteArray).toList == [98, 108]) = false := by kernel_rfl
  have x13 : ((⟨#[99, 101, 110, 116, 101, 114, 120]⟩ : ByteArray).toList == [98, 111, 116, 116, 111, 109, 108, 101, 102, 116]) = false := by kernel_rfl
  have x14 : ((⟨#[99, 101, 110, 116, 101, 114, 120]⟩ : ByteArray).toList == [98, 99]) = false := by kernel_rfl
  have x15 : ((⟨#[99, 101, 110, 116, 101, 114, 120]⟩ : ByteArray).toList == [98, 111, 116, 116, 111, 109, 99, 101, 110, 116, 101, 114]) = false := by kernel_rfl
  have x16 : ((⟨#[99, 101, 110, 116, 101, 114, 120]⟩ : ByteArray).toList == [98, 114]) = false := by kernel_rfl
  have x17 : ((⟨#[99, 101, 110, 116, 101, 114, 120]⟩ : ByteArray).toList == [98, 111, 116, 116, 111, 109, 114, 105, 103, 104, 116]) = false := by kernel_rfl
  have hc : (⟨#[99, 101, 110, 116, 101, 114]⟩ ++ ⟨#[120]⟩ : ByteArray) = ⟨#[99, 101, 110, 116, 101, 114, 120]⟩ := by kernel_rfl
  have X : ∀ W, Calls Try.prog 25 #[.string (⟨#[99, 101, 110, 116, 101, 114]⟩ ++ ⟨#[120]⟩)] W fun e w' => e = .returned (.tuple #[.int .i64 0, .bool false]) ∧ Below W.heap.size W w' := fun W => by rw [hc]; exact anchor_bad ⟨#[99, 101, 110, 116, 101, 114, 120]⟩ ⟨#[99, 101, 110, 116, 101, 114, 120]⟩ W (by decide) hx x0 x1 x2 x3 x4 x5 x6 x7 x8 x9 x10 x11 x12 x13 x14 x15 x16 x17
  replace X := hid X
  clear hc hl hx x0 x1 x2 x3 x4 x5 x6 x7 x8 x9 x10 x11 x12 x13 x14 x15 x16 x17
  go_enter Try.func8, Try.ntmps8
  go_wp2_with (first | (go_at_call 25; with_reducible refine (O.out _).mono ?_; rintro e w' ⟨rfl, hb1⟩) | (go_at_call 25; with_reducible refine (X.out _).mono ?_; rintro e w' ⟨rfl, hb2⟩) | (go_at_call 24; with_reducible refine (P.out _).mono ?_; rintro e w' ⟨rfl, hb3⟩) | (go_at_call 24; with_reducible refine (F.out _).mono ?_; rintro e w' ⟨rfl, hb4⟩) | (go_at_call 23; go_in))
  go_ret
  exact ⟨rfl, by repeat (first | (with_reducible exact Below.refl _ _) | (with_reducible refine below_step ?_ hb4) | (with_reducible refine below_step ?_ hb3) | (with_reducible refine below_step ?_ hb2) | (with_reducible refine below_step ?_ hb1) | (with_reducible refine below_step ?_ hb0) | (with_reducible apply pw_below_drewN) | (with_reducible apply below_alloc) | (with_reducible apply below_drew1))⟩

theorem anchorOf_411 (w : World) :
    Calls Try.prog 8 #[.int .i64 4, .bool true, .bool true] w fun e w' => e = .returned (.bool true) ∧ Below w.heap.size w w' := by
  have G : ∀ W, Calls Try.prog 10 #[.string ⟨#[99, 101, 110, 116, 101, 114]⟩] W fun e w' => e = .returned (.string ⟨#[67, 69, 78, 84, 69, 82]⟩) ∧ Below W.heap.size W w' := fun W => by have := upper_calls ⟨#[99, 101, 110, 116, 101, 114]⟩ W (by decide); rw [show (⟨((⟨#[99, 101, 110, 116, 101, 114]⟩ : ByteArray).data.toList.map great).toArray⟩ : ByteArray) = ⟨#[67, 69, 78, 84, 69, 82]⟩ by kernel_rfl] at this; exact this
  replace G := hid G
  have hl : lowered ⟨#[67, 69, 78, 84, 69, 82]⟩ = ⟨#[99, 101, 110, 116, 101, 114]⟩ := by kernel_rfl
  have P := hid (fun W => position_ok_center W)
  have F := hid (fun W => position_ok_full W)
  have O : ∀ W, Calls Try.prog 25 #[.string ⟨#[67, 69, 78, 84, 69, 82]⟩] W fun e w' => e = .returned (.tuple #[.int .i64 4, .bool true]) ∧ Below W.heap.size W w' := fun W => anchor_ok_center ⟨#[67, 69, 78, 84, 69, 82]⟩ W (by decide) hl
  replace O := hid O
  have hx : lowered ⟨#[67, 69, 78, 84, 69, 82, 120]⟩ = ⟨#[99, 101, 110, 116, 101, 114, 120]⟩ := by kernel_rfl
  have x0 : ((⟨#[99, 101, 110, 116, 101, 114, 120]⟩ : ByteArray).toList == [116, 108]) = false := by kernel_rfl
  have x1 : ((⟨#[99, 101, 110, 116, 101, 114, 120]⟩ : ByteArray).toList == [116, 111, 112, 108, 101, 102, 116]) = false := by kernel_rfl
  have x2 : ((⟨#[99, 101, 110, 116, 101, 114, 120]⟩ : ByteArray).toList == [116, 99]) = false := by kernel_rfl
  have x3 : ((⟨#[99, 101, 110, 116, 101, 114, 120]⟩ : ByteArray).toList == [116, 111, 112, 99, 101, 110, 116, 101, 114]) = false := by kernel_rfl
  have x4 : ((⟨#[99, 101, 110, 116, 101, 114, 120]⟩ : ByteArray).toList == [116, 114]) = false := by kernel_rfl
  have x5 : ((⟨#[99, 101, 110, 116, 101, 114, 120]⟩ : ByteArray).toList == [116, 111, 112, 114, 105, 103, 104, 116]) = false := by kernel_rfl
  have x6 : ((⟨#[99, 101, 110, 116, 101, 114, 120]⟩ : ByteArray).toList == [108]) = false := by kernel_rfl
  have x7 : ((⟨#[99, 101, 110, 116, 101, 114, 120]⟩ : ByteArray).toList == [108, 101, 102, 116]) = false := by kernel_rfl
  have x8 : ((⟨#[99, 101, 110, 116, 101, 114, 120]⟩ : ByteArray).toList == [99]) = false := by kernel_rfl
  have x9 : ((⟨#[99, 101, 110, 116, 101, 114, 120]⟩ : ByteArray).toList == [99, 101, 110, 116, 101, 114]) = false := by kernel_rfl
  have x10 : ((⟨#[99, 101, 110, 116, 101, 114, 120]⟩ : ByteArray).toList == [114]) = false := by kernel_rfl
  have x11 : ((⟨#[99, 101, 110, 116, 101, 114, 120]⟩ : ByteArray).toList == [114, 105, 103, 104, 116]) = false := by kernel_rfl
  have x12 : ((⟨#[99, 101, 110, 116, 101, 114, 120]⟩ : ByteArray).toList == [98, 108]) = false := by kernel_rfl
  have x13 : ((⟨#[99, 101, 110, 116, 101, 114, 120]⟩ : ByteArray).toList == [98, 111, 116, 116, 111, 109, 108, 101, 102, 116]) = false := by kernel_rfl
  have x14 : ((⟨#[99, 101, 110, 116, 101, 114, 120]⟩ : ByteArray).toList == [98, 99]) = false := by kernel_rfl
  have x15 : ((⟨#[99, 101, 110, 116, 101, 114, 120]⟩ : ByteArray).toList == [98, 111, 116, 116, 111, 109, 99, 101, 110, 116, 101, 114]) = false := by kernel_rfl
  have x16 : ((⟨#[99, 101, 110, 116, 101, 114, 120]⟩ : ByteArray).toList == [98, 114]) = false := by kernel_rfl
  have x17 : ((⟨#[99, 101, 110, 116, 101, 114, 120]⟩ : ByteArray).toList == [98, 111, 116, 116, 111, 109, 114, 105, 103, 104, 116]) = false := by kernel_rfl
  have hc : (⟨#[67, 69, 78, 84, 69, 82]⟩ ++ ⟨#[120]⟩ : ByteArray) = ⟨#[67, 69, 78, 84, 69, 82, 120]⟩ := by kernel_rfl
  have X : ∀ W, Calls Try.prog 25 #[.string (⟨#[67, 69, 78, 84, 69, 82]⟩ ++ ⟨#[120]⟩)] W fun e w' => e = .returned (.tuple #[.int .i64 0, .bool false]) ∧ Below W.heap.size W w' := fun W => by rw [hc]; exact anchor_bad ⟨#[67, 69, 78, 84, 69, 82, 120]⟩ ⟨#[99, 101, 110, 116, 101, 114, 120]⟩ W (by decide) hx x0 x1 x2 x3 x4 x5 x6 x7 x8 x9 x10 x11 x12 x13 x14 x15 x16 x17
  replace X := hid X
  clear hc hl hx x0 x1 x2 x3 x4 x5 x6 x7 x8 x9 x10 x11 x12 x13 x14 x15 x16 x17
  go_enter Try.func8, Try.ntmps8
  go_wp2_with (first | (go_at_call 10; with_reducible refine (G.out _).mono ?_; rintro e w' ⟨rfl, hb0⟩) | (go_at_call 25; with_reducible refine (O.out _).mono ?_; rintro e w' ⟨rfl, hb1⟩) | (go_at_call 25; with_reducible refine (X.out _).mono ?_; rintro e w' ⟨rfl, hb2⟩) | (go_at_call 24; with_reducible refine (P.out _).mono ?_; rintro e w' ⟨rfl, hb3⟩) | (go_at_call 24; with_reducible refine (F.out _).mono ?_; rintro e w' ⟨rfl, hb4⟩) | (go_at_call 23; go_in))
  go_ret
  exact ⟨rfl, by repeat (first | (with_reducible exact Below.refl _ _) | (with_reducible refine below_step ?_ hb4) | (with_reducible refine below_step ?_ hb3) | (with_reducible refine below_step ?_ hb2) | (with_reducible refine below_step ?_ hb1) | (with_reducible refine below_step ?_ hb0) | (with_reducible apply pw_below_drewN) | (with_reducible apply below_alloc) | (with_reducible apply below_drew1))⟩

theorem anchorOf_500 (w : World) :
    Calls Try.prog 8 #[.int .i64 5, .bool false, .bool false] w fun e w' => e = .returned (.bool true) ∧ Below w.heap.size w w' := by
  have hl : lowered ⟨#[114]⟩ = ⟨#[114]⟩ := by kernel_rfl
  have P := hid (fun W => position_ok_r W)
  have F := hid (fun W => position_ok_full W)
  have O : ∀ W, Calls Try.prog 25 #[.string ⟨#[114]⟩] W fun e w' => e = .returned (.tuple #[.int .i64 5, .bool true]) ∧ Below W.heap.size W w' := fun W => anchor_ok_r ⟨#[114]⟩ W (by decide) hl
  replace O := hid O
  have hx : lowered ⟨#[114, 120]⟩ = ⟨#[114, 120]⟩ := by kernel_rfl
  have x0 : ((⟨#[114, 120]⟩ : ByteArray).toList == [116, 108]) = false := by kernel_rfl
  have x1 : ((⟨#[114, 120]⟩ : ByteArray).toList == [116, 111, 112, 108, 101, 102, 116]) = false := by kernel_rfl
  have x2 : ((⟨#[114, 120]⟩ : ByteArray).toList == [116, 99]) = false := by kernel_rfl
  have x3 : ((⟨#[114, 120]⟩ : ByteArray).toList == [116, 111, 112, 99, 101, 110, 116, 101, 114]) = false := by kernel_rfl
  have x4 : ((⟨#[114, 120]⟩ : ByteArray).toList == [116, 114]) = false := by kernel_rfl
  have x5 : ((⟨#[114, 120]⟩ : ByteArray).toList == [116, 111, 112, 114, 105, 103, 104, 116]) = false := by kernel_rfl
  have x6 : ((⟨#[114, 120]⟩ : ByteArray).toList == [108]) = false := by kernel_rfl
  have x7 : ((⟨#[114, 120]⟩ : ByteArray).toList == [108, 101, 102, 116]) = false := by kernel_rfl
  have x8 : ((⟨#[114, 120]⟩ : ByteArray).toList == [99]) = false := by kernel_rfl
  have x9 : ((⟨#[114, 120]⟩ : ByteArray).toList == [99, 101, 110, 116, 101, 114]) = false := by kernel_rfl
  have x10 : ((⟨#[114, 120]⟩ : ByteArray).toList == [114]) = false := by kernel_rfl
  have x11 : ((⟨#[114, 120]⟩ : ByteArray).toList == [114, 105, 103, 104, 116]) = false := by kernel_rfl
  have x12 : ((⟨#[114, 120]⟩ : ByteArray).toList == [98, 108]) = false := by kernel_rfl
  have x13 : ((⟨#[114, 120]⟩ : ByteArray).toList == [98, 111, 116, 116, 111, 109, 108, 101, 102, 116]) = false := by kernel_rfl
  have x14 : ((⟨#[114, 120]⟩ : ByteArray).toList == [98, 99]) = false := by kernel_rfl
  have x15 : ((⟨#[114, 120]⟩ : ByteArray).toList == [98, 111, 116, 116, 111, 109, 99, 101, 110, 116, 101, 114]) = false := by kernel_rfl
  have x16 : ((⟨#[114, 120]⟩ : ByteArray).toList == [98, 114]) = false := by kernel_rfl
  have x17 : ((⟨#[114, 120]⟩ : ByteArray).toList == [98, 111, 116, 116, 111, 109, 114, 105, 103, 104, 116]) = false := by kernel_rfl
  have hc : (⟨#[114]⟩ ++ ⟨#[120]⟩ : ByteArray) = ⟨#[114, 120]⟩ := by kernel_rfl
  have X : ∀ W, Calls Try.prog 25 #[.string (⟨#[114]⟩ ++ ⟨#[120]⟩)] W fun e w' => e = .returned (.tuple #[.int .i64 0, .bool false]) ∧ Below W.heap.size W w' := fun W => by rw [hc]; exact anchor_bad ⟨#[114, 120]⟩ ⟨#[114, 120]⟩ W (by decide) hx x0 x1 x2 x3 x4 x5 x6 x7 x8 x9 x10 x11 x12 x13 x14 x15 x16 x17
  replace X := hid X
  clear hc hl hx x0 x1 x2 x3 x4 x5 x6 x7 x8 x9 x10 x11 x12 x13 x14 x15 x16 x17
  go_enter Try.func8, Try.ntmps8
  go_wp2_with (first | (go_at_call 25; with_reducible refine (O.out _).mono ?_; rintro e w' ⟨rfl, hb1⟩) | (go_at_call 25; with_reducible refine (X.out _).mono ?_; rintro e w' ⟨rfl, hb2⟩) | (go_at_call 24; with_reducible refine (P.out _).mono ?_; rintro e w' ⟨rfl, hb3⟩) | (go_at_call 24; with_reducible refine (F.out _).mono ?_; rintro e w' ⟨rfl, hb4⟩) | (go_at_call 23; go_in))
  go_ret
  exact ⟨rfl, by repeat (first | (with_reducible exact Below.refl _ _) | (with_reducible refine below_step ?_ hb4) | (with_reducible refine below_step ?_ hb3) | (with_reducible refine below_step ?_ hb2) | (with_reducible refine below_step ?_ hb1) | (with_reducible refine below_step ?_ hb0) | (with_reducible apply pw_below_drewN) | (with_reducible apply below_alloc) | (with_reducible apply below_drew1))⟩

theorem anchorOf_501 (w : World) :
    Calls Try.prog 8 #[.int .i64 5, .bool false, .bool true] w fun e w' => e = .returned (.bool true) ∧ Below w.heap.size w w' := by
  have G : ∀ W, Calls Try.prog 10 #[.string ⟨#[114]⟩] W fun e w' => e = .returned (.string ⟨#[82]⟩) ∧ Below W.heap.size W w' := fun W => by have := upper_calls ⟨#[114]⟩ W (by decide); rw [show (⟨((⟨#[114]⟩ : ByteArray).data.toList.map great).toArray⟩ : ByteArray) = ⟨#[82]⟩ by kernel_rfl] at this; exact this
  replace G := hid G
  have hl : lowered ⟨#[82]⟩ = ⟨#[114]⟩ := by kernel_rfl
  have P := hid (fun W => position_ok_r W)
  have F := hid (fun W => position_ok_full W)
  have O : ∀ W, Calls Try.prog 25 #[.string ⟨#[82]⟩] W fun e w' => e = .returned (.tuple #[.int .i64 5, .bool true]) ∧ Below W.heap.size W w' := fun W => anchor_ok_r ⟨#[82]⟩ W (by decide) hl
  replace O := hid O
  have hx : lowered ⟨#[82, 120]⟩ = ⟨#[114, 120]⟩ := by kernel_rfl
  have x0 : ((⟨#[114, 120]⟩ : ByteArray).toList == [116, 108]) = false := by kernel_rfl
  have x1 : ((⟨#[114, 120]⟩ : ByteArray).toList == [116, 111, 112, 108, 101, 102, 116]) = false := by kernel_rfl
  have x2 : ((⟨#[114, 120]⟩ : ByteArray).toList == [116, 99]) = false := by kernel_rfl
  have x3 : ((⟨#[114, 120]⟩ : ByteArray).toList == [116, 111, 112, 99, 101, 110, 116, 101, 114]) = false := by kernel_rfl
  have x4 : ((⟨#[114, 120]⟩ : ByteArray).toList == [116, 114]) = false := by kernel_rfl
  have x5 : ((⟨#[114, 120]⟩ : ByteArray).toList == [116, 111, 112, 114, 105, 103, 104, 116]) = false := by kernel_rfl
  have x6 : ((⟨#[114, 120]⟩ : ByteArray).toList == [108]) = false := by kernel_rfl
  have x7 : ((⟨#[114, 120]⟩ : ByteArray).toList == [108, 101, 102, 116]) = false := by kernel_rfl
  have x8 : ((⟨#[114, 120]⟩ : ByteArray).toList == [99]) = false := by kernel_rfl
  have x9 : ((⟨#[114, 120]⟩ : ByteArray).toList == [99, 101, 110, 116, 101, 114]) = false := by kernel_rfl
  have x10 : ((⟨#[114, 120]⟩ : ByteArray).toList == [114]) = false := by kernel_rfl
  have x11 : ((⟨#[114, 120]⟩ : ByteArray).toList == [114, 105, 103, 104, 116]) = false := by kernel_rfl
  have x12 : ((⟨#[114, 120]⟩ : ByteArray).toList == [98, 108]) = false := by kernel_rfl
  have x13 : ((⟨#[114, 120]⟩ : ByteArray).toList == [98, 111, 116, 116, 111, 109, 108, 101, 102, 116]) = false := by kernel_rfl
  have x14 : ((⟨#[114, 120]⟩ : ByteArray).toList == [98, 99]) = false := by kernel_rfl
  have x15 : ((⟨#[114, 120]⟩ : ByteArray).toList == [98, 111, 116, 116, 111, 109, 99, 101, 110, 116, 101, 114]) = false := by kernel_rfl
  have x16 : ((⟨#[114, 120]⟩ : ByteArray).toList == [98, 114]) = false := by kernel_rfl
  have x17 : ((⟨#[114, 120]⟩ : ByteArray).toList == [98, 111, 116, 116, 111, 109, 114, 105, 103, 104, 116]) = false := by kernel_rfl
  have hc : (⟨#[82]⟩ ++ ⟨#[120]⟩ : ByteArray) = ⟨#[82, 120]⟩ := by kernel_rfl
  have X : ∀ W, Calls Try.prog 25 #[.string (⟨#[82]⟩ ++ ⟨#[120]⟩)] W fun e w' => e = .returned (.tuple #[.int .i64 0, .bool false]) ∧ Below W.heap.size W w' := fun W => by rw [hc]; exact anchor_bad ⟨#[82, 120]⟩ ⟨#[114, 120]⟩ W (by decide) hx x0 x1 x2 x3 x4 x5 x6 x7 x8 x9 x10 x11 x12 x13 x14 x15 x16 x17
  replace X := hid X
  clear hc hl hx x0 x1 x2 x3 x4 x5 x6 x7 x8 x9 x10 x11 x12 x13 x14 x15 x16 x17
  go_enter Try.func8, Try.ntmps8
  go_wp2_with (first | (go_at_call 10; with_reducible refine (G.out _).mono ?_; rintro e w' ⟨rfl, hb0⟩) | (go_at_call 25; with_reducible refine (O.out _).mono ?_; rintro e w' ⟨rfl, hb1⟩) | (go_at_call 25; with_reducible refine (X.out _).mono ?_; rintro e w' ⟨rfl, hb2⟩) | (go_at_call 24; with_reducible refine (P.out _).mono ?_; rintro e w' ⟨rfl, hb3⟩) | (go_at_call 24; with_reducible refine (F.out _).mono ?_; rintro e w' ⟨rfl, hb4⟩) | (go_at_call 23; go_in))
  go_ret
  exact ⟨rfl, by repeat (first | (with_reducible exact Below.refl _ _) | (with_reducible refine below_step ?_ hb4) | (with_reducible refine below_step ?_ hb3) | (with_reducible refine below_step ?_ hb2) | (with_reducible refine below_step ?_ hb1) | (with_reducible refine below_step ?_ hb0) | (with_reducible apply pw_below_drewN) | (with_reducible apply below_alloc) | (with_reducible apply below_drew1))⟩

theorem anchorOf_510 (w : World) :
    Calls Try.prog 8 #[.int .i64 5, .bool true, .bool false] w fun e w' => e = .returned (.bool true) ∧ Below w.heap.size w w' := by
  have hl : lowered ⟨#[114, 105, 103, 104, 116]⟩ = ⟨#[114, 105, 103, 104, 116]⟩ := by kernel_rfl
  have P := hid (fun W => position_ok_right W)
  have F := hid (fun W => position_ok_full W)
  have O : ∀ W, Calls Try.prog 25 #[.string ⟨#[114, 105, 103, 104, 116]⟩] W fun e w' => e = .returned (.tuple #[.int .i64 5, .bool true]) ∧ Below W.heap.size W w' := fun W => anchor_ok_right ⟨#[114, 105, 103, 104, 116]⟩ W (by decide) hl
  replace O := hid O
  have hx : lowered ⟨#[114, 105, 103, 104, 116, 120]⟩ = ⟨#[114, 105, 103, 104, 116, 120]⟩ := by kernel_rfl
  have x0 : ((⟨#[114, 105, 103, 104, 116, 120]⟩ : ByteArray).toList == [116, 108]) = false := by kernel_rfl
  have x1 : ((⟨#[114, 105, 103, 104, 116, 120]⟩ : ByteArray).toList == [116, 111, 112, 108, 101, 102, 116]) = false := by kernel_rfl
  have x2 : ((⟨#[114, 105, 103, 104, 116, 120]⟩ : ByteArray).toList == [116, 99]) = false := by kernel_rfl
  have x3 : ((⟨#[114, 105, 103, 104, 116, 120]⟩ : ByteArray).toList == [116, 111, 112, 99, 101, 110, 116, 101, 114]) = false := by kernel_rfl
  have x4 : ((⟨#[114, 105, 103, 104, 116, 120]⟩ : ByteArray).toList == [116, 114]) = false := by kernel_rfl
  have x5 : ((⟨#[114, 105, 103, 104, 116, 120]⟩ : ByteArray).toList == [116, 111, 112, 114, 105, 103, 104, 116]) = false := by kernel_rfl
  have x6 : ((⟨#[114, 105, 103, 104, 116, 120]⟩ : ByteArray).toList == [108]) = false := by kernel_rfl
  have x7 : ((⟨#[114, 105, 103, 104, 116, 120]⟩ : ByteArray).toList == [108, 101, 102, 116]) = false := by kernel_rfl
  have x8 : ((⟨#[114, 105, 103, 104, 116, 120]⟩ : ByteArray).toList == [99]) = false := by kernel_rfl
  have x9 : ((⟨#[114, 105, 103, 104, 116, 120]⟩ : ByteArray).toList == [99, 101, 110, 116, 101, 114]) = false := by kernel_rfl
  have x10 : ((⟨#[114, 105, 103, 104, 116, 120]⟩ : ByteArray).toList == [114]) = false := by kernel_rfl
  have x11 : ((⟨#[114, 105, 103, 104, 116, 120]⟩ : ByteArray).toList == [114, 105, 103, 104, 116]) = false := by kernel_rfl
  have x12 : ((⟨#[114, 105, 103, 104, 116, 120]⟩ : ByteArray).toList == [98, 108]) = false := by kernel_rfl
  have x13 : ((⟨#[114, 105, 103, 104, 116, 120]⟩ : ByteArray).toList == [98, 111, 116, 116, 111, 109, 108, 101, 102, 116]) = false := by kernel_rfl
  have x14 : ((⟨#[114, 105, 103, 104, 116, 120]⟩ : ByteArray).toList == [98, 99]) = false := by kernel_rfl
  have x15 : ((⟨#[114, 105, 103, 104, 116, 120]⟩ : ByteArray).toList == [98, 111, 116, 116, 111, 109, 99, 101, 110, 116, 101, 114]) = false := by kernel_rfl
  have x16 : ((⟨#[114, 105, 103, 104, 116, 120]⟩ : ByteArray).toList == [98, 114]) = false := by kernel_rfl
  have x17 : ((⟨#[114, 105, 103, 104, 116, 120]⟩ : ByteArray).toList == [98, 111, 116, 116, 111, 109, 114, 105, 103, 104, 116]) = false := by kernel_rfl
  have hc : (⟨#[114, 105, 103, 104, 116]⟩ ++ ⟨#[120]⟩ : ByteArray) = ⟨#[114, 105, 103, 104, 116, 120]⟩ := by kernel_rfl
  have X : ∀ W, Calls Try.prog 25 #[.string (⟨#[114, 105, 103, 104, 116]⟩ ++ ⟨#[120]⟩)] W fun e w' => e = .returned (.tuple #[.int .i64 0, .bool false]) ∧ Below W.heap.size W w' := fun W => by rw [hc]; exact anchor_bad ⟨#[114, 105, 103, 104, 116, 120]⟩ ⟨#[114, 105, 103, 104, 116, 120]⟩ W (by decide) hx x0 x1 x2 x3 x4 x5 x6 x7 x8 x9 x10 x11 x12 x13 x14 x15 x16 x17
  replace X := hid X
  clear hc hl hx x0 x1 x2 x3 x4 x5 x6 x7 x8 x9 x10 x11 x12 x13 x14 x15 x16 x17
  go_enter Try.func8, Try.ntmps8
  go_wp2_with (first | (go_at_call 25; with_reducible refine (O.out _).mono ?_; rintro e w' ⟨rfl, hb1⟩) | (go_at_call 25; with_reducible refine (X.out _).mono ?_; rintro e w' ⟨rfl, hb2⟩) | (go_at_call 24; with_reducible refine (P.out _).mono ?_; rintro e w' ⟨rfl, hb3⟩) | (go_at_call 24; with_reducible refine (F.out _).mono ?_; rintro e w' ⟨rfl, hb4⟩) | (go_at_call 23; go_in))
  go_ret
  exact ⟨rfl, by repeat (first | (with_reducible exact Below.refl _ _) | (with_reducible refine below_step ?_ hb4) | (with_reducible refine below_step ?_ hb3) | (with_reducible refine below_step ?_ hb2) | (with_reducible refine below_step ?_ hb1) | (with_reducible refine below_step ?_ hb0) | (with_reducible apply pw_below_drewN) | (with_reducible apply below_alloc) | (with_reducible apply below_drew1))⟩

theorem anchorOf_511 (w : World) :
    Calls Try.prog 8 #[.int .i64 5, .bool true, .bool true] w fun e w' => e = .returned (.bool true) ∧ Below w.heap.size w w' := by
  have G : ∀ W, Calls Try.prog 10 #[.string ⟨#[114, 105, 103, 104, 116]⟩] W fun e w' => e = .returned (.string ⟨#[82, 73, 71, 72, 84]⟩) ∧ Below W.heap.size W w' := fun W => by have := upper_calls ⟨#[114, 105, 103, 104, 116]⟩ W (by decide); rw [show (⟨((⟨#[114, 105, 103, 104, 116]⟩ : ByteArray).data.toList.map great).toArray⟩ : ByteArray) = ⟨#[82, 73, 71, 72, 84]⟩ by kernel_rfl] at this; exact this
  replace G := hid G
  have hl : lowered ⟨#[82, 73, 71, 72, 84]⟩ = ⟨#[114, 105, 103, 104, 116]⟩ := by kernel_rfl
  have P := hid (fun W => position_ok_right W)
  have F := hid (fun W => position_ok_full W)
  have O : ∀ W, Calls Try.prog 25 #[.string ⟨#[82, 73, 71, 72, 84]⟩] W fun e w' => e = .returned (.tuple #[.int .i64 5, .bool true]) ∧ Below W.heap.size W w' := fun W => anchor_ok_right ⟨#[82, 73, 71, 72, 84]⟩ W (by decide) hl
  replace O := hid O
  have hx : lowered ⟨#[82, 73, 71, 72, 84, 120]⟩ = ⟨#[114, 105, 103, 104, 116, 120]⟩ := by kernel_rfl
  have x0 : ((⟨#[114, 105, 103, 104, 116, 120]⟩ : ByteArray).toList == [116, 108]) = false := by kernel_rfl
  have x1 : ((⟨#[114, 105, 103, 104, 116, 120]⟩ : ByteArray).toList == [116, 111, 112, 108, 101, 102, 116]) = false := by kernel_rfl
  have x2 : ((⟨#[114, 105, 103, 104, 116, 120]⟩ : ByteArray).toList == [116, 99]) = false := by kernel_rfl
  have x3 : ((⟨#[114, 105, 103, 104, 116, 120]⟩ : ByteArray).toList == [116, 111, 112, 99, 101, 110, 116, 101, 114]) = false := by kernel_rfl
  have x4 : ((⟨#[114, 105, 103, 104, 116, 120]⟩ : ByteArray).toList == [116, 114]) = false := by kernel_rfl
  have x5 : ((⟨#[114, 105, 103, 104, 116, 120]⟩ : ByteArray).toList == [116, 111, 112, 114, 105, 103, 104, 116]) = false := by kernel_rfl
  have x6 : ((⟨#[114, 105, 103, 104, 116, 120]⟩ : ByteArray).toList == [108]) = false := by kernel_rfl
  have x7 : ((⟨#[114, 105, 103, 104, 116, 120]⟩ : ByteArray).toList == [108, 101, 102, 116]) = false := by kernel_rfl
  have x8 : ((⟨#[114, 105, 103, 104, 116, 120]⟩ : ByteArray).toList == [99]) = false := by kernel_rfl
  have x9 : ((⟨#[114, 105, 103, 104, 116, 120]⟩ : ByteArray).toList == [99, 101, 110, 116, 101, 114]) = false := by kernel_rfl
  have x10 : ((⟨#[114, 105, 103, 104, 116, 120]⟩ : ByteArray).toList == [114]) = false := by kernel_rfl
  have x11 : ((⟨#[114, 105, 103, 104, 116, 120]⟩ : ByteArray).toList == [114, 105, 103, 104, 116]) = false := by kernel_rfl
  have x12 : ((⟨#[114, 105, 103, 104, 116, 120]⟩ : ByteArray).toList == [98, 108]) = false := by kernel_rfl
  have x13 : ((⟨#[114, 105, 103, 104, 116, 120]⟩ : ByteArray).toList == [98, 111, 116, 116, 111, 109, 108, 101, 102, 116]) = false := by kernel_rfl
  have x14 : ((⟨#[114, 105, 103, 104, 116, 120]⟩ : ByteArray).toList == [98, 99]) = false := by kernel_rfl
  have x15 : ((⟨#[114, 105, 103, 104, 116, 120]⟩ : ByteArray).toList == [98, 111, 116, 116, 111, 109, 99, 101, 110, 116, 101, 114]) = false := by kernel_rfl
  have x16 : ((⟨#[114, 105, 103, 104, 116, 120]⟩ : ByteArray).toList == [98, 114]) = false := by kernel_rfl
  have x17 : ((⟨#[114, 105, 103, 104, 116, 120]⟩ : ByteArray).toList == [98, 111, 116, 116, 111, 109, 114, 105, 103, 104, 116]) = false := by kernel_rfl
  have hc : (⟨#[82, 73, 71, 72, 84]⟩ ++ ⟨#[120]⟩ : ByteArray) = ⟨#[82, 73, 71, 72, 84, 120]⟩ := by kernel_rfl
  have X : ∀ W, Calls Try.prog 25 #[.string (⟨#[82, 73, 71, 72, 84]⟩ ++ ⟨#[120]⟩)] W fun e w' => e = .returned (.tuple #[.int .i64 0, .bool false]) ∧ Below W.heap.size W w' := fun W => by rw [hc]; exact anchor_bad ⟨#[82, 73, 71, 72, 84, 120]⟩ ⟨#[114, 105, 103, 104, 116, 120]⟩ W (by decide) hx x0 x1 x2 x3 x4 x5 x6 x7 x8 x9 x10 x11 x12 x13 x14 x15 x16 x17
  replace X := hid X
  clear hc hl hx x0 x1 x2 x3 x4 x5 x6 x7 x8 x9 x10 x11 x12 x13 x14 x15 x16 x17
  go_enter Try.func8, Try.ntmps8
  go_wp2_with (first | (go_at_call 10; with_reducible refine (G.out _).mono ?_; rintro e w' ⟨rfl, hb0⟩) | (go_at_call 25; with_reducible refine (O.out _).mono ?_; rintro e w' ⟨rfl, hb1⟩) | (go_at_call 25; with_reducible refine (X.out _).mono ?_; rintro e w' ⟨rfl, hb2⟩) | (go_at_call 24; with_reducible refine (P.out _).mono ?_; rintro e w' ⟨rfl, hb3⟩) | (go_at_call 24; with_reducible refine (F.out _).mono ?_; rintro e w' ⟨rfl, hb4⟩) | (go_at_call 23; go_in))
  go_ret
  exact ⟨rfl, by repeat (first | (with_reducible exact Below.refl _ _) | (with_reducible refine below_step ?_ hb4) | (with_reducible refine below_step ?_ hb3) | (with_reducible refine below_step ?_ hb2) | (with_reducible refine below_step ?_ hb1) | (with_reducible refine below_step ?_ hb0) | (with_reducible apply pw_below_drewN) | (with_reducible apply below_alloc) | (with_reducible apply below_drew1))⟩

end Go.Proofs.Ytmngibfakkfnnaa
