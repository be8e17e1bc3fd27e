/-
The law FnAnchorOf: the law's own function walked, word by word. Conditions: none.
-/
import Derived.Test.YtmngibfakkfnnaaC4
namespace Go.Proofs.Ytmngibfakkfnnaa
open Go.RowKit Go.ChangeShapes Go.Proofs.YtmngibfakkfnnaaW.PrintWords

theorem anchorOf_000 (w : World) :
    Calls Try.prog 8 #[.int .i64 0, .bool false, .bool false] w fun e w' => e = .returned (.bool true) ∧ Below w.heap.size w w' := by
  have hl : lowered ⟨#[116, 108]⟩ = ⟨#[116, 108]⟩ := by kernel_rfl
  have P := hid (fun W => position_ok_tl W)
  have F := hid (fun W => position_ok_full W)
  have O : ∀ W, Calls Try.prog 25 #[.string ⟨#[116, 108]⟩] W fun e w' => e = .returned (.tuple #[.int .i64 0, .bool true]) ∧ Below W.heap.size W w' := fun W => anchor_ok_tl ⟨#[116, 108]⟩ W (by decide) hl
  replace O := hid O
  have hx : lowered ⟨#[116, 108, 120]⟩ = ⟨#[116, 108, 120]⟩ := by kernel_rfl
  have x0 : ((⟨#[116, 108, 120]⟩ : ByteArray).toList == [116, 108]) = false := by kernel_rfl
  have x1 : ((⟨#[116, 108, 120]⟩ : ByteArray).toList == [116, 111, 112, 108, 101, 102, 116]) = false := by kernel_rfl
  have x2 : ((⟨#[116, 108, 120]⟩ : ByteArray).toList == [116, 99]) = false := by kernel_rfl
  have x3 : ((⟨#[116, 108, 120]⟩ : ByteArray).toList == [116, 111, 112, 99, 101, 110, 116, 101, 114]) = false := by kernel_rfl
  have x4 : ((⟨#[116, 108, 120]⟩ : ByteArray).toList == [116, 114]) = false := by kernel_rfl
  have x5 : ((⟨#[116, 108, 120]⟩ : ByteArray).toList == [116, 111, 112, 114, 105, 103, 104, 116]) = false := by kernel_rfl
  have x6 : ((⟨#[116, 108, 120]⟩ : ByteArray).toList == [108]) = false := by kernel_rfl
  have x7 : ((⟨#[116, 108, 120]⟩ : ByteArray).toList == [108, 101, 102, 116]) = false := by kernel_rfl
  have x8 : ((⟨#[116, 108, 120]⟩ : ByteArray).toList == [99]) = false := by kernel_rfl
  have x9 : ((⟨#[116, 108, 120]⟩ : ByteArray).toList == [99, 101, 110, 116, 101, 114]) = false := by kernel_rfl
  have x10 : ((⟨#[116, 108, 120]⟩ : ByteArray).toList == [114]) = false := by kernel_rfl
  have x11 : ((⟨#[116, 108, 120]⟩ : ByteArray).toList == [114, 105, 103, 104, 116]) = false := by kernel_rfl
  have x12 : ((⟨#[116, 108, 120]⟩ : ByteArray).toList == [98, 108]) = false := by kernel_rfl
  have x13 : ((⟨#[116, 108, 120]⟩ : ByteArray).toList == [98, 111, 116, 116, 111, 109, 108, 101, 102, 116]) = false := by kernel_rfl
  have x14 : ((⟨#[116, 108, 120]⟩ : ByteArray).toList == [98, 99]) = false := by kernel_rfl
  have x15 : ((⟨#[116, 108, 120]⟩ : ByteArray).toList == [98, 111, 116, 116, 111, 109, 99, 101, 110, 116, 101, 114]) = false := by kernel_rfl
  have x16 : ((⟨#[116, 108, 120]⟩ : ByteArray).toList == [98, 114]) = false := by kernel_rfl
  have x17 : ((⟨#[116, 108, 120]⟩ : ByteArray).toList == [98, 111, 116, 116, 111, 109, 114, 105, 103, 104, 116]) = false := by kernel_rfl
  have hc : (⟨#[116, 108]⟩ ++ ⟨#[120]⟩ : ByteArray) = ⟨#[116, 108, 120]⟩ := by kernel_rfl
  have X : ∀ W, Calls Try.prog 25 #[.string (⟨#[116, 108]⟩ ++ ⟨#[120]⟩)] W fun e w' => e = .returned (.tuple #[.int .i64 0, .bool false]) ∧ Below W.heap.size W w' := fun W => by rw [hc]; exact anchor_bad ⟨#[116, 108, 120]⟩ ⟨#[116, 108, 120]⟩ W (by decide) hx x0 x1 x2 x3 x4 x5 x6 x7 x8 x9 x10 x11 x12 x13 x14 x15 x16 x17
  replace X := hid X
  clear hc hl hx x0 x1 x2 x3 x4 x5 x6 x7 x8 x9 x10 x11 x12 x13 x14 x15 x16 x17
  go_enter Try.func8, Try.ntmps8
  go_wp2_with (first | (go_at_call 25; with_reducible refine (O.out _).mono ?_; rintro e w' ⟨rfl, hb1⟩) | (go_at_call 25; with_reducible refine (X.out _).mono ?_; rintro e w' ⟨rfl, hb2⟩) | (go_at_call 24; with_reducible refine (P.out _).mono ?_; rintro e w' ⟨rfl, hb3⟩) | (go_at_call 24; with_reducible refine (F.out _).mono ?_; rintro e w' ⟨rfl, hb4⟩) | (go_at_call 23; go_in))
  go_ret
  exact ⟨rfl, by repeat (first | (with_reducible exact Below.refl _ _) | (with_reducible refine below_step ?_ hb4) | (with_reducible refine below_step ?_ hb3) | (with_reducible refine below_step ?_ hb2) | (with_reducible refine below_step ?_ hb1) | (with_reducible refine below_step ?_ hb0) | (with_reducible apply pw_below_drewN) | (with_reducible apply below_alloc) | (with_reducible apply below_drew1))⟩

theorem anchorOf_001 (w : World) :
    Calls Try.prog 8 #[.int .i64 0, .bool false, .bool true] w fun e w' => e = .returned (.bool true) ∧ Below w.heap.size w w' := by
  have G : ∀ W, Calls Try.prog 10 #[.string ⟨#[116, 108]⟩] W fun e w' => e = .returned (.string ⟨#[84, 76]⟩) ∧ Below W.heap.size W w' := fun W => by have := upper_calls ⟨#[116, 108]⟩ W (by decide); rw [show (⟨((⟨#[116, 108]⟩ : ByteArray).data.toList.map great).toArray⟩ : ByteArray) = ⟨#[84, 76]⟩ by kernel_rfl] at this; exact this
  replace G := hid G
  have hl : lowered ⟨#[84, 76]⟩ = ⟨#[116, 108]⟩ := by kernel_rfl
  have P := hid (fun W => position_ok_tl W)
  have F := hid (fun W => position_ok_full W)
  have O : ∀ W, Calls Try.prog 25 #[.string ⟨#[84, 76]⟩] W fun e w' => e = .returned (.tuple #[.int .i64 0, .bool true]) ∧ Below W.heap.size W w' := fun W => anchor_ok_tl ⟨#[84, 76]⟩ W (by decide) hl
  replace O := hid O
  have hx : lowered ⟨#[84, 76, 120]⟩ = ⟨#[116, 108, 120]⟩ := by kernel_rfl
  have x0 : ((⟨#[116, 108, 120]⟩ : ByteArray).toList == [116, 108]) = false := by kernel_rfl
  have x1 : ((⟨#[116, 108, 120]⟩ : ByteArray).toList == [116, 111, 112, 108, 101, 102, 116]) = false := by kernel_rfl
  have x2 : ((⟨#[116, 108, 120]⟩ : ByteArray).toList == [116, 99]) = false := by kernel_rfl
  have x3 : ((⟨#[116, 108, 120]⟩ : ByteArray).toList == [116, 111, 112, 99, 101, 110, 116, 101, 114]) = false := by kernel_rfl
  have x4 : ((⟨#[116, 108, 120]⟩ : ByteArray).toList == [116, 114]) = false := by kernel_rfl
  have x5 : ((⟨#[116, 108, 120]⟩ : ByteArray).toList == [116, 111, 112, 114, 105, 103, 104, 116]) = false := by kernel_rfl
  have x6 : ((⟨#[116, 108, 120]⟩ : ByteArray).toList == [108]) = false := by kernel_rfl
  have x7 : ((⟨#[116, 108, 120]⟩ : ByteArray).toList == [108, 101, 102, 116]) = false := by kernel_rfl
  have x8 : ((⟨#[116, 108, 120]⟩ : ByteArray).toList == [99]) = false := by kernel_rfl
  have x9 : ((⟨#[116, 108, 120]⟩ : ByteArray).toList == [99, 101, 110, 116, 101, 114]) = false := by kernel_rfl
  have x10 : ((⟨#[116, 108, 120]⟩ : ByteArray).toList == [114]) = false := by kernel_rfl
  have x11 : ((⟨#[116, 108, 120]⟩ : ByteArray).toList == [114, 105, 103, 104, 116]) = false := by kernel_rfl
  have x12 : ((⟨#[116, 108, 120]⟩ : ByteArray).toList == [98, 108]) = false := by kernel_rfl
  have x13 : ((⟨#[116, 108, 120]⟩ : ByteArray).toList == [98, 111, 116, 116, 111, 109, 108, 101, 102, 116]) = false := by kernel_rfl
  have x14 : ((⟨#[116, 108, 120]⟩ : ByteArray).toList == [98, 99]) = false := by kernel_rfl
  have x15 : ((⟨#[116, 108, 120]⟩ : ByteArray).toList == [98, 111, 116, 116, 111, 109, 99, 101, 110, 116, 101, 114]) = false := by kernel_rfl
  have x16 : ((⟨#[116, 108, 120]⟩ : ByteArray).toList == [98, 114]) = false := by kernel_rfl
  have x17 : ((⟨#[116, 108, 120]⟩ : ByteArray).toList == [98, 111, 116, 116, 111, 109, 114, 105, 103, 104, 116]) = false := by kernel_rfl
  have hc : (⟨#[84, 76]⟩ ++ ⟨#[120]⟩ : ByteArray) = ⟨#[84, 76, 120]⟩ := by kernel_rfl
  have X : ∀ W, Calls Try.prog 25 #[.string (⟨#[84, 76]⟩ ++ ⟨#[120]⟩)] W fun e w' => e = .returned (.tuple #[.int .i64 0, .bool false]) ∧ Below W.heap.size W w' := fun W => by rw [hc]; exact anchor_bad ⟨#[84, 76, 120]⟩ ⟨#[116, 108, 120]⟩ W (by decide) hx x0 x1 x2 x3 x4 x5 x6 x7 x8 x9 x10 x11 x12 x13 x14 x15 x16 x17
  replace X := hid X
  clear hc hl hx x0 x1 x2 x3 x4 x5 x6 x7 x8 x9 x10 x11 x12 x13 x14 x15 x16 x17
  go_enter Try.func8, Try.ntmps8
  go_wp2_with (first | (go_at_call 10; with_reducible refine (G.out _).mono ?_; rintro e w' ⟨rfl, hb0⟩) | (go_at_call 25; with_reducible refine (O.out _).mono ?_; rintro e w' ⟨rfl, hb1⟩) | (go_at_call 25; with_reducible refine (X.out _).mono ?_; rintro e w' ⟨rfl, hb2⟩) | (go_at_call 24; with_reducible refine (P.out _).mono ?_; rintro e w' ⟨rfl, hb3⟩) | (go_at_call 24; with_reducible refine (F.out _).mono ?_; rintro e w' ⟨rfl, hb4⟩) | (go_at_call 23; go_in))
  go_ret
  exact ⟨rfl, by repeat (first | (with_reducible exact Below.refl _ _) | (with_reducible refine below_step ?_ hb4) | (with_reducible refine below_step ?_ hb3) | (with_reducible refine below_step ?_ hb2) | (with_reducible refine below_step ?_ hb1) | (with_reducible refine below_step ?_ hb0) | (with_reducible apply pw_below_drewN) | (with_reducible apply below_alloc) | (with_reducible apply below_drew1))⟩

theorem anchorOf_010 (w : World) :
    Calls Try.prog 8 #[.int .i64 0, .bool true, .bool false] w fun e w' => e = .returned (.bool true) ∧ Below w.heap.size w w' := by
  have hl : lowered ⟨#[116, 111, 112, 108, 101, 102, 116]⟩ = ⟨#[116, 111, 112, 108, 101, 102, 116]⟩ := by kernel_rfl
  have P := hid (fun W => position_ok_topleft W)
  have F := hid (fun W => position_ok_full W)
  have O : ∀ W, Calls Try.prog 25 #[.string ⟨#[116, 111, 112, 108, 101, 102, 116]⟩] W fun e w' => e = .returned (.tuple #[.int .i64 0, .bool true]) ∧ Below W.heap.size W w' := fun W => anchor_ok_topleft ⟨#[116, 111, 112, 108, 101, 102, 116]⟩ W (by decide) hl
  replace O := hid O
  have hx : lowered ⟨#[116, 111, 112, 108, 101, 102, 116, 120]⟩ = ⟨#[116, 111, 112, 108, 101, 102, 116, 120]⟩ := by kernel_rfl
  have x0 : ((⟨#[116, 111, 112, 108, 101, 102, 116, 120]⟩ : ByteArray).toList == [116, 108]) = false := by kernel_rfl
  have x1 : ((⟨#[116, 111, 112, 108, 101, 102, 116, 120]⟩ : ByteArray).toList == [116, 111, 112, 108, 101, 102, 116]) = false := by kernel_rfl
  have x2 : ((⟨#[116, 111, 112, 108, 101, 102, 116, 120]⟩ : ByteArray).toList == [116, 99]) = false := by kernel_rfl
  have x3 : ((⟨#[116, 111, 112, 108, 101, 102, 116, 120]⟩ : ByteArray).toList == [116, 111, 112, 99, 101, 110, 116, 101, 114]) = false := by kernel_rfl
  have x4 : ((⟨#[116, 111, 112, 108, 101, 102, 116, 120]⟩ : ByteArray).toList == [116, 114]) = false := by kernel_rfl
  have x5 : ((⟨#[116, 111, 112, 108, 101, 102, 116, 120]⟩ : ByteArray).toList == [116, 111, 112, 114, 105, 103, 104, 116]) = false := by kernel_rfl
  have x6 : ((⟨#[116, 111, 112, 108, 101, 102, 116, 120]⟩ : ByteArray).toList == [108]) = false := by kernel_rfl
  have x7 : ((⟨#[116, 111, 112, 108, 101, 102, 116, 120]⟩ : ByteArray).toList == [108, 101, 102, 116]) = false := by kernel_rfl
  have x8 : ((⟨#[116, 111, 112, 108, 101, 102, 116, 120]⟩ : ByteArray).toList == [99]) = false := by kernel_rfl
  have x9 : ((⟨#[116, 111, 112, 108, 101, 102, 116, 120]⟩ : ByteArray).toList == [99, 101, 110, 116, 101, 114]) = false := by kernel_rfl
  have x10 : ((⟨#[116, 111, 112, 108, 101, 102, 116, 120]⟩ : ByteArray).toList == [114]) = false := by kernel_rfl
  have x11 : ((⟨#[116, 111, 112, 108, 101, 102, 116, 120]⟩ : ByteArray).toList == [114, 105, 103, 104, 116]) = false := by kernel_rfl
  have x12 : ((⟨#[116, 111, 112, 108, 101, 102, 116, 120]⟩ : ByteArray).toList == [98, 108]) = false := by kernel_rfl
  have x13 : ((⟨#[116, 111, 112, 108, 101, 102, 116, 120]⟩ : ByteArray).toList == [98, 111, 116, 116, 111, 109, 108, 101, 102, 116]) = false := by kernel_rfl
  have x14 : ((⟨#[116, 111, 112, 108, 101, 102, 116, 120]⟩ : ByteArray).toList == [98, 99]) = false := by kernel_rfl
  have x15 : ((⟨#[116, 111, 112, 108, 101, 102, 116, 120]⟩ : ByteArray).toList == [98, 111, 116, 116, 111, 109, 99, 101, 110, 116, 101, 114]) = false := by kernel_rfl
  have x16 : ((⟨#[116, 111, 112, 108, 101, 102, 116, 120]⟩ : ByteArray).toList == [98, 114]) = false := by kernel_rfl
  have x17 : ((⟨#[116, 111, 112, 108, 101, 102, 116, 120]⟩ : ByteArray).toList == [98, 111, 116, 116, 111, 109, 114, 105, 103, 104, 116]) = false := by kernel_rfl
  have hc : (⟨#[116, 111, 112, 108, 101, 102, 116]⟩ ++ ⟨#[120]⟩ : ByteArray) = ⟨#[116, 111, 112, 108, 101, 102, 116, 120]⟩ := by kernel_rfl
  have X : ∀ W, Calls Try.prog 25 #[.string (⟨#[116, 111, 112, 108, 101, 102, 116]⟩ ++ ⟨#[120]⟩)] W fun e w' => e = .returned (.tuple #[.int .i64 0, .bool false]) ∧ Below W.heap.size W w' := fun W => by rw [hc]; exact anchor_bad ⟨#[116, 111, 112, 108, 101, 102, 116, 120]⟩ ⟨#[116, 111, 112, 108, 101, 102, 116, 120]⟩ W (by decide) hx x0 x1 x2 x3 x4 x5 x6 x7 x8 x9 x10 x11 x12 x13 x14 x15 x16 x17
  replace X := hid X
  clear hc hl hx x0 x1 x2 x3 x4 x5 x6 x7 x8 x9 x10 x11 x12 x13 x14 x15 x16 x17
  go_enter Try.func8, Try.ntmps8
  go_wp2_with (first | (go_at_call 25; with_reducible refine (O.out _).mono ?_; rintro e w' ⟨rfl, hb1⟩) | (go_at_call 25; with_reducible refine (X.out _).mono ?_; rintro e w' ⟨rfl, hb2⟩) | (go_at_call 24; with_reducible refine (P.out _).mono ?_; rintro e w' ⟨rfl, hb3⟩) | (go_at_call 24; with_reducible refine (F.out _).mono ?_; rintro e w' ⟨rfl, hb4⟩) | (go_at_call 23; go_in))
  go_ret
  exact ⟨rfl, by repeat (first | (with_reducible exact Below.refl _ _) | (with_reducible refine below_step ?_ hb4) | (with_reducible refine below_step ?_ hb3) | (with_reducible refine below_step ?_ hb2) | (with_reducible refine below_step ?_ hb1) | (with_reducible refine below_step ?_ hb0) | (with_reducible apply pw_below_drewN) | (with_reducible apply below_alloc) | (with_reducible apply below_drew1))⟩

theorem anchorOf_011 (w : World) :
    Calls Try.prog 8 #[.int .i64 0, .bool true, .bool true] w fun e w' => e = .returned (.bool true) ∧ Below w.heap.size w w' := by
  have G : ∀ W, Calls Try.prog 10 #[.string ⟨#[116, 111, 112, 108, 101, 102, 116]⟩] W fun e w' => e = .returned (.string ⟨#[84, 79, 80, 76, 69, 70, 84]⟩) ∧ Below W.heap.size W w' := fun W => by have := upper_calls ⟨#[116, 111, 112, 108, 101, 102, 116]⟩ W (by decide); rw [show (⟨((⟨#[116, 111, 112, 108, 101, 102, 116]⟩ : ByteArray).data.toList.map great).toArray⟩ : ByteArray) = ⟨#[84, 79, 80, 76, 69, 70, 84]⟩ by kernel_rfl] at this; exact this
  replace G := hid G
  have hl : lowered ⟨#[84, 79, 80, 76, 69, 70, 84]⟩ = ⟨#[116, 111, 112, 108, 101, 102, 116]⟩ := by kernel_rfl
  have P := hid (fun W => position_ok_topleft W)
  have F := hid (fun W => position_ok_full W)
  have O : ∀ W, Calls Try.prog 25 #[.string ⟨#[84, 79, 80, 76, 69, 70, 84]⟩] W fun e w' => e = .returned (.tuple #[.int .i64 0, .bool true]) ∧ Below W.heap.size W w' := fun W => anchor_ok_topleft ⟨#[84, 79, 80, 76, 69, 70, 84]⟩ W (by decide) hl
  replace O := hid O
  have hx : lowered ⟨#[84, 79, 80, 76, 69, 70, 84, 120]⟩ = ⟨#[116, 111, 112, 108, 101, 102, 116, 120]⟩ := by kernel_rfl
  have x0 : ((⟨#[116, 111, 112, 108, 101, 102, 116, 120]⟩ : ByteArray).toList == [116, 108]) = false := by kernel_rfl
  have x1 : ((⟨#[116, 111, 112, 108, 101, 102, 116, 120]⟩ : ByteArray).toList == [116, 111, 112, 108, 101, 102, 116]) = false := by kernel_rfl
  have x2 : ((⟨#[116, 111, 112, 108, 101, 102, 116, 120]⟩ : ByteArray).toList == [116, 99]) = false := by kernel_rfl
  have x3 : ((⟨#[116, 111, 112, 108, 101, 102, 116, 120]⟩ : ByteArray).toList == [116, 111, 112, 99, 101, 110, 116, 101, 114]) = false := by kernel_rfl
  have x4 : ((⟨#[116, 111, 112, 108, 101, 102, 116, 120]⟩ : ByteArray).toList == [116, 114]) = false := by kernel_rfl
  have x5 : ((⟨#[116, 111, 112, 108, 101, 102, 116, 120]⟩ : ByteArray).toList == [116, 111, 112, 114, 105, 103, 104, 116]) = false := by kernel_rfl
  have x6 : ((⟨#[116, 111, 112, 108, 101, 102, 116, 120]⟩ : ByteArray).toList == [108]) = false := by kernel_rfl
  have x7 : ((⟨#[116, 111, 112, 108, 101, 102, 116, 120]⟩ : ByteArray).toList == [108, 101, 102, 116]) = false := by kernel_rfl
  have x8 : ((⟨#[116, 111, 112, 108, 101, 102, 116, 120]⟩ : ByteArray).toList == [99]) = false := by kernel_rfl
  have x9 : ((⟨#[116, 111, 112, 108, 101, 102, 116, 120]⟩ : ByteArray).toList == [99, 101, 110, 116, 101, 114]) = false := by kernel_rfl
  have x10 : ((⟨#[116, 111, 112, 108, 101, 102, 116, 120]⟩ : ByteArray).toList == [114]) = false := by kernel_rfl
  have x11 : ((⟨#[116, 111, 112, 108, 101, 102, 116, 120]⟩ : ByteArray).toList == [114, 105, 103, 104, 116]) = false := by kernel_rfl
  have x12 : ((⟨#[116, 111, 112, 108, 101, 102, 116, 120]⟩ : ByteArray).toList == [98, 108]) = false := by kernel_rfl
  have x13 : ((⟨#[116, 111, 112, 108, 101, 102, 116, 120]⟩ : ByteArray).toList == [98, 111, 116, 116, 111, 109, 108, 101, 102, 116]) = false := by kernel_rfl
  have x14 : ((⟨#[116, 111, 112, 108, 101, 102, 116, 120]⟩ : ByteArray).toList == [98, 99]) = false := by kernel_rfl
  have x15 : ((⟨#[116, 111, 112, 108, 101, 102, 116, 120]⟩ : ByteArray).toList == [98, 111, 116, 116, 111, 109, 99, 101, 110, 116, 101, 114]) = false := by kernel_rfl
  have x16 : ((⟨#[116, 111, 112, 108, 101, 102, 116, 120]⟩ : ByteArray).toList == [98, 114]) = false := by kernel_rfl
  have x17 : ((⟨#[116, 111, 112, 108, 101, 102, 116, 120]⟩ : ByteArray).toList == [98, 111, 116, 116, 111, 109, 114, 105, 103, 104, 116]) = false := by kernel_rfl
  have hc : (⟨#[84, 79, 80, 76, 69, 70, 84]⟩ ++ ⟨#[120]⟩ : ByteArray) = ⟨#[84, 79, 80, 76, 69, 70, 84, 120]⟩ := by kernel_rfl
  have X : ∀ W, Calls Try.prog 25 #[.string (⟨#[84, 79, 80, 76, 69, 70, 84]⟩ ++ ⟨#[120]⟩)] W fun e w' => e = .returned (.tuple #[.int .i64 0, .bool false]) ∧ Below W.heap.size W w' := fun W => by rw [hc]; exact anchor_bad ⟨#[84, 79, 80, 76, 69, 70, 84, 120]⟩ ⟨#[116, 111, 112, 108, 101, 102, 116, 120]⟩ W (by decide) hx x0 x1 x2 x3 x4 x5 x6 x7 x8 x9 x10 x11 x12 x13 x14 x15 x16 x17
  replace X := hid X
  clear hc hl hx x0 x1 x2 x3 x4 x5 x6 x7 x8 x9 x10 x11 x12 x13 x14 x15 x16 x17
  go_enter Try.func8, Try.ntmps8
  go_wp2_with (first | (go_at_call 10; with_reducible refine (G.out _).mono ?_; rintro e w' ⟨rfl, hb0⟩) | (go_at_call 25; with_reducible refine (O.out _).mono ?_; rintro e w' ⟨rfl, hb1⟩) | (go_at_call 25; with_reducible refine (X.out _).mono ?_; rintro e w' ⟨rfl, hb2⟩) | (go_at_call 24; with_reducible refine (P.out _).mono ?_; rintro e w' ⟨rfl, hb3⟩) | (go_at_call 24; with_reducible refine (F.out _).mono ?_; rintro e w' ⟨rfl, hb4⟩) | (go_at_call 23; go_in))
  go_ret
  exact ⟨rfl, by repeat (first | (with_reducible exact Below.refl _ _) | (with_reducible refine below_step ?_ hb4) | (with_reducible refine below_step ?_ hb3) | (with_reducible refine below_step ?_ hb2) | (with_reducible refine below_step ?_ hb1) | (with_reducible refine below_step ?_ hb0) | (with_reducible apply pw_below_drewN) | (with_reducible apply below_alloc) | (with_reducible apply below_drew1))⟩

theorem anchorOf_100 (w : World) :
    Calls Try.prog 8 #[.int .i64 1, .bool false, .bool false] w fun e w' => e = .returned (.bool true) ∧ Below w.heap.size w w' := by
  have hl : lowered ⟨#[116, 99]⟩ = ⟨#[116, 99]⟩ := by kernel_rfl
  have P := hid (fun W => position_ok_tc W)
  have F := hid (fun W => position_ok_full W)
  have O : ∀ W, Calls Try.prog 25 #[.string ⟨#[116, 99]⟩] W fun e w' => e = .returned (.tuple #[.int .i64 1, .bool true]) ∧ Below W.heap.size W w' := fun W => anchor_ok_tc ⟨#[116, 99]⟩ W (by decide) hl
  replace O := hid O
  have hx : lowered ⟨#[116, 99, 120]⟩ = ⟨#[116, 99, 120]⟩ := by kernel_rfl
  have x0 : ((⟨#[116, 99, 120]⟩ : ByteArray).toList == [116, 108]) = false := by kernel_rfl
  have x1 : ((⟨#[116, 99, 120]⟩ : ByteArray).toList == [116, 111, 112, 108, 101, 102, 116]) = false := by kernel_rfl
  have x2 : ((⟨#[116, 99, 120]⟩ : ByteArray).toList == [116, 99]) = false := by kernel_rfl
  have x3 : ((⟨#[116, 99, 120]⟩ : ByteArray).toList == [116, 111, 112, 99, 101, 110, 116, 101, 114]) = false := by kernel_rfl
  have x4 : ((⟨#[116, 99, 120]⟩ : ByteArray).toList == [116, 114]) = false := by kernel_rfl
  have x5 : ((⟨#[116, 99, 120]⟩ : ByteArray).toList == [116, 111, 112, 114, 105, 103, 104, 116]) = false := by kernel_rfl
  have x6 : ((⟨#[116, 99, 120]⟩ : ByteArray).toList == [108]) = false := by kernel_rfl
  have x7 : ((⟨#[116, 99, 120]⟩ : ByteArray).toList == [108, 101, 102, 116]) = false := by kernel_rfl
  have x8 : ((⟨#[116, 99, 120]⟩ : ByteArray).toList == [99]) = false := by kernel_rfl
  have x9 : ((⟨#[116, 99, 120]⟩ : ByteArray).toList == [99, 101, 110, 116, 101, 114]) = false := by kernel_rfl
  have x10 : ((⟨#[116, 99, 120]⟩ : ByteArray).toList == [114]) = false := by kernel_rfl
  have x11 : ((⟨#[116, 99, 120]⟩ : ByteArray).toList == [114, 105, 103, 104, 116]) = false := by kernel_rfl
  have x12 : ((⟨#[116, 99, 120]⟩ : ByteArray).toList == [98, 108]) = false := by kernel_rfl
  have x13 : ((⟨#[116, 99, 120]⟩ : ByteArray).toList == [98, 111, 116, 116, 111, 109, 108, 101, 102, 116]) = false := by kernel_rfl
  have x14 : ((⟨#[116, 99, 120]⟩ : ByteArray).toList == [98, 99]) = false := by kernel_rfl
  have x15 : ((⟨#[116, 99, 120]⟩ : ByteArray).toList == [98, 111, 116, 116, 111, 109, 99, 101, 110, 116, 101, 114]) = false := by kernel_rfl
  have x16 : ((⟨#[116, 99, 120]⟩ : ByteArray).toList == [98, 114]) = false := by kernel_rfl
  have x17 : ((⟨#[116, 99, 120]⟩ : ByteArray).toList == [98, 111, 116, 116, 111, 109, 114, 105, 103, 104, 116]) = false := by kernel_rfl
  have hc : (⟨#[116, 99]⟩ ++ ⟨#[120]⟩ : ByteArray) = ⟨#[116, 99, 120]⟩ := by kernel_rfl
  have X : ∀ W, Calls Try.prog 25 #[.string (⟨#[116, 99]⟩ ++ ⟨#[120]⟩)] W fun e w' => e = .returned (.tuple #[.int .i64 0, .bool false]) ∧ Below W.heap.size W w' := fun W => by rw [hc]; exact anchor_bad ⟨#[116, 99, 120]⟩ ⟨#[116, 99, 120]⟩ W (by decide) hx x0 x1 x2 x3 x4 x5 x6 x7 x8 x9 x10 x11 x12 x13 x14 x15 x16 x17
  replace X := hid X
  clear hc hl hx x0 x1 x2 x3 x4 x5 x6 x7 x8 x9 x10 x11 x12 x13 x14 x15 x16 x17
  go_enter Try.func8, Try.ntmps8
  go_wp2_with (first | (go_at_call 25; with_reducible refine (O.out _).mono ?_; rintro e w' ⟨rfl, hb1⟩) | (go_at_call 25; with_reducible refine (X.out _).mono ?_; rintro e w' ⟨rfl, hb2⟩) | (go_at_call 24; with_reducible refine (P.out _).mono ?_; rintro e w' ⟨rfl, hb3⟩) | (go_at_call 24; with_reducible refine (F.out _).mono ?_; rintro e w' ⟨rfl, hb4⟩) | (go_at_call 23; go_in))
  go_ret
  exact ⟨rfl, by repeat (first | (with_reducible exact Below.refl _ _) | (with_reducible refine below_step ?_ hb4) | (with_reducible refine below_step ?_ hb3) | (with_reducible refine below_step ?_ hb2) | (with_reducible refine below_step ?_ hb1) | (with_reducible refine below_step ?_ hb0) | (with_reducible apply pw_below_drewN) | (with_reducible apply below_alloc) | (with_reducible apply below_drew1))⟩

theorem anchorOf_101 (w : World) :
    Calls Try.prog 8 #[.int .i64 1, .bool false, .bool true] w fun e w' => e = .returned (.bool true) ∧ Below w.heap.size w w' := by
  have G : ∀ W, Calls Try.prog 10 #[.string ⟨#[116, 99]⟩] W fun e w' => e = .returned (.string ⟨#[84, 67]⟩) ∧ Below W.heap.size W w' := fun W => by have := upper_calls ⟨#[116, 99]⟩ W (by decide); rw [show (⟨((⟨#[116, 99]⟩ : ByteArray).data.toList.map great).toArray⟩ : ByteArray) = ⟨#[84, 67]⟩ by kernel_rfl] at this; exact this
  replace G := hid G
  have hl : lowered ⟨#[84, 67]⟩ = ⟨#[116, 99]⟩ := by kernel_rfl
  have P := hid (fun W => position_ok_tc W)
  have F := hid (fun W => position_ok_full W)
  have O : ∀ W, Calls Try.prog 25 #[.string ⟨#[84, 67]⟩] W fun e w' => e = .returned (.tuple #[.int .i64 1, .bool true]) ∧ Below W.heap.size W w' := fun W => anchor_ok_tc ⟨#[84, 67]⟩ W (by decide) hl
  replace O := hid O
  have hx : lowered ⟨#[84, 67, 120]⟩ = ⟨#[116, 99, 120]⟩ := by kernel_rfl
  have x0 : ((⟨#[116, 99, 120]⟩ : ByteArray).toList == [116, 108]) = false := by kernel_rfl
  have x1 : ((⟨#[116, 99, 120]⟩ : ByteArray).toList == [116, 111, 112, 108, 101, 102, 116]) = false := by kernel_rfl
  have x2 : ((⟨#[116, 99, 120]⟩ : ByteArray).toList == [116, 99]) = false := by kernel_rfl
  have x3 : ((⟨#[116, 99, 120]⟩ : ByteArray).toList == [116, 111, 112, 99, 101, 110, 116, 101, 114]) = false := by kernel_rfl
  have x4 : ((⟨#[116, 99, 120]⟩ : ByteArray).toList == [116, 114]) = false := by kernel_rfl
  have x5 : ((⟨#[116, 99, 120]⟩ : ByteArray).toList == [116, 111, 112, 114, 105, 103, 104, 116]) = false := by kernel_rfl
  have x6 : ((⟨#[116, 99, 120]⟩ : ByteArray).toList == [108]) = false := by kernel_rfl
  have x7 : ((⟨#[116, 99, 120]⟩ : ByteArray).toList == [108, 101, 102, 116]) = false := by kernel_rfl
  have x8 : ((⟨#[116, 99, 120]⟩ : ByteArray).toList == [99]) = false := by kernel_rfl
  have x9 : ((⟨#[116, 99, 120]⟩ : ByteArray).toList == [99, 101, 110, 116, 101, 114]) = false := by kernel_rfl
  have x10 : ((⟨#[116, 99, 120]⟩ : ByteArray).toList == [114]) = false := by kernel_rfl
  have x11 : ((⟨#[116, 99, 120]⟩ : ByteArray).toList == [114, 105, 103, 104, 116]) = false := by kernel_rfl
  have x12 : ((⟨#[116, 99, 120]⟩ : ByteArray).toList == [98, 108]) = false := by kernel_rfl
  have x13 : ((⟨#[116, 99, 120]⟩ : ByteArray).toList == [98, 111, 116, 116, 111, 109, 108, 101, 102, 116]) = false := by kernel_rfl
  have x14 : ((⟨#[116, 99, 120]⟩ : ByteArray).toList == [98, 99]) = false := by kernel_rfl
  have x15 : ((⟨#[116, 99, 120]⟩ : ByteArray).toList == [98, 111, 116, 116, 111, 109, 99, 101, 110, 116, 101, 114]) = false := by kernel_rfl
  have x16 : ((⟨#[116, 99, 120]⟩ : ByteArray).toList == [98, 114]) = false := by kernel_rfl
  have x17 : ((⟨#[116, 99, 120]⟩ : ByteArray).toList == [98, 111, 116, 116, 111, 109, 114, 105, 103, 104, 116]) = false := by kernel_rfl
  have hc : (⟨#[84, 67]⟩ ++ ⟨#[120]⟩ : ByteArray) = ⟨#[84, 67, 120]⟩ := by kernel_rfl
  have X : ∀ W, Calls Try.prog 25 #[.string (⟨#[84, 67]⟩ ++ ⟨#[120]⟩)] W fun e w' => e = .returned (.tuple #[.int .i64 0, .bool false]) ∧ Below W.heap.size W w' := fun W => by rw [hc]; exact anchor_bad ⟨#[84, 67, 120]⟩ ⟨#[116, 99, 120]⟩ W (by decide) hx x0 x1 x2 x3 x4 x5 x6 x7 x8 x9 x10 x11 x12 x13 x14 x15 x16 x17
  replace X := hid X
  clear hc hl hx x0 x1 x2 x3 x4 x5 x6 x7 x8 x9 x10 x11 x12 x13 x14 x15 x16 x17
  go_enter Try.func8, Try.ntmps8
  go_wp2_with (first | (go_at_call 10; with_reducible refine (G.out _).mono ?_; rintro e w' ⟨rfl, hb0⟩) | (go_at_call 25; with_reducible refine (O.out _).mono ?_; rintro e w' ⟨rfl, hb1⟩) | (go_at_call 25; with_reducible refine (X.out _).mono ?_; rintro e w' ⟨rfl, hb2⟩) | (go_at_call 24; with_reducible refine (P.out _).mono ?_; rintro e w' ⟨rfl, hb3⟩) | (go_at_call 24; with_reducible refine (F.out _).mono ?_; rintro e w' ⟨rfl, hb4⟩) | (go_at_call 23; go_in))
  go_ret
  exact ⟨rfl, by repeat (first | (with_reducible exact Below.refl _ _) | (with_reducible refine below_step ?_ hb4) | (with_reducible refine below_step ?_ hb3) | (with_reducible refine below_step ?_ hb2) | (with_reducible refine below_step ?_ hb1) | (with_reducible refine below_step ?_ hb0) | (with_reducible apply pw_below_drewN) | (with_reducible apply below_alloc) | (with_reducible apply below_drew1))⟩

theorem anchorOf_110 (w : World) :
    Calls Try.prog 8 #[.int .i64 1, .bool true, .bool false] w fun e w' => e = .returned (.bool true) ∧ Below w.heap.size w w' := by
  have hl : lowered ⟨#[116, 111, 112, 99, 101, 110, 116, 101, 114]⟩ = ⟨#[116, 111, 112, 99, 101, 110, 116, 101, 114]⟩ := by kernel_rfl
  have P := hid (fun W => position_ok_topcenter W)
  have F := hid (fun W => position_ok_full W)
  have O : ∀ W, Calls Try.prog 25 #[.string ⟨#[116, 111, 112, 99, 101, 110, 116, 101, 114]⟩] W fun e w' => e = .returned (.tuple #[.int .i64 1, .bool true]) ∧ Below W.heap.size W w' := fun W => anchor_ok_topcenter ⟨#[116, 111, 112, 99, 101, 110, 116, 101, 114]⟩ W (by decide) hl
  replace O := hid O
  have hx : lowered ⟨#[116, 111, 112, 99, 101, 110, 116, 101, 114, 120]⟩ = ⟨#[116, 111, 112, 99, 101, 110, 116, 101, 114, 120]⟩ := by kernel_rfl
  have x0 : ((⟨#[116, 111, 112, 99, 101, 110, 116, 101, 114, 120]⟩ : ByteArray).toList == [116, 108]) = false := by kernel_rfl
  have x1 : ((⟨#[116, 111, 112, 99, 101, 110, 116, 101, 114, 120]⟩ : ByteArray).toList == [116, 111, 112, 108, 101, 102, 116]) = false := by kernel_rfl
  have x2 : ((⟨#[116, 111, 112, 99, 101, 110, 116, 101, 114, 120]⟩ : ByteArray).toList == [116, 99]) = false := by kernel_rfl
  have x3 : ((⟨#[116, 111, 112, 99, 101, 110, 116, 101, 114, 120]⟩ : ByteArray).toList == [116, 111, 112, 99, 101, 110, 116, 101, 114]) = false := by kernel_rfl
  have x4 : ((⟨#[116, 111, 112, 99, 101, 110, 116, 101, 114, 120]⟩ : ByteArray).toList == [116, 114]) = false := by kernel_rfl
  have x5 : ((⟨#[116, 111, 112, 99, 101, 110, 116, 101, 114, 120]⟩ : ByteArray).toList == [116, 111, 112, 114, 105, 103, 104, 116]) = false := by kernel_rfl
  have x6 : ((⟨#[116, 111, 112, 99, 101, 110, 116, 101, 114, 120]⟩ : ByteArray).toList == [108]) = false := by kernel_rfl
  have x7 : ((⟨#[116, 111, 112, 99, 101, 110, 116, 101, 114, 120]⟩ : ByteArray).toList == [108, 101, 102, 116]) = false := by kernel_rfl
  have x8 : ((⟨#[116, 111, 112, 99, 101, 110, 116, 101, 114, 120]⟩ : ByteArray).toList == [99]) = false := by kernel_rfl
  have x9 : ((⟨#[116, 111, 112, 99, 101, 110, 116, 101, 114, 120]⟩ : ByteArray).toList == [99, 101, 110, 116, 101, 114]) = false := by kernel_rfl
  have x10 : ((⟨#[116, 111, 112, 99, 101, 110, 116, 101, 114, 120]⟩ : ByteArray).toList == [114]) = false := by kernel_rfl
  have x11 : ((⟨#[116, 111, 112, 99, 101, 110, 116, 101, 114, 120]⟩ : ByteArray).toList == [114, 105, 103, 104, 116]) = false := by kernel_rfl
  have x12 : ((⟨#[116, 111, 112, 99, 101, 110, 116, 101, 114, 120]⟩ : ByteArray).toList == [98, 108]) = false := by kernel_rfl
  have x13 : ((⟨#[116, 111, 112, 99, 101, 110, 116, 101, 114, 120]⟩ : ByteArray).toList == [98, 111, 116, 116, 111, 109, 108, 101, 102, 116]) = false := by kernel_rfl
  have x14 : ((⟨#[116, 111, 112, 99, 101, 110, 116, 101, 114, 120]⟩ : ByteArray).toList == [98, 99]) = false := by kernel_rfl
  have x15 : ((⟨#[116, 111, 112, 99, 101, 110, 116, 101, 114, 120]⟩ : ByteArray).toList == [98, 111, 116, 116, 111, 109, 99, 101, 110, 116, 101, 114]) = false := by kernel_rfl
  have x16 : ((⟨#[116, 111, 112, 99, 101, 110, 116, 101, 114, 120]⟩ : ByteArray).toList == [98, 114]) = false := by kernel_rfl
  have x17 : ((⟨#[116, 111, 112, 99, 101, 110, 116, 101, 114, 120]⟩ : ByteArray).toList == [98, 111, 116, 116, 111, 109, 114, 105, 103, 104, 116]) = false := by kernel_rfl
  have hc : (⟨#[116, 111, 112, 99, 101, 110, 116, 101, 114]⟩ ++ ⟨#[120]⟩ : ByteArray) = ⟨#[116, 111, 112, 99, 101, 110, 116, 101, 114, 120]⟩ := by kernel_rfl
  have X : ∀ W, Calls Try.prog 25 #[.string (⟨#[116, 111, 112, 99, 101, 110, 116, 101, 114]⟩ ++ ⟨#[120]⟩)] W fun e w' => e = .returned (.tuple #[.int .i64 0, .bool false]) ∧ Below W.heap.size W w' := fun W => by rw [hc]; exact anchor_bad ⟨#[116, 111, 112, 99, 101, 110, 116, 101, 114, 120]⟩ ⟨#[116, 111, 112, 99, 101, 110, 116, 101, 114, 120]⟩ W (by decide) hx x0 x1 x2 x3 x4 x5 x6 x7 x8 x9 x10 x11 x12 x13 x14 x15 x16 x17
  replace X := hid X
  clear hc hl hx x0 x1 x2 x3 x4 x5 x6 x7 x8 x9 x10 x11 x12 x13 x14 x15 x16 x17
  go_enter Try.func8, Try.ntmps8
  go_wp2_with (first | (go_at_call 25; with_reducible refine (O.out _).mono ?_; rintro e w' ⟨rfl, hb1⟩) | (go_at_call 25; with_reducible refine (X.out _).mono ?_; rintro e w' ⟨rfl, hb2⟩) | (go_at_call 24; with_reducible refine (P.out _).mono ?_; rintro e w' ⟨rfl, hb3⟩) | (go_at_call 24; with_reducible refine (F.out _).mono ?_; rintro e w' ⟨rfl, hb4⟩) | (go_at_call 23; go_in))
  go_ret
  exact ⟨rfl, by repeat (first | (with_reducible exact Below.refl _ _) | (with_reducible refine below_step ?_ hb4) | (with_reducible refine below_step ?_ hb3) | (with_reducible refine below_step ?_ hb2) | (with_reducible refine below_step ?_ hb1) | (with_reducible refine below_step ?_ hb0) | (with_reducible apply pw_below_drewN) | (with_reducible apply below_alloc) | (with_reducible apply below_drew1))⟩

theorem anchorOf_111 (w : World) :
    Calls Try.prog 8 #[.int .i64 1, .bool true, .bool true] w fun e w' => e = .returned (.bool true) ∧ Below w.heap.size w w' := by
  have G : ∀ W, Calls Try.prog 10 #[.string ⟨#[116, 111, 112, 99, 101, 110, 116, 101, 114]⟩] W fun e w' => e = .returned (.string ⟨#[84, 79, 80, 67, 69, 78, 84, 69, 82]⟩) ∧ Below W.heap.size W w' := fun W => by have := upper_calls ⟨#[116, 111, 112, 99, 101, 110, 116, 101, 114]⟩ W (by decide); rw [show (⟨((⟨#[116, 111, 112, 99, 101, 110, 116, 101, 114]⟩ : ByteArray).data.toList.map great).toArray⟩ : ByteArray) = ⟨#[84, 79, 80, 67, 69, 78, 84, 69, 82]⟩ by kernel_rfl] at this; exact this
  replace G := hid G
  have hl : lowered ⟨#[84, 79, 80, 67, 69, 78, 84, 69, 82]⟩ = ⟨#[116, 111, 112, 99, 101, 110, 116, 101, 114]⟩ := by kernel_rfl
  have P := hid (fun W => position_ok_topcenter W)
  have F := hid (fun W => position_ok_full W)
  have O : ∀ W, Calls Try.prog 25 #[.string ⟨#[84, 79, 80, 67, 69, 78, 84, 69, 82]⟩] W fun e w' => e = .returned (.tuple #[.int .i64 1, .bool true]) ∧ Below W.heap.size W w' := fun W => anchor_ok_topcenter ⟨#[84, 79, 80, 67, 69, 78, 84, 69, 82]⟩ W (by decide) hl
  replace O := hid O
  have hx : lowered ⟨#[84, 79, 80, 67, 69, 78, 84, 69, 82, 120]⟩ = ⟨#[116, 111, 112, 99, 101, 110, 116, 101, 114, 120]⟩ := by kernel_rfl
  have x0 : ((⟨#[116, 111, 112, 99, 101, 110, 116, 101, 114, 120]⟩ : ByteArray).toList == [116, 108]) = false := by kernel_rfl
  have x1 : ((⟨#[116, 111, 112, 99, 101, 110, 116, 101, 114, 120]⟩ : ByteArray).toList == [116, 111, 112, 108, 101, 102, 116]) = false := by kernel_rfl
  have x2 : ((⟨#[116, 111, 112, 99, 101, 110, 116, 101, 114, 120]⟩ : ByteArray).toList == [116, 99]) = false := by kernel_rfl
  have x3 : ((⟨#[116, 111, 112, 99, 101, 110, 116, 101, 114, 120]⟩ : ByteArray).toList == [116, 111, 112, 99, 101, 110, 116, 101, 114]) = false := by kernel_rfl
  have x4 : ((⟨#[116, 111, 112, 99, 101, 110, 116, 101, 114, 120]⟩ : ByteArray).toList == [116, 114]) = false := by kernel_rfl
  have x5 : ((⟨#[116, 111, 112, 99, 101, 110, 116, 101, 114, 120]⟩ : ByteArray).toList == [116, 111, 112, 114, 105, 103, 104, 116]) = false := by kernel_rfl
  have x6 : ((⟨#[116, 111, 112, 99, 101, 110, 116, 101, 114, 120]⟩ : ByteArray).toList == [108]) = false := by kernel_rfl
  have x7 : ((⟨#[116, 111, 112, 99, 101, 110, 116, 101, 114, 120]⟩ : ByteArray).toList == [108, 101, 102, 116]) = false := by kernel_rfl
  have x8 : ((⟨#[116, 111, 112, 99, 101, 110, 116, 101, 114, 120]⟩ : ByteArray).toList == [99]) = false := by kernel_rfl
  have x9 : ((⟨#[116, 111, 112, 99, 101, 110, 116, 101, 114, 120]⟩ : ByteArray).toList == [99, 101, 110, 116, 101, 114]) = false := by kernel_rfl
  have x10 : ((⟨#[116, 111, 112, 99, 101, 110, 116, 101, 114, 120]⟩ : ByteArray).toList == [114]) = false := by kernel_rfl
  have x11 : ((⟨#[116, 111, 112, 99, 101, 110, 116, 101, 114, 120]⟩ : ByteArray).toList == [114, 105, 103, 104, 116]) = false := by kernel_rfl
  have x12 : ((⟨#[116, 111, 112, 99, 101, 110, 116, 101, 114, 120]⟩ : ByteArray).toList == [98, 108]) = false := by kernel_rfl
  have x13 : ((⟨#[116, 111, 112, 99, 101, 110, 116, 101, 114, 120]⟩ : ByteArray).toList == [98, 111, 116, 116, 111, 109, 108, 101, 102, 116]) = false := by kernel_rfl
  have x14 : ((⟨#[116, 111, 112, 99, 101, 110, 116, 101, 114, 120]⟩ : ByteArray).toList == [98, 99]) = false := by kernel_rfl
  have x15 : ((⟨#[116, 111, 112, 99, 101, 110, 116, 101, 114, 120]⟩ : ByteArray).toList == [98, 111, 116, 116, 111, 109, 99, 101, 110, 116, 101, 114]) = false := by kernel_rfl
  have x16 : ((⟨#[116, 111, 112, 99, 101, 110, 116, 101, 114, 120]⟩ : ByteArray).toList == [98, 114]) = false := by kernel_rfl
  have x17 : ((⟨#[116, 111, 112, 99, 101, 110, 116, 101, 114, 120]⟩ : ByteArray).toList == [98, 111, 116, 116, 111, 109, 114, 105, 103, 104, 116]) = false := by kernel_rfl
  have hc : (⟨#[84, 79, 80, 67, 69, 78, 84, 69, 82]⟩ ++ ⟨#[120]⟩ : ByteArray) = ⟨#[84, 79, 80, 67, 69, 78, 84, 69, 82, 120]⟩ := by kernel_rfl
  have X : ∀ W, Calls Try.prog 25 #[.string (⟨#[84, 79, 80, 67, 69, 78, 84, 69, 82]⟩ ++ ⟨#[120]⟩)] W fun e w' => e = .returned (.tuple #[.int .i64 0, .bool false]) ∧ Below W.heap.size W w' := fun W => by rw [hc]; exact anchor_bad ⟨#[84, 79, 80, 67, 69, 78, 84, 69, 82, 120]⟩ ⟨#[116, 111, 112, 99, 101, 110, 116, 101, 114, 120]⟩ W (by decide) hx x0 x1 x2 x3 x4 x5 x6 x7 x8 x9 x10 x11 x12 x13 x14 x15 x16 x17
  replace X := hid X
  clear hc hl hx x0 x1 x2 x3 x4 x5 x6 x7 x8 x9 x10 x11 x12 x13 x14 x15 x16 x17
  go_enter Try.func8, Try.ntmps8
  go_wp2_with (first | (go_at_call 10; with_reducible refine (G.out _).mono ?_; rintro e w' ⟨rfl, hb0⟩) | (go_at_call 25; with_reducible refine (O.out _).mono ?_; rintro e w' ⟨rfl, hb1⟩) | (go_at_call 25; with_reducible refine (X.out _).mono ?_; rintro e w' ⟨rfl, hb2⟩) | (go_at_call 24; with_reducible refine (P.out _).mono ?_; rintro e w' ⟨rfl, hb3⟩) | (go_at_call 24; with_reducible refine (F.out _).mono ?_; rintro e w' ⟨rfl, hb4⟩) | (go_at_call 23; go_in))
  go_ret
  exact ⟨rfl, by repeat (first | (with_reducible exact Below.refl _ _) | (with_reducible refine below_step ?_ hb4) | (with_reducible refine below_step ?_ hb3) | (with_reducible refine below_step ?_ hb2) | (with_reducible refine below_step ?_ hb1) | (with_reducible refine below_step ?_ hb0) | (with_reducible apply pw_below_drewN) | (with_reducible apply below_alloc) | (with_reducible apply below_drew1))⟩

theorem anchorOf_200 (w : World) :
    Calls Try.prog 8 #[.int .i64 2, .bool false, .bool false] w fun e w' => e = .returned (.bool true) ∧ Below w.heap.size w w' := by
  have hl : lowered ⟨#[116, 114]⟩ = ⟨#[116, 114]⟩ := by kernel_rfl
  have P := hid (fun W => position_ok_tr W)
  have F := hid (fun W => position_ok_full W)
  have O : ∀ W, Calls Try.prog 25 #[.string ⟨#[116, 114]⟩] W fun e w' => e = .returned (.tuple #[.int .i64 2, .bool true]) ∧ Below W.heap.size W w' := fun W => anchor_ok_tr ⟨#[116, 114]⟩ W (by decide) hl
  replace O := hid O
  have hx : lowered ⟨#[116, 114, 120]⟩ = ⟨#[116, 114, 120]⟩ := by kernel_rfl
  have x0 : ((⟨#[116, 114, 120]⟩ : ByteArray).toList == [116, 108]) = false := by kernel_rfl
  have x1 : ((⟨#[116, 114, 120]⟩ : ByteArray).toList == [116, 111, 112, 108, 101, 102, 116]) = false := by kernel_rfl
  have x2 : ((⟨#[116, 114, 120]⟩ : ByteArray).toList == [116, 99]) = false := by kernel_rfl
  have x3 : ((⟨#[116, 114, 120]⟩ : ByteArray).toList == [116, 111, 112, 99, 101, 110, 116, 101, 114]) = false := by kernel_rfl
  have x4 : ((⟨#[116, 114, 120]⟩ : ByteArray).toList == [116, 114]) = false := by kernel_rfl
  have x5 : ((⟨#[116, 114, 120]⟩ : ByteArray).toList == [116, 111, 112, 114, 105, 103, 104, 116]) = false := by kernel_rfl
  have x6 : ((⟨#[116, 114, 120]⟩ : ByteArray).toList == [108]) = false := by kernel_rfl
  have x7 : ((⟨#[116, 114, 120]⟩ : ByteArray).toList == [108, 101, 102, 116]) = false := by kernel_rfl
  have x8 : ((⟨#[116, 114, 120]⟩ : ByteArray).toList == [99]) = false := by kernel_rfl
  have x9 : ((⟨#[116, 114, 120]⟩ : ByteArray).toList == [99, 101, 110, 116, 101, 114]) = false := by kernel_rfl
  have x10 : ((⟨#[116, 114, 120]⟩ : ByteArray).toList == [114]) = false := by kernel_rfl
  have x11 : ((⟨#[116, 114, 120]⟩ : ByteArray).toList == [114, 105, 103, 104, 116]) = false := by kernel_rfl
  have x12 : ((⟨#[116, 114, 120]⟩ : ByteArray).toList == [98, 108]) = false := by kernel_rfl
  have x13 : ((⟨#[116, 114, 120]⟩ : ByteArray).toList == [98, 111, 116, 116, 111, 109, 108, 101, 102, 116]) = false := by kernel_rfl
  have x14 : ((⟨#[116, 114, 120]⟩ : ByteArray).toList == [98, 99]) = false := by kernel_rfl
  have x15 : ((⟨#[116, 114, 120]⟩ : ByteArray).toList == [98, 111, 116, 116, 111, 109, 99, 101, 110, 116, 101, 114]) = false := by kernel_rfl
  have x16 : ((⟨#[116, 114, 120]⟩ : ByteArray).toList == [98, 114]) = false := by kernel_rfl
  have x17 : ((⟨#[116, 114, 120]⟩ : ByteArray).toList == [98, 111, 116, 116, 111, 109, 114, 105, 103, 104, 116]) = false := by kernel_rfl
  have hc : (⟨#[116, 114]⟩ ++ ⟨#[120]⟩ : ByteArray) = ⟨#[116, 114, 120]⟩ := by kernel_rfl
  have X : ∀ W, Calls Try.prog 25 #[.string (⟨#[116, 114]⟩ ++ ⟨#[120]⟩)] W fun e w' => e = .returned (.tuple #[.int .i64 0, .bool false]) ∧ Below W.heap.size W w' := fun W => by rw [hc]; exact anchor_bad ⟨#[116, 114, 120]⟩ ⟨#[116, 114, 120]⟩ W (by decide) hx x0 x1 x2 x3 x4 x5 x6 x7 x8 x9 x10 x11 x12 x13 x14 x15 x16 x17
  replace X := hid X
  clear hc hl hx x0 x1 x2 x3 x4 x5 x6 x7 x8 x9 x10 x11 x12 x13 x14 x15 x16 x17
  go_enter Try.func8, Try.ntmps8
  go_wp2_with (first | (go_at_call 25; with_reducible refine (O.out _).mono ?_; rintro e w' ⟨rfl, hb1⟩) | (go_at_call 25; with_reducible refine (X.out _).mono ?_; rintro e w' ⟨rfl, hb2⟩) | (go_at_call 24; with_reducible refine (P.out _).mono ?_; rintro e w' ⟨rfl, hb3⟩) | (go_at_call 24; with_reducible refine (F.out _).mono ?_; rintro e w' ⟨rfl, hb4⟩) | (go_at_call 23; go_in))
  go_ret
  exact ⟨rfl, by repeat (first | (with_reducible exact Below.refl _ _) | (with_reducible refine below_step ?_ hb4) | (with_reducible refine below_step ?_ hb3) | (with_reducible refine below_step ?_ hb2) | (with_reducible refine below_step ?_ hb1) | (with_reducible refine below_step ?_ hb0) | (with_reducible apply pw_below_drewN) | (with_reducible apply below_alloc) | (with_reducible apply below_drew1))⟩

theorem anchorOf_201 (w : World) :
    Calls Try.prog 8 #[.int .i64 2, .bool false, .bool true] w fun e w' => e = .returned (.bool true) ∧ Below w.heap.size w w' := by
  have G : ∀ W, Calls Try.prog 10 #[.string ⟨#[116, 114]⟩] W fun e w' => e = .returned (.string ⟨#[84, 82]⟩) ∧ Below W.heap.size W w' := fun W => by have := upper_calls ⟨#[116, 114]⟩ W (by decide); rw [show (⟨((⟨#[116, 114]⟩ : ByteArray).data.toList.map great).toArray⟩ : ByteArray) = ⟨#[84, 82]⟩ by kernel_rfl] at this; exact this
  replace G := hid G
  have hl : lowered ⟨#[84, 82]⟩ = ⟨#[116, 114]⟩ := by kernel_rfl
  have P := hid (fun W => position_ok_tr W)
  have F := hid (fun W => position_ok_full W)
  have O : ∀ W, Calls Try.prog 25 #[.string ⟨#[84, 82]⟩] W fun e w' => e = .returned (.tuple #[.int .i64 2, .bool true]) ∧ Below W.heap.size W w' := fun W => anchor_ok_tr ⟨#[84, 82]⟩ W (by decide) hl
  replace O := hid O
  have hx : lowered ⟨#[84, 82, 120]⟩ = ⟨#[116, 114, 120]⟩ := by kernel_rfl
  have x0 : ((⟨#[116, 114, 120]⟩ : ByteArray).toList == [116, 108]) = false := by kernel_rfl
  have x1 : ((⟨#[116, 114, 120]⟩ : ByteArray).toList == [116, 111, 112, 108, 101, 102, 116]) = false := by kernel_rfl
  have x2 : ((⟨#[116, 114, 120]⟩ : ByteArray).toList == [116, 99]) = false := by kernel_rfl
  have x3 : ((⟨#[116, 114, 120]⟩ : ByteArray).toList == [116, 111, 112, 99, 101, 110, 116, 101, 114]) = false := by kernel_rfl
  have x4 : ((⟨#[116, 114, 120]⟩ : ByteArray).toList == [116, 114]) = false := by kernel_rfl
  have x5 : ((⟨#[116, 114, 120]⟩ : ByteArray).toList == [116, 111, 112, 114, 105, 103, 104, 116]) = false := by kernel_rfl
  have x6 : ((⟨#[116, 114, 120]⟩ : ByteArray).toList == [108]) = false := by kernel_rfl
  have x7 : ((⟨#[116, 114, 120]⟩ : ByteArray).toList == [108, 101, 102, 116]) = false := by kernel_rfl
  have x8 : ((⟨#[116, 114, 120]⟩ : ByteArray).toList == [99]) = false := by kernel_rfl
  have x9 : ((⟨#[116, 114, 120]⟩ : ByteArray).toList == [99, 101, 110, 116, 101, 114]) = false := by kernel_rfl
  have x10 : ((⟨#[116, 114, 120]⟩ : ByteArray).toList == [114]) = false := by kernel_rfl
  have x11 : ((⟨#[116, 114, 120]⟩ : ByteArray).toList == [114, 105, 103, 104, 116]) = false := by kernel_rfl
  have x12 : ((⟨#[116, 114, 120]⟩ : ByteArray).toList == [98, 108]) = false := by kernel_rfl
  have x13 : ((⟨#[116, 114, 120]⟩ : ByteArray).toList == [98, 111, 116, 116, 111, 109, 108, 101, 102, 116]) = false := by kernel_rfl
  have x14 : ((⟨#[116, 114, 120]⟩ : ByteArray).toList == [98, 99]) = false := by kernel_rfl
  have x15 : ((⟨#[116, 114, 120]⟩ : ByteArray).toList == [98, 111, 116, 116, 111, 109, 99, 101, 110, 116, 101, 114]) = false := by kernel_rfl
  have x16 : ((⟨#[116, 114, 120]⟩ : ByteArray).toList == [98, 114]) = false := by kernel_rfl
  have x17 : ((⟨#[116, 114, 120]⟩ : ByteArray).toList == [98, 111, 116, 116, 111, 109, 114, 105, 103, 104, 116]) = false := by kernel_rfl
  have hc : (⟨#[84, 82]⟩ ++ ⟨#[120]⟩ : ByteArray) = ⟨#[84, 82, 120]⟩ := by kernel_rfl
  have X : ∀ W, Calls Try.prog 25 #[.string (⟨#[84, 82]⟩ ++ ⟨#[120]⟩)] W fun e w' => e = .returned (.tuple #[.int .i64 0, .bool false]) ∧ Below W.heap.size W w' := fun W => by rw [hc]; exact anchor_bad ⟨#[84, 82, 120]⟩ ⟨#[116, 114, 120]⟩ W (by decide) hx x0 x1 x2 x3 x4 x5 x6 x7 x8 x9 x10 x11 x12 x13 x14 x15 x16 x17
  replace X := hid X
  clear hc hl hx x0 x1 x2 x3 x4 x5 x6 x7 x8 x9 x10 x11 x12 x13 x14 x15 x16 x17
  go_enter Try.func8, Try.ntmps8
  go_wp2_with (first | (go_at_call 10; with_reducible refine (G.out _).mono ?_; rintro e w' ⟨rfl, hb0⟩) | (go_at_call 25; with_reducible refine (O.out _).mono ?_; rintro e w' ⟨rfl, hb1⟩) | (go_at_call 25; with_reducible refine (X.out _).mono ?_; rintro e w' ⟨rfl, hb2⟩) | (go_at_call 24; with_reducible refine (P.out _).mono ?_; rintro e w' ⟨rfl, hb3⟩) | (go_at_call 24; with_reducible refine (F.out _).mono ?_; rintro e w' ⟨rfl, hb4⟩) | (go_at_call 23; go_in))
  go_ret
  exact ⟨rfl, by repeat (first | (with_reducible exact Below.refl _ _) | (with_reducible refine below_step ?_ hb4) | (with_reducible refine below_step ?_ hb3) | (with_reducible refine below_step ?_ hb2) | (with_reducible refine below_step ?_ hb1) | (with_reducible refine below_step ?_ hb0) | (with_reducible apply pw_below_drewN) | (with_reducible apply below_alloc) | (with_reducible apply below_drew1))⟩

theorem anchorOf_210 (w : World) :
    Calls Try.prog 8 #[.int .i64 2, .bool true, .bool false] w fun e w' => e = .returned (.bool true) ∧ Below w.heap.size w w' := by
  have hl : lowered ⟨#[116, 111, 112, 114, 105, 103, 104, 116]⟩ = ⟨#[116, 111, 112, 114, 105, 103, 104, 116]⟩ := by kernel_rfl
  have P := hid (fun W => position_ok_topright W)
  have F := hid (fun W => position_ok_full W)
  have O : ∀ W, Calls Try.prog 25 #[.string ⟨#[116, 111, 112, 114, 105, 103, 104, 116]⟩] W fun e w' => e = .returned (.tuple #[.int .i64 2, .bool true]) ∧ Below W.heap.size W w' := fun W => anchor_ok_topright ⟨#[116, 111, 112, 114, 105, 103, 104, 116]⟩ W (by decide) hl
  replace O := hid O
  have hx : lowered ⟨#[116, 111, 112, 114, 105, 103, 104, 116, 120]⟩ = ⟨#[116, 111, 112, 114, 105, 103, 104, 116, 120]⟩ := by kernel_rfl
  have x0 : ((⟨#[116, 111, 112, 114, 105, 103, 104, 116, 120]⟩ : ByteArray).toList == [116, 108]) = false := by kernel_rfl
  have x1 : ((⟨#[116, 111, 112, 114, 105, 103, 104, 116, 120]⟩ : ByteArray).toList == [116, 111, 112, 108, 101, 102, 116]) = false := by kernel_rfl
  have x2 : ((⟨#[116, 111, 112, 114, 105, 103, 104, 116, 120]⟩ : ByteArray).toList == [116, 99]) = false := by kernel_rfl
  have x3 : ((⟨#[116, 111, 112, 114, 105, 103, 104, 116, 120]⟩ : ByteArray).toList == [116, 111, 112, 99, 101, 110, 116, 101, 114]) = false := by kernel_rfl
  have x4 : ((⟨#[116, 111, 112, 114, 105, 103, 104, 116, 120]⟩ : ByteArray).toList == [116, 114]) = false := by kernel_rfl
  have x5 : ((⟨#[116, 111, 112, 114, 105, 103, 104, 116, 120]⟩ : ByteArray).toList == [116, 111, 112, 114, 105, 103, 104, 116]) = false := by kernel_rfl
  have x6 : ((⟨#[116, 111, 112, 114, 105, 103, 104, 116, 120]⟩ : ByteArray).toList == [108]) = false := by kernel_rfl
  have x7 : ((⟨#[116, 111, 112, 114, 105, 103, 104, 116, 120]⟩ : ByteArray).toList == [108, 101, 102, 116]) = false := by kernel_rfl
  have x8 : ((⟨#[116, 111, 112, 114, 105, 103, 104, 116, 120]⟩ : ByteArray).toList == [99]) = false := by kernel_rfl
  have x9 : ((⟨#[116, 111, 112, 114, 105, 103, 104, 116, 120]⟩ : ByteArray).toList == [99, 101, 110, 116, 101, 114]) = false := by kernel_rfl
  have x10 : ((⟨#[116, 111, 112, 114, 105, 103, 104, 116, 120]⟩ : ByteArray).toList == [114]) = false := by kernel_rfl
  have x11 : ((⟨#[116, 111, 112, 114, 105, 103, 104, 116, 120]⟩ : ByteArray).toList == [114, 105, 103, 104, 116]) = false := by kernel_rfl
  have x12 : ((⟨#[116, 111, 112, 114, 105, 103, 104, 116, 120]⟩ : ByteArray).toList == [98, 108]) = false := by kernel_rfl
  have x13 : ((⟨#[116, 111, 112, 114, 105, 103, 104, 116, 120]⟩ : ByteArray).toList == [98, 111, 116, 116, 111, 109, 108, 101, 102, 116]) = false := by kernel_rfl
  have x14 : ((⟨#[116, 111, 112, 114, 105, 103, 104, 116, 120]⟩ : ByteArray).toList == [98, 99]) = false := by kernel_rfl
  have x15 : ((⟨#[116, 111, 112, 114, 105, 103, 104, 116, 120]⟩ : ByteArray).toList == [98, 111, 116, 116, 111, 109, 99, 101, 110, 116, 101, 114]) = false := by kernel_rfl
  have x16 : ((⟨#[116, 111, 112, 114, 105, 103, 104, 116, 120]⟩ : ByteArray).toList == [98, 114]) = false := by kernel_rfl
  have x17 : ((⟨#[116, 111, 112, 114, 105, 103, 104, 116, 120]⟩ : ByteArray).toList == [98, 111, 116, 116, 111, 109, 114, 105, 103, 104, 116]) = false := by kernel_rfl
  have hc : (⟨#[116, 111, 112, 114, 105, 103, 104, 116]⟩ ++ ⟨#[120]⟩ : ByteArray) = ⟨#[116, 111, 112, 114, 105, 103, 104, 116, 120]⟩ := by kernel_rfl
  have X : ∀ W, Calls Try.prog 25 #[.string (⟨#[116, 111, 112, 114, 105, 103, 104, 116]⟩ ++ ⟨#[120]⟩)] W fun e w' => e = .returned (.tuple #[.int .i64 0, .bool false]) ∧ Below W.heap.size W w' := fun W => by rw [hc]; exact anchor_bad ⟨#[116, 111, 112, 114, 105, 103, 104, 116, 120]⟩ ⟨#[116, 111, 112, 114, 105, 103, 104, 116, 120]⟩ W (by decide) hx x0 x1 x2 x3 x4 x5 x6 x7 x8 x9 x10 x11 x12 x13 x14 x15 x16 x17
  replace X := hid X
  clear hc hl hx x0 x1 x2 x3 x4 x5 x6 x7 x8 x9 x10 x11 x12 x13 x14 x15 x16 x17
  go_enter Try.func8, Try.ntmps8
  go_wp2_with (first | (go_at_call 25; with_reducible refine (O.out _).mono ?_; rintro e w' ⟨rfl, hb1⟩) | (go_at_call 25; with_reducible refine (X.out _).mono ?_; rintro e w' ⟨rfl, hb2⟩) | (go_at_call 24; with_reducible refine (P.out _).mono ?_; rintro e w' ⟨rfl, hb3⟩) | (go_at_call 24; with_reducible refine (F.out _).mono ?_; rintro e w' ⟨rfl, hb4⟩) | (go_at_call 23; go_in))
  go_ret
  exact ⟨rfl, by repeat (first | (with_reducible exact Below.refl _ _) | (with_reducible refine below_step ?_ hb4) | (with_reducible refine below_step ?_ hb3) | (with_reducible refine below_step ?_ hb2) | (with_reducible refine below_step ?_ hb1) | (with_reducible refine below_step ?_ hb0) | (with_reducible apply pw_below_drewN) | (with_reducible apply below_alloc) | (with_reducible apply below_drew1))⟩

theorem anchorOf_211 (w : World) :
    Calls Try.prog 8 #[.int .i64 2, .bool true, .bool true] w fun e w' => e = .returned (.bool true) ∧ Below w.heap.size w w' := by
  have G : ∀ W, Calls Try.prog 10 #[.string ⟨#[116, 111, 112, 114, 105, 103, 104, 116]⟩] W fun e w' => e = .returned (.string ⟨#[84, 79, 80, 82, 73, 71, 72, 84]⟩) ∧ Below W.heap.size W w' := fun W => by have := upper_calls ⟨#[116, 111, 112, 114, 105, 103, 104, 116]⟩ W (by decide); rw [show (⟨((⟨#[116, 111, 112, 114, 105, 103, 104, 116]⟩ : ByteArray).data.toList.map great).toArray⟩ : ByteArray) = ⟨#[84, 79, 80, 82, 73, 71, 72, 84]⟩ by kernel_rfl] at this; exact this
  replace G := hid G
  have hl : lowered ⟨#[84, 79, 80, 82, 73, 71, 72, 84]⟩ = ⟨#[116, 111, 112, 114, 105, 103, 104, 116]⟩ := by kernel_rfl
  have P := hid (fun W => position_ok_topright W)
  have F := hid (fun W => position_ok_full W)
  have O : ∀ W, Calls Try.prog 25 #[.string ⟨#[84, 79, 80, 82, 73, 71, 72, 84]⟩] W fun e w' => e = .returned (.tuple #[.int .i64 2, .bool true]) ∧ Below W.heap.size W w' := fun W => anchor_ok_topright ⟨#[84, 79, 80, 82, 73, 71, 72, 84]⟩ W (by decide) hl
  replace O := hid O
  have hx : lowered ⟨#[84, 79, 80, 82, 73, 71, 72, 84, 120]⟩ = ⟨#[116, 111, 112, 114, 105, 103, 104, 116, 120]⟩ := by kernel_rfl
  have x0 : ((⟨#[116, 111, 112, 114, 105, 103, 104, 116, 120]⟩ : ByteArray).toList == [116, 108]) = false := by kernel_rfl
  have x1 : ((⟨#[116, 111, 112, 114, 105, 103, 104, 116, 120]⟩ : ByteArray).toList == [116, 111, 112, 108, 101, 102, 116]) = false := by kernel_rfl
  have x2 : ((⟨#[116, 111, 112, 114, 105, 103, 104, 116, 120]⟩ : ByteArray).toList == [116, 99]) = false := by kernel_rfl
  have x3 : ((⟨#[116, 111, 112, 114, 105, 103, 104, 116, 120]⟩ : ByteArray).toList == [116, 111, 112, 99, 101, 110, 116, 101, 114]) = false := by kernel_rfl
  have x4 : ((⟨#[116, 111, 112, 114, 105, 103, 104, 116, 120]⟩ : ByteArray).toList == [116, 114]) = false := by kernel_rfl
  have x5 : ((⟨#[116, 111, 112, 114, 105, 103, 104, 116, 120]⟩ : ByteArray).toList == [116, 111, 112, 114, 105, 103, 104, 116]) = false := by kernel_rfl
  have x6 : ((⟨#[116, 111, 112, 114, 105, 103, 104, 116, 120]⟩ : ByteArray).toList == [108]) = false := by kernel_rfl
  have x7 : ((⟨#[116, 111, 112, 114, 105, 103, 104, 116, 120]⟩ : ByteArray).toList == [108, 101, 102, 116]) = false := by kernel_rfl
  have x8 : ((⟨#[116, 111, 112, 114, 105, 103, 104, 116, 120]⟩ : ByteArray).toList == [99]) = false := by kernel_rfl
  have x9 : ((⟨#[116, 111, 112, 114, 105, 103, 104, 116, 120]⟩ : ByteArray).toList == [99, 101, 110, 116, 101, 114]) = false := by kernel_rfl
  have x10 : ((⟨#[116, 111, 112, 114, 105, 103, 104, 116, 120]⟩ : ByteArray).toList == [114]) = false := by kernel_rfl
  have x11 : ((⟨#[116, 111, 112, 114, 105, 103, 104, 116, 120]⟩ : ByteArray).toList == [114, 105, 103, 104, 116]) = false := by kernel_rfl
  have x12 : ((⟨#[116, 111, 112, 114, 105, 103, 104, 116, 120]⟩ : ByteArray).toList == [98, 108]) = false := by kernel_rfl
  have x13 : ((⟨#[116, 111, 112, 114, 105, 103, 104, 116, 120]⟩ : ByteArray).toList == [98, 111, 116, 116, 111, 109, 108, 101, 102, 116]) = false := by kernel_rfl
  have x14 : ((⟨#[116, 111, 112, 114, 105, 103, 104, 116, 120]⟩ : ByteArray).toList == [98, 99]) = false := by kernel_rfl
  have x15 : ((⟨#[116, 111, 112, 114, 105, 103, 104, 116, 120]⟩ : ByteArray).toList == [98, 111, 116, 116, 111, 109, 99, 101, 110, 116, 101, 114]) = false := by kernel_rfl
  have x16 : ((⟨#[116, 111, 112, 114, 105, 103, 104, 116, 120]⟩ : ByteArray).toList == [98, 114]) = false := by kernel_rfl
  have x17 : ((⟨#[116, 111, 112, 114, 105, 103, 104, 116, 120]⟩ : ByteArray).toList == [98, 111, 116, 116, 111, 109, 114, 105, 103, 104, 116]) = false := by kernel_rfl
  have hc : (⟨#[84, 79, 80, 82, 73, 71, 72, 84]⟩ ++ ⟨#[120]⟩ : ByteArray) = ⟨#[84, 79, 80, 82, 73, 71, 72, 84, 120]⟩ := by kernel_rfl
  have X : ∀ W, Calls Try.prog 25 #[.string (⟨#[84, 79, 80, 82, 73, 71, 72, 84]⟩ ++ ⟨#[120]⟩)] W fun e w' => e = .returned (.tuple #[.int .i64 0, .bool false]) ∧ Below W.heap.size W w' := fun W => by rw [hc]; exact anchor_bad ⟨#[84, 79, 80, 82, 73, 71, 72, 84, 120]⟩ ⟨#[116, 111, 112, 114, 105, 103, 104, 116, 120]⟩ W (by decide) hx x0 x1 x2 x3 x4 x5 x6 x7 x8 x9 x10 x11 x12 x13 x14 x15 x16 x17
  replace X := hid X
  clear hc hl hx x0 x1 x2 x3 x4 x5 x6 x7 x8 x9 x10 x11 x12 x13 x14 x15 x16 x17
  go_enter Try.func8, Try.ntmps8
  go_wp2_with (first | (go_at_call 10; with_reducible refine (G.out _).mono ?_; rintro e w' ⟨rfl, hb0⟩) | (go_at_call 25; with_reducible refine (O.out _).mono ?_; rintro e w' ⟨rfl, hb1⟩) | (go_at_call 25; with_reducible refine (X.out _).mono ?_; rintro e w' ⟨rfl, hb2⟩) | (go_at_call 24; with_reducible refine (P.out _).mono ?_; rintro e w' ⟨rfl, hb3⟩) | (go_at_call 24; with_reducible refine (F.out _).mono ?_; rintro e w' ⟨rfl, hb4⟩) | (go_at_call 23; go_in))
  go_ret
  exact ⟨rfl, by repeat (first | (with_reducible exact Below.refl _ _) | (with_reducible refine below_step ?_ hb4) | (with_reducible refine below_step ?_ hb3) | (with_reducible refine below_step ?_ hb2) | (with_reducible refine below_step ?_ hb1) | (with_reducible refine below_step ?_ hb0) | (with_reducible apply pw_below_drewN) | (with_reducible apply below_alloc) | (with_reducible apply below_drew1))⟩

end Go.Proofs.Ytmngibfakkfnnaa
