/-
FnColorParts: the law's own function: the walks. Condition: what the listed variables hold.
-/
import Derived.Test.YtakckfghiaoonaaDoorP3
import Derived.Deep.RegionWith
namespace Go.Proofs.YtakckfghiaoonaaDoor
open Go.RowKit Go.ChangeShapes Go.Proofs.YtakckfghiaoonaaDoorW.PrintWords

theorem bs_app (a b : List UInt8) : bs a ++ bs b = bs (a ++ b) := by
  apply ByteArray.ext
  simp [bs]
theorem numeral_calls (d : Nat) (hd : d < 10) (w : World) : Calls Tryd.prog 10 #[.int .i64 d] w fun e w' => e = .returned (.string (bs [UInt8.ofNat (48 + d)])) ∧ w = w' := by
  have hx : (⟨#[48, 49, 50, 51, 52, 53, 54, 55, 56, 57]⟩ : ByteArray).extract d (d + 1) = bs [UInt8.ofNat (48 + d)] := by
    have : d = 0 ∨ d = 1 ∨ d = 2 ∨ d = 3 ∨ d = 4 ∨ d = 5 ∨ d = 6 ∨ d = 7 ∨ d = 8 ∨ d = 9 := by omega
    rcases this with rfl | rfl | rfl | rfl | rfl | rfl | rfl | rfl | rfl | rfl <;> (apply ByteArray.ext; decide)
  have h10 : (d : Int) < 10 := by omega
  generalize bs [UInt8.ofNat (48 + d)] = T at hx
  go_enter Tryd.func10, Tryd.ntmps10
  go_wp2_with fail
  go_ret
  exact ⟨rfl, rfl⟩
set_option maxRecDepth 100000 in
set_option maxHeartbeats 4000000 in
theorem quarters_0 (w : World) : Calls Tryd.prog 5 #[.int .i64 0] w fun e w' => e = .returned (.string (bs (qt 0))) ∧ Below w.heap.size w w' := by
  have H := Lib.hid (fun W => numeral_calls 0 (by decide) W)
  have z := fun l => bs_size l
  have hX : (⟨#[]⟩ : ByteArray) ++ bs [48] ++ ⟨#[]⟩ = bs (qt 0) := by
    show bs [] ++ bs [48] ++ bs [] = _
    rw [bs_app, bs_app]; rfl
  go_enter Tryd.func5, Tryd.ntmps5
  go_wp2_with fail
  go_region_with (go_at_call 10; refine (H.out _).mono ?_; rintro e w1 ⟨rfl, rfl⟩)
  all_goals
    go_wp2_with fail
    go_ret
    exact ⟨by first | rfl | exact congrArg (fun s => Ending.returned (Value.string s)) hX, (below_alloc (Below.refl _ _) _).drew⟩
set_option maxRecDepth 100000 in
set_option maxHeartbeats 4000000 in
theorem quarters_1 (w : World) : Calls Tryd.prog 5 #[.int .i64 1] w fun e w' => e = .returned (.string (bs (qt 1))) ∧ Below w.heap.size w w' := by
  have H := Lib.hid (fun W => numeral_calls 0 (by decide) W)
  have z := fun l => bs_size l
  have hX : (⟨#[]⟩ : ByteArray) ++ bs [48] ++ ⟨#[46, 50, 53]⟩ = bs (qt 1) := by
    show bs [] ++ bs [48] ++ bs [46, 50, 53] = _
    rw [bs_app, bs_app]; rfl
  go_enter Tryd.func5, Tryd.ntmps5
  go_wp2_with fail
  go_region_with (go_at_call 10; refine (H.out _).mono ?_; rintro e w1 ⟨rfl, rfl⟩)
  all_goals
    go_wp2_with fail
    go_ret
    exact ⟨by first | rfl | exact congrArg (fun s => Ending.returned (Value.string s)) hX, (below_alloc (Below.refl _ _) _).drew⟩
set_option maxRecDepth 100000 in
set_option maxHeartbeats 4000000 in
theorem quarters_2 (w : World) : Calls Tryd.prog 5 #[.int .i64 2] w fun e w' => e = .returned (.string (bs (qt 2))) ∧ Below w.heap.size w w' := by
  have H := Lib.hid (fun W => numeral_calls 0 (by decide) W)
  have z := fun l => bs_size l
  have hX : (⟨#[]⟩ : ByteArray) ++ bs [48] ++ ⟨#[46, 53]⟩ = bs (qt 2) := by
    show bs [] ++ bs [48] ++ bs [46, 53] = _
    rw [bs_app, bs_app]; rfl
  go_enter Tryd.func5, Tryd.ntmps5
  go_wp2_with fail
  go_region_with (go_at_call 10; refine (H.out _).mono ?_; rintro e w1 ⟨rfl, rfl⟩)
  all_goals
    go_wp2_with fail
    go_ret
    exact ⟨by first | rfl | exact congrArg (fun s => Ending.returned (Value.string s)) hX, (below_alloc (Below.refl _ _) _).drew⟩
set_option maxRecDepth 100000 in
set_option maxHeartbeats 4000000 in
theorem quarters_3 (w : World) : Calls Tryd.prog 5 #[.int .i64 3] w fun e w' => e = .returned (.string (bs (qt 3))) ∧ Below w.heap.size w w' := by
  have H := Lib.hid (fun W => numeral_calls 0 (by decide) W)
  have z := fun l => bs_size l
  have hX : (⟨#[]⟩ : ByteArray) ++ bs [48] ++ ⟨#[46, 55, 53]⟩ = bs (qt 3) := by
    show bs [] ++ bs [48] ++ bs [46, 55, 53] = _
    rw [bs_app, bs_app]; rfl
  go_enter Tryd.func5, Tryd.ntmps5
  go_wp2_with fail
  go_region_with (go_at_call 10; refine (H.out _).mono ?_; rintro e w1 ⟨rfl, rfl⟩)
  all_goals
    go_wp2_with fail
    go_ret
    exact ⟨by first | rfl | exact congrArg (fun s => Ending.returned (Value.string s)) hX, (below_alloc (Below.refl _ _) _).drew⟩
set_option maxRecDepth 100000 in
set_option maxHeartbeats 4000000 in
theorem quarters_4 (w : World) : Calls Tryd.prog 5 #[.int .i64 4] w fun e w' => e = .returned (.string (bs (qt 4))) ∧ Below w.heap.size w w' := by
  have H := Lib.hid (fun W => numeral_calls 1 (by decide) W)
  have z := fun l => bs_size l
  have hX : (⟨#[]⟩ : ByteArray) ++ bs [49] ++ ⟨#[]⟩ = bs (qt 4) := by
    show bs [] ++ bs [49] ++ bs [] = _
    rw [bs_app, bs_app]; rfl
  go_enter Tryd.func5, Tryd.ntmps5
  go_wp2_with fail
  go_region_with (go_at_call 10; refine (H.out _).mono ?_; rintro e w1 ⟨rfl, rfl⟩)
  all_goals
    go_wp2_with fail
    go_ret
    exact ⟨by first | rfl | exact congrArg (fun s => Ending.returned (Value.string s)) hX, (below_alloc (Below.refl _ _) _).drew⟩
end Go.Proofs.YtakckfghiaoonaaDoor
