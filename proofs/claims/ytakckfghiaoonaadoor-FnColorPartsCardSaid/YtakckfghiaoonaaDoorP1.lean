/-
FnColorParts: the library's reading of five numbers: the walks. Condition: one of the five texts.
-/
import Derived.Test.YtakckfghiaoonaaDoorC4
namespace Go.Proofs.YtakckfghiaoonaaDoor
open Go.RowKit Go.ChangeShapes Go.Proofs.YtakckfghiaoonaaDoorW.PrintWords

theorem lower_46 : bits .or .u8 46 32 = 46 := by decide

set_option maxRecDepth 100000 in
set_option maxHeartbeats 8000000 in
theorem special_0 (w : World) : Calls Tryd.prog 40 #[.string (bs [48])] w fun e w' => e = .returned (.tuple #[.float .f64 0, .int .i64 0, .bool false]) ∧ w = w' := by
  obtain ⟨S, hS⟩ : ∃ S, S = bs [48] := ⟨_, rfl⟩
  have hsz : S.size = 1 := by subst hS; rfl
  have c0 : ((S[0]'(by rw [hsz]; decide)).toNat : Int) = 48 := by subst hS; rfl
  rw [← hS]
  clear hS
  have lw := lower_46
  go_enter Tryd.func40, Tryd.ntmps40
  go_wp2_with fail
  go_ret3
  exact ⟨rfl, rfl⟩
set_option maxRecDepth 100000 in
set_option maxHeartbeats 8000000 in
theorem read_0 (w : World) : Calls Tryd.prog 41 #[.string (bs [48])] w fun e w' => e = .returned (.tuple #[.int .u64 0, .int .i64 0, .bool false, .bool false, .bool false, .int .i64 1, .bool true]) ∧ w = w' := by
  obtain ⟨S, hS⟩ : ∃ S, S = bs [48] := ⟨_, rfl⟩
  have hsz : S.size = 1 := by subst hS; rfl
  have c0 : ((S[0]'(by rw [hsz]; decide)).toNat : Int) = 48 := by subst hS; rfl
  rw [← hS]
  clear hS
  have lw := lower_46
  go_enter Tryd.func41, Tryd.ntmps41
  go_wp2_with fail
  go_step3
  go_wp2_with (go_at_call 57; go_in)
  go_step3
  go_wp2_with (go_at_call 57; go_in)
  refine wp_loop_rounds 2 ?_
  rw [rounds_succ]
  go_wp2_with (go_at_call 57; go_in)
  rw [rounds_succ]
  go_wp2_with (go_at_call 57; go_in)
  rw [Exit.noGoto_ret]
  exact bodyPost_ret (v := .tuple #[.int .u64 0, .int .i64 0, .bool false, .bool false, .bool false, .int .i64 1, .bool true]) (by simp [results, Tryd.results41, go_sem]) rfl ⟨rfl, rfl⟩
set_option maxRecDepth 100000 in
set_option maxHeartbeats 8000000 in
theorem special_1 (w : World) : Calls Tryd.prog 40 #[.string (bs [48, 46, 50, 53])] w fun e w' => e = .returned (.tuple #[.float .f64 0, .int .i64 0, .bool false]) ∧ w = w' := by
  obtain ⟨S, hS⟩ : ∃ S, S = bs [48, 46, 50, 53] := ⟨_, rfl⟩
  have hsz : S.size = 4 := by subst hS; rfl
  have c0 : ((S[0]'(by rw [hsz]; decide)).toNat : Int) = 48 := by subst hS; rfl
  have c1 : ((S[1]'(by rw [hsz]; decide)).toNat : Int) = 46 := by subst hS; rfl
  have c2 : ((S[2]'(by rw [hsz]; decide)).toNat : Int) = 50 := by subst hS; rfl
  have c3 : ((S[3]'(by rw [hsz]; decide)).toNat : Int) = 53 := by subst hS; rfl
  rw [← hS]
  clear hS
  have lw := lower_46
  go_enter Tryd.func40, Tryd.ntmps40
  go_wp2_with fail
  go_ret3
  exact ⟨rfl, rfl⟩
set_option maxRecDepth 100000 in
set_option maxHeartbeats 8000000 in
theorem read_1 (w : World) : Calls Tryd.prog 41 #[.string (bs [48, 46, 50, 53])] w fun e w' => e = .returned (.tuple #[.int .u64 25, .int .i64 (-2), .bool false, .bool false, .bool false, .int .i64 4, .bool true]) ∧ w = w' := by
  obtain ⟨S, hS⟩ : ∃ S, S = bs [48, 46, 50, 53] := ⟨_, rfl⟩
  have hsz : S.size = 4 := by subst hS; rfl
  have c0 : ((S[0]'(by rw [hsz]; decide)).toNat : Int) = 48 := by subst hS; rfl
  have c1 : ((S[1]'(by rw [hsz]; decide)).toNat : Int) = 46 := by subst hS; rfl
  have c2 : ((S[2]'(by rw [hsz]; decide)).toNat : Int) = 50 := by subst hS; rfl
  have c3 : ((S[3]'(by rw [hsz]; decide)).toNat : Int) = 53 := by subst hS; rfl
  rw [← hS]
  clear hS
  have lw := lower_46
  go_enter Tryd.func41, Tryd.ntmps41
  go_wp2_with fail
  go_step3
  go_wp2_with (go_at_call 57; go_in)
  go_step3
  go_wp2_with (go_at_call 57; go_in)
  refine wp_loop_rounds 5 ?_
  rw [rounds_succ]
  go_wp2_with (go_at_call 57; go_in)
  rw [rounds_succ]
  go_wp2_with (go_at_call 57; go_in)
  rw [rounds_succ]
  go_wp2_with (go_at_call 57; go_in)
  rw [rounds_succ]
  go_wp2_with (go_at_call 57; go_in)
  rw [rounds_succ]
  go_wp2_with (go_at_call 57; go_in)
  rw [Exit.noGoto_ret]
  exact bodyPost_ret (v := .tuple #[.int .u64 25, .int .i64 (-2), .bool false, .bool false, .bool false, .int .i64 4, .bool true]) (by simp [results, Tryd.results41, go_sem]) rfl ⟨rfl, rfl⟩
set_option maxRecDepth 100000 in
set_option maxHeartbeats 8000000 in
theorem special_2 (w : World) : Calls Tryd.prog 40 #[.string (bs [48, 46, 53])] w fun e w' => e = .returned (.tuple #[.float .f64 0, .int .i64 0, .bool false]) ∧ w = w' := by
  obtain ⟨S, hS⟩ : ∃ S, S = bs [48, 46, 53] := ⟨_, rfl⟩
  have hsz : S.size = 3 := by subst hS; rfl
  have c0 : ((S[0]'(by rw [hsz]; decide)).toNat : Int) = 48 := by subst hS; rfl
  have c1 : ((S[1]'(by rw [hsz]; decide)).toNat : Int) = 46 := by subst hS; rfl
  have c2 : ((S[2]'(by rw [hsz]; decide)).toNat : Int) = 53 := by subst hS; rfl
  rw [← hS]
  clear hS
  have lw := lower_46
  go_enter Tryd.func40, Tryd.ntmps40
  go_wp2_with fail
  go_ret3
  exact ⟨rfl, rfl⟩
set_option maxRecDepth 100000 in
set_option maxHeartbeats 8000000 in
theorem read_2 (w : World) : Calls Tryd.prog 41 #[.string (bs [48, 46, 53])] w fun e w' => e = .returned (.tuple #[.int .u64 5, .int .i64 (-1), .bool false, .bool false, .bool false, .int .i64 3, .bool true]) ∧ w = w' := by
  obtain ⟨S, hS⟩ : ∃ S, S = bs [48, 46, 53] := ⟨_, rfl⟩
  have hsz : S.size = 3 := by subst hS; rfl
  have c0 : ((S[0]'(by rw [hsz]; decide)).toNat : Int) = 48 := by subst hS; rfl
  have c1 : ((S[1]'(by rw [hsz]; decide)).toNat : Int) = 46 := by subst hS; rfl
  have c2 : ((S[2]'(by rw [hsz]; decide)).toNat : Int) = 53 := by subst hS; rfl
  rw [← hS]
  clear hS
  have lw := lower_46
  go_enter Tryd.func41, Tryd.ntmps41
  go_wp2_with fail
  go_step3
  go_wp2_with (go_at_call 57; go_in)
  go_step3
  go_wp2_with (go_at_call 57; go_in)
  refine wp_loop_rounds 4 ?_
  rw [rounds_succ]
  go_wp2_with (go_at_call 57; go_in)
  rw [rounds_succ]
  go_wp2_with (go_at_call 57; go_in)
  rw [rounds_succ]
  go_wp2_with (go_at_call 57; go_in)
  rw [rounds_succ]
  go_wp2_with (go_at_call 57; go_in)
  rw [Exit.noGoto_ret]
  exact bodyPost_ret (v := .tuple #[.int .u64 5, .int .i64 (-1), .bool false, .bool false, .bool false, .int .i64 3, .bool true]) (by simp [results, Tryd.results41, go_sem]) rfl ⟨rfl, rfl⟩
set_option maxRecDepth 100000 in
set_option maxHeartbeats 8000000 in
theorem special_3 (w : World) : Calls Tryd.prog 40 #[.string (bs [48, 46, 55, 53])] w fun e w' => e = .returned (.tuple #[.float .f64 0, .int .i64 0, .bool false]) ∧ w = w' := by
  obtain ⟨S, hS⟩ : ∃ S, S = bs [48, 46, 55, 53] := ⟨_, rfl⟩
  have hsz : S.size = 4 := by subst hS; rfl
  have c0 : ((S[0]'(by rw [hsz]; decide)).toNat : Int) = 48 := by subst hS; rfl
  have c1 : ((S[1]'(by rw [hsz]; decide)).toNat : Int) = 46 := by subst hS; rfl
  have c2 : ((S[2]'(by rw [hsz]; decide)).toNat : Int) = 55 := by subst hS; rfl
  have c3 : ((S[3]'(by rw [hsz]; decide)).toNat : Int) = 53 := by subst hS; rfl
  rw [← hS]
  clear hS
  have lw := lower_46
  go_enter Tryd.func40, Tryd.ntmps40
  go_wp2_with fail
  go_ret3
  exact ⟨rfl, rfl⟩
set_option maxRecDepth 100000 in
set_option maxHeartbeats 8000000 in
theorem read_3 (w : World) : Calls Tryd.prog 41 #[.string (bs [48, 46, 55, 53])] w fun e w' => e = .returned (.tuple #[.int .u64 75, .int .i64 (-2), .bool false, .bool false, .bool false, .int .i64 4, .bool true]) ∧ w = w' := by
  obtain ⟨S, hS⟩ : ∃ S, S = bs [48, 46, 55, 53] := ⟨_, rfl⟩
  have hsz : S.size = 4 := by subst hS; rfl
  have c0 : ((S[0]'(by rw [hsz]; decide)).toNat : Int) = 48 := by subst hS; rfl
  have c1 : ((S[1]'(by rw [hsz]; decide)).toNat : Int) = 46 := by subst hS; rfl
  have c2 : ((S[2]'(by rw [hsz]; decide)).toNat : Int) = 55 := by subst hS; rfl
  have c3 : ((S[3]'(by rw [hsz]; decide)).toNat : Int) = 53 := by subst hS; rfl
  rw [← hS]
  clear hS
  have lw := lower_46
  go_enter Tryd.func41, Tryd.ntmps41
  go_wp2_with fail
  go_step3
  go_wp2_with (go_at_call 57; go_in)
  go_step3
  go_wp2_with (go_at_call 57; go_in)
  refine wp_loop_rounds 5 ?_
  rw [rounds_succ]
  go_wp2_with (go_at_call 57; go_in)
  rw [rounds_succ]
  go_wp2_with (go_at_call 57; go_in)
  rw [rounds_succ]
  go_wp2_with (go_at_call 57; go_in)
  rw [rounds_succ]
  go_wp2_with (go_at_call 57; go_in)
  rw [rounds_succ]
  go_wp2_with (go_at_call 57; go_in)
  rw [Exit.noGoto_ret]
  exact bodyPost_ret (v := .tuple #[.int .u64 75, .int .i64 (-2), .bool false, .bool false, .bool false, .int .i64 4, .bool true]) (by simp [results, Tryd.results41, go_sem]) rfl ⟨rfl, rfl⟩
set_option maxRecDepth 100000 in
set_option maxHeartbeats 8000000 in
theorem special_4 (w : World) : Calls Tryd.prog 40 #[.string (bs [49])] w fun e w' => e = .returned (.tuple #[.float .f64 0, .int .i64 0, .bool false]) ∧ w = w' := by
  obtain ⟨S, hS⟩ : ∃ S, S = bs [49] := ⟨_, rfl⟩
  have hsz : S.size = 1 := by subst hS; rfl
  have c0 : ((S[0]'(by rw [hsz]; decide)).toNat : Int) = 49 := by subst hS; rfl
  rw [← hS]
  clear hS
  have lw := lower_46
  go_enter Tryd.func40, Tryd.ntmps40
  go_wp2_with fail
  go_ret3
  exact ⟨rfl, rfl⟩
set_option maxRecDepth 100000 in
set_option maxHeartbeats 8000000 in
theorem read_4 (w : World) : Calls Tryd.prog 41 #[.string (bs [49])] w fun e w' => e = .returned (.tuple #[.int .u64 1, .int .i64 0, .bool false, .bool false, .bool false, .int .i64 1, .bool true]) ∧ w = w' := by
  obtain ⟨S, hS⟩ : ∃ S, S = bs [49] := ⟨_, rfl⟩
  have hsz : S.size = 1 := by subst hS; rfl
  have c0 : ((S[0]'(by rw [hsz]; decide)).toNat : Int) = 49 := by subst hS; rfl
  rw [← hS]
  clear hS
  have lw := lower_46
  go_enter Tryd.func41, Tryd.ntmps41
  go_wp2_with fail
  go_step3
  go_wp2_with (go_at_call 57; go_in)
  go_step3
  go_wp2_with (go_at_call 57; go_in)
  refine wp_loop_rounds 2 ?_
  rw [rounds_succ]
  go_wp2_with (go_at_call 57; go_in)
  rw [rounds_succ]
  go_wp2_with (go_at_call 57; go_in)
  rw [Exit.noGoto_ret]
  exact bodyPost_ret (v := .tuple #[.int .u64 1, .int .i64 0, .bool false, .bool false, .bool false, .int .i64 1, .bool true]) (by simp [results, Tryd.results41, go_sem]) rfl ⟨rfl, rfl⟩
end Go.Proofs.YtakckfghiaoonaaDoor
