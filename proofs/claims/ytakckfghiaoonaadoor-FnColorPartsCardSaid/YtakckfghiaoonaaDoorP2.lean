/-
FnColorParts: ParseFloat at five numbers: the walks. Conditions: one of the five texts; what the listed variables hold.
-/
import Derived.Test.YtakckfghiaoonaaDoorP1
import Derived.Laws.Externs
namespace Go.Proofs.YtakckfghiaoonaaDoor
open Go.RowKit Go.ChangeShapes Go.Proofs.YtakckfghiaoonaaDoorW.PrintWords

/-- What the listed variables hold that are read. -/
structure Vars (w : World) : Prop where
  opt : w.cell? ⟨13, 0, none⟩ = some (.bool true)
  pow : ∃ (a : Addr) (c : Nat), w.cell? ⟨15, 0, none⟩ = some (.slice (some a) 11 c) ∧ w.cell? ⟨a.block, a.off + 1, none⟩ = some (.float .f32 1092616192) ∧ w.cell? ⟨a.block, a.off + 2, none⟩ = some (.float .f32 1120403456)
theorem Vars.below {w W : World} (h : Vars w) (hb : Below w.heap.size w W) : Vars W := by
  obtain ⟨o, a, c, p1, p2, p3⟩ := h
  exact ⟨pw_cell_below hb o, a, c, pw_cell_below hb p1, pw_cell_below hb p2, pw_cell_below hb p3⟩
theorem frombits_run (x : Nat) (w : World) : (callFunc 44 #[.int .u32 (x : Int)]).run Tryd.prog w = .ok (.value (.float .f32 x)) w := by
  rw [run_callFunc_extern (e := Extern.MathFloatBits.float32frombits) Tryd.func44 (by kernel_rfl) (by kernel_rfl) (by kernel_rfl) (by kernel_rfl)]
  rfl

set_option maxRecDepth 100000 in
set_option maxHeartbeats 8000000 in
theorem atof_0 (w : World) (h : Vars w) : Calls Tryd.prog 36 #[.string (bs [48])] w fun e w' => e = .returned (.tuple #[.float .f32 0, .int .i64 1, .nilIface]) ∧ w = w' := by
  have ho := h.opt
  have H1 := Lib.hid (special_0 w)
  have H2 := Lib.hid (read_0 w)
  have fb : ∀ w : World, (callFunc 44 #[.int .u32 0]).run Tryd.prog w = .ok (.value (.float .f32 0)) w := fun w => frombits_run 0 w
  have hor : bits .or .u32 0 0 = 0 := by decide
  generalize bs [48] = S at H1 H2
  go_enter Tryd.func36, Tryd.ntmps36
  go_wp2_with (first | (go_at_call 40; refine H1.out.mono ?_; rintro e w1 ⟨rfl, rfl⟩) | (go_at_call 41; refine H2.out.mono ?_; rintro e w2 ⟨rfl, rfl⟩) | (go_at_call 43; go_in))
  go_ret3
  exact ⟨rfl, rfl⟩
set_option maxHeartbeats 8000000 in
theorem parse_0 (w : World) (h : Vars w) : Calls Tryd.prog 23 #[.string (bs [48]), .int .i64 32] w fun e w' => e = .returned (.tuple #[.float .f64 0, .nilIface]) ∧ w = w' := by
  have hsz : (bs [48]).size = 1 := rfl
  have cv := fun (w : World) => run_convert_float_float (P := Tryd.prog) w 36 24 .f32 .f64 0 0 (by kernel_rfl) (by kernel_rfl) (by decide +kernel)
  have H := Lib.hid (atof_0 w h)
  generalize bs [48] = S at hsz H
  have H3 : Calls Tryd.prog 31 #[.string S, .int .i64 32] w fun e w' => e = .returned (.tuple #[.float .f64 0, .int .i64 1, .nilIface]) ∧ w = w' := by
    go_enter Tryd.func31, Tryd.ntmps31
    go_wp2_with (go_at_call 36; refine H.out.mono ?_; rintro e w1 ⟨rfl, rfl⟩)
    go_ret3
    exact ⟨rfl, rfl⟩
  have H3 := Lib.hid H3
  have H4 : Calls Tryd.prog 27 #[.string S, .int .i64 32] w fun e w' => e = .returned (.tuple #[.float .f64 0, .nilIface]) ∧ w = w' := by
    go_enter Tryd.func27, Tryd.ntmps27
    go_wp2_with (go_at_call 31; refine H3.out.mono ?_; rintro e w1 ⟨rfl, rfl⟩)
    go_ret2
    exact ⟨rfl, rfl⟩
  have H4 := Lib.hid H4
  go_enter Tryd.func23, Tryd.ntmps23
  go_wp2_with (go_at_call 27; refine H4.out.mono ?_; rintro e w1 ⟨rfl, rfl⟩)
  go_ret2
  exact ⟨rfl, rfl⟩
set_option maxRecDepth 100000 in
set_option maxHeartbeats 8000000 in
theorem exact_1 (w : World) (h : Vars w) : Calls Tryd.prog 45 #[.int .u64 25, .int .i64 (-2), .bool false] w fun e w' => e = .returned (.tuple #[.float .f32 1048576000, .bool true]) ∧ w = w' := by
  obtain ⟨_, a, c, p1, p2, p3⟩ := h
  have q := fun (t : TypeId) (w : World) => run_float_arith (P := Tryd.prog) w .quo t .f32 (floatOfInt .f32 25) 1120403456 1048576000 (by decide +kernel)
  go_enter Tryd.func45, Tryd.ntmps45
  go_wp2_with fail
  go_ret2
  exact ⟨rfl, rfl⟩
set_option maxRecDepth 100000 in
set_option maxHeartbeats 8000000 in
theorem atof_1 (w : World) (h : Vars w) : Calls Tryd.prog 36 #[.string (bs [48, 46, 50, 53])] w fun e w' => e = .returned (.tuple #[.float .f32 1048576000, .int .i64 4, .nilIface]) ∧ w = w' := by
  have ho := h.opt
  have H1 := Lib.hid (special_1 w)
  have H2 := Lib.hid (read_1 w)
  have fb : ∀ w : World, (callFunc 44 #[.int .u32 0]).run Tryd.prog w = .ok (.value (.float .f32 0)) w := fun w => frombits_run 0 w
  have hor : bits .or .u32 0 0 = 0 := by decide
  generalize bs [48, 46, 50, 53] = S at H1 H2
  go_enter Tryd.func36, Tryd.ntmps36
  go_wp2_with (first | (go_at_call 40; refine H1.out.mono ?_; rintro e w1 ⟨rfl, rfl⟩) | (go_at_call 41; refine H2.out.mono ?_; rintro e w2 ⟨rfl, rfl⟩) | (go_at_call 45; refine (exact_1 _ h).mono ?_; rintro e w3 ⟨rfl, rfl⟩) | (go_at_call 43; go_in))
  go_ret3
  exact ⟨rfl, rfl⟩
set_option maxHeartbeats 8000000 in
theorem parse_1 (w : World) (h : Vars w) : Calls Tryd.prog 23 #[.string (bs [48, 46, 50, 53]), .int .i64 32] w fun e w' => e = .returned (.tuple #[.float .f64 4598175219545276416, .nilIface]) ∧ w = w' := by
  have hsz : (bs [48, 46, 50, 53]).size = 4 := rfl
  have cv := fun (w : World) => run_convert_float_float (P := Tryd.prog) w 36 24 .f32 .f64 1048576000 4598175219545276416 (by kernel_rfl) (by kernel_rfl) (by decide +kernel)
  have H := Lib.hid (atof_1 w h)
  generalize bs [48, 46, 50, 53] = S at hsz H
  have H3 : Calls Tryd.prog 31 #[.string S, .int .i64 32] w fun e w' => e = .returned (.tuple #[.float .f64 4598175219545276416, .int .i64 4, .nilIface]) ∧ w = w' := by
    go_enter Tryd.func31, Tryd.ntmps31
    go_wp2_with (go_at_call 36; refine H.out.mono ?_; rintro e w1 ⟨rfl, rfl⟩)
    go_ret3
    exact ⟨rfl, rfl⟩
  have H3 := Lib.hid H3
  have H4 : Calls Tryd.prog 27 #[.string S, .int .i64 32] w fun e w' => e = .returned (.tuple #[.float .f64 4598175219545276416, .nilIface]) ∧ w = w' := by
    go_enter Tryd.func27, Tryd.ntmps27
    go_wp2_with (go_at_call 31; refine H3.out.mono ?_; rintro e w1 ⟨rfl, rfl⟩)
    go_ret2
    exact ⟨rfl, rfl⟩
  have H4 := Lib.hid H4
  go_enter Tryd.func23, Tryd.ntmps23
  go_wp2_with (go_at_call 27; refine H4.out.mono ?_; rintro e w1 ⟨rfl, rfl⟩)
  go_ret2
  exact ⟨rfl, rfl⟩
set_option maxRecDepth 100000 in
set_option maxHeartbeats 8000000 in
theorem exact_2 (w : World) (h : Vars w) : Calls Tryd.prog 45 #[.int .u64 5, .int .i64 (-1), .bool false] w fun e w' => e = .returned (.tuple #[.float .f32 1056964608, .bool true]) ∧ w = w' := by
  obtain ⟨_, a, c, p1, p2, p3⟩ := h
  have q := fun (t : TypeId) (w : World) => run_float_arith (P := Tryd.prog) w .quo t .f32 (floatOfInt .f32 5) 1092616192 1056964608 (by decide +kernel)
  go_enter Tryd.func45, Tryd.ntmps45
  go_wp2_with fail
  go_ret2
  exact ⟨rfl, rfl⟩
set_option maxRecDepth 100000 in
set_option maxHeartbeats 8000000 in
theorem atof_2 (w : World) (h : Vars w) : Calls Tryd.prog 36 #[.string (bs [48, 46, 53])] w fun e w' => e = .returned (.tuple #[.float .f32 1056964608, .int .i64 3, .nilIface]) ∧ w = w' := by
  have ho := h.opt
  have H1 := Lib.hid (special_2 w)
  have H2 := Lib.hid (read_2 w)
  have fb : ∀ w : World, (callFunc 44 #[.int .u32 0]).run Tryd.prog w = .ok (.value (.float .f32 0)) w := fun w => frombits_run 0 w
  have hor : bits .or .u32 0 0 = 0 := by decide
  generalize bs [48, 46, 53] = S at H1 H2
  go_enter Tryd.func36, Tryd.ntmps36
  go_wp2_with (first | (go_at_call 40; refine H1.out.mono ?_; rintro e w1 ⟨rfl, rfl⟩) | (go_at_call 41; refine H2.out.mono ?_; rintro e w2 ⟨rfl, rfl⟩) | (go_at_call 45; refine (exact_2 _ h).mono ?_; rintro e w3 ⟨rfl, rfl⟩) | (go_at_call 43; go_in))
  go_ret3
  exact ⟨rfl, rfl⟩
set_option maxHeartbeats 8000000 in
theorem parse_2 (w : World) (h : Vars w) : Calls Tryd.prog 23 #[.string (bs [48, 46, 53]), .int .i64 32] w fun e w' => e = .returned (.tuple #[.float .f64 4602678819172646912, .nilIface]) ∧ w = w' := by
  have hsz : (bs [48, 46, 53]).size = 3 := rfl
  have cv := fun (w : World) => run_convert_float_float (P := Tryd.prog) w 36 24 .f32 .f64 1056964608 4602678819172646912 (by kernel_rfl) (by kernel_rfl) (by decide +kernel)
  have H := Lib.hid (atof_2 w h)
  generalize bs [48, 46, 53] = S at hsz H
  have H3 : Calls Tryd.prog 31 #[.string S, .int .i64 32] w fun e w' => e = .returned (.tuple #[.float .f64 4602678819172646912, .int .i64 3, .nilIface]) ∧ w = w' := by
    go_enter Tryd.func31, Tryd.ntmps31
    go_wp2_with (go_at_call 36; refine H.out.mono ?_; rintro e w1 ⟨rfl, rfl⟩)
    go_ret3
    exact ⟨rfl, rfl⟩
  have H3 := Lib.hid H3
  have H4 : Calls Tryd.prog 27 #[.string S, .int .i64 32] w fun e w' => e = .returned (.tuple #[.float .f64 4602678819172646912, .nilIface]) ∧ w = w' := by
    go_enter Tryd.func27, Tryd.ntmps27
    go_wp2_with (go_at_call 31; refine H3.out.mono ?_; rintro e w1 ⟨rfl, rfl⟩)
    go_ret2
    exact ⟨rfl, rfl⟩
  have H4 := Lib.hid H4
  go_enter Tryd.func23, Tryd.ntmps23
  go_wp2_with (go_at_call 27; refine H4.out.mono ?_; rintro e w1 ⟨rfl, rfl⟩)
  go_ret2
  exact ⟨rfl, rfl⟩
set_option maxRecDepth 100000 in
set_option maxHeartbeats 8000000 in
theorem exact_3 (w : World) (h : Vars w) : Calls Tryd.prog 45 #[.int .u64 75, .int .i64 (-2), .bool false] w fun e w' => e = .returned (.tuple #[.float .f32 1061158912, .bool true]) ∧ w = w' := by
  obtain ⟨_, a, c, p1, p2, p3⟩ := h
  have q := fun (t : TypeId) (w : World) => run_float_arith (P := Tryd.prog) w .quo t .f32 (floatOfInt .f32 75) 1120403456 1061158912 (by decide +kernel)
  go_enter Tryd.func45, Tryd.ntmps45
  go_wp2_with fail
  go_ret2
  exact ⟨rfl, rfl⟩
set_option maxRecDepth 100000 in
set_option maxHeartbeats 8000000 in
theorem atof_3 (w : World) (h : Vars w) : Calls Tryd.prog 36 #[.string (bs [48, 46, 55, 53])] w fun e w' => e = .returned (.tuple #[.float .f32 1061158912, .int .i64 4, .nilIface]) ∧ w = w' := by
  have ho := h.opt
  have H1 := Lib.hid (special_3 w)
  have H2 := Lib.hid (read_3 w)
  have fb : ∀ w : World, (callFunc 44 #[.int .u32 0]).run Tryd.prog w = .ok (.value (.float .f32 0)) w := fun w => frombits_run 0 w
  have hor : bits .or .u32 0 0 = 0 := by decide
  generalize bs [48, 46, 55, 53] = S at H1 H2
  go_enter Tryd.func36, Tryd.ntmps36
  go_wp2_with (first | (go_at_call 40; refine H1.out.mono ?_; rintro e w1 ⟨rfl, rfl⟩) | (go_at_call 41; refine H2.out.mono ?_; rintro e w2 ⟨rfl, rfl⟩) | (go_at_call 45; refine (exact_3 _ h).mono ?_; rintro e w3 ⟨rfl, rfl⟩) | (go_at_call 43; go_in))
  go_ret3
  exact ⟨rfl, rfl⟩
set_option maxHeartbeats 8000000 in
theorem parse_3 (w : World) (h : Vars w) : Calls Tryd.prog 23 #[.string (bs [48, 46, 55, 53]), .int .i64 32] w fun e w' => e = .returned (.tuple #[.float .f64 4604930618986332160, .nilIface]) ∧ w = w' := by
  have hsz : (bs [48, 46, 55, 53]).size = 4 := rfl
  have cv := fun (w : World) => run_convert_float_float (P := Tryd.prog) w 36 24 .f32 .f64 1061158912 4604930618986332160 (by kernel_rfl) (by kernel_rfl) (by decide +kernel)
  have H := Lib.hid (atof_3 w h)
  generalize bs [48, 46, 55, 53] = S at hsz H
  have H3 : Calls Tryd.prog 31 #[.string S, .int .i64 32] w fun e w' => e = .returned (.tuple #[.float .f64 4604930618986332160, .int .i64 4, .nilIface]) ∧ w = w' := by
    go_enter Tryd.func31, Tryd.ntmps31
    go_wp2_with (go_at_call 36; refine H.out.mono ?_; rintro e w1 ⟨rfl, rfl⟩)
    go_ret3
    exact ⟨rfl, rfl⟩
  have H3 := Lib.hid H3
  have H4 : Calls Tryd.prog 27 #[.string S, .int .i64 32] w fun e w' => e = .returned (.tuple #[.float .f64 4604930618986332160, .nilIface]) ∧ w = w' := by
    go_enter Tryd.func27, Tryd.ntmps27
    go_wp2_with (go_at_call 31; refine H3.out.mono ?_; rintro e w1 ⟨rfl, rfl⟩)
    go_ret2
    exact ⟨rfl, rfl⟩
  have H4 := Lib.hid H4
  go_enter Tryd.func23, Tryd.ntmps23
  go_wp2_with (go_at_call 27; refine H4.out.mono ?_; rintro e w1 ⟨rfl, rfl⟩)
  go_ret2
  exact ⟨rfl, rfl⟩
set_option maxRecDepth 100000 in
set_option maxHeartbeats 8000000 in
theorem exact_4 (w : World) (h : Vars w) : Calls Tryd.prog 45 #[.int .u64 1, .int .i64 0, .bool false] w fun e w' => e = .returned (.tuple #[.float .f32 1065353216, .bool true]) ∧ w = w' := by
  obtain ⟨_, a, c, p1, p2, p3⟩ := h
  have q : floatOfInt .f32 1 = 1065353216 := by decide +kernel
  go_enter Tryd.func45, Tryd.ntmps45
  go_wp2_with fail
  go_ret2
  exact ⟨rfl, rfl⟩
set_option maxRecDepth 100000 in
set_option maxHeartbeats 8000000 in
theorem atof_4 (w : World) (h : Vars w) : Calls Tryd.prog 36 #[.string (bs [49])] w fun e w' => e = .returned (.tuple #[.float .f32 1065353216, .int .i64 1, .nilIface]) ∧ w = w' := by
  have ho := h.opt
  have H1 := Lib.hid (special_4 w)
  have H2 := Lib.hid (read_4 w)
  have fb : ∀ w : World, (callFunc 44 #[.int .u32 0]).run Tryd.prog w = .ok (.value (.float .f32 0)) w := fun w => frombits_run 0 w
  have hor : bits .or .u32 0 0 = 0 := by decide
  generalize bs [49] = S at H1 H2
  go_enter Tryd.func36, Tryd.ntmps36
  go_wp2_with (first | (go_at_call 40; refine H1.out.mono ?_; rintro e w1 ⟨rfl, rfl⟩) | (go_at_call 41; refine H2.out.mono ?_; rintro e w2 ⟨rfl, rfl⟩) | (go_at_call 45; refine (exact_4 _ h).mono ?_; rintro e w3 ⟨rfl, rfl⟩) | (go_at_call 43; go_in))
  go_ret3
  exact ⟨rfl, rfl⟩
set_option maxHeartbeats 8000000 in
theorem parse_4 (w : World) (h : Vars w) : Calls Tryd.prog 23 #[.string (bs [49]), .int .i64 32] w fun e w' => e = .returned (.tuple #[.float .f64 4607182418800017408, .nilIface]) ∧ w = w' := by
  have hsz : (bs [49]).size = 1 := rfl
  have cv := fun (w : World) => run_convert_float_float (P := Tryd.prog) w 36 24 .f32 .f64 1065353216 4607182418800017408 (by kernel_rfl) (by kernel_rfl) (by decide +kernel)
  have H := Lib.hid (atof_4 w h)
  generalize bs [49] = S at hsz H
  have H3 : Calls Tryd.prog 31 #[.string S, .int .i64 32] w fun e w' => e = .returned (.tuple #[.float .f64 4607182418800017408, .int .i64 1, .nilIface]) ∧ w = w' := by
    go_enter Tryd.func31, Tryd.ntmps31
    go_wp2_with (go_at_call 36; refine H.out.mono ?_; rintro e w1 ⟨rfl, rfl⟩)
    go_ret3
    exact ⟨rfl, rfl⟩
  have H3 := Lib.hid H3
  have H4 : Calls Tryd.prog 27 #[.string S, .int .i64 32] w fun e w' => e = .returned (.tuple #[.float .f64 4607182418800017408, .nilIface]) ∧ w = w' := by
    go_enter Tryd.func27, Tryd.ntmps27
    go_wp2_with (go_at_call 31; refine H3.out.mono ?_; rintro e w1 ⟨rfl, rfl⟩)
    go_ret2
    exact ⟨rfl, rfl⟩
  have H4 := Lib.hid H4
  go_enter Tryd.func23, Tryd.ntmps23
  go_wp2_with (go_at_call 27; refine H4.out.mono ?_; rintro e w1 ⟨rfl, rfl⟩)
  go_ret2
  exact ⟨rfl, rfl⟩
end Go.Proofs.YtakckfghiaoonaaDoor
