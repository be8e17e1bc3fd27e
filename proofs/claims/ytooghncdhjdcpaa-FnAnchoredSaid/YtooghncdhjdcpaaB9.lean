/-
The law FnAnchored: its functions walked. Conditions: the operations' answers are given.
-/
import Derived.Test.YtooghncdhjdcpaaA6
import Derived.Test.YtooghncdhjdcpaaFx
namespace Go.Proofs.Ytooghncdhjdcpaa
open Go.RowKit Fl

/-- The operations' answers on the road to a place. -/
structure AF (a b c d m n x y xs xc xh mh xd ys yc yh nh yd : Nat) : Prop where
  e1 : floatBits .sub .f64 c a = some x
  e2 : floatBits .sub .f64 d b = some y
  e3 : floatBits .sub .f64 x m = some xs
  e4 : floatBits .quo .f64 xs 4611686018427387904 = some xc
  e5 : floatBits .quo .f64 x 4611686018427387904 = some xh
  e6 : floatBits .quo .f64 m 4611686018427387904 = some mh
  e7 : floatBits .sub .f64 xh mh = some xd
  f3 : floatBits .sub .f64 y n = some ys
  f4 : floatBits .quo .f64 ys 4611686018427387904 = some yc
  f5 : floatBits .quo .f64 y 4611686018427387904 = some yh
  f6 : floatBits .quo .f64 n 4611686018427387904 = some nh
  f7 : floatBits .sub .f64 yh nh = some yd

set_option maxHeartbeats 800000 in
theorem pos_0 {g a b c d m n x y xs xc xh mh xd ys yc yh nh yd : Nat} (w : World) (hr : RectAt w g a b c d) (h : AF a b c d m n x y xs xc xh mh xd ys yc yh nh yd) :
    Calls Try.prog 76 #[.int .i64 0, .pointer (some ⟨g, 0, none⟩), .float .f64 m, .float .f64 n] w fun e w' => e = .returned (.tuple #[.float .f64 0, .float .f64 ys]) ∧ Below w.heap.size w w' := by
  have H1 := Lib.hid h.e1
  have H2 := Lib.hid h.e2
  have o3 := run_bin (P := Try.prog) .sub h.e3
  have o4 := run_bin (P := Try.prog) .quo h.e4
  have o5 := run_bin (P := Try.prog) .quo h.e5
  have o6 := run_bin (P := Try.prog) .quo h.e6
  have o7 := run_bin (P := Try.prog) .sub h.e7
  have q3 := run_bin (P := Try.prog) .sub h.f3
  have q4 := run_bin (P := Try.prog) .quo h.f4
  have q5 := run_bin (P := Try.prog) .quo h.f5
  have q6 := run_bin (P := Try.prog) .quo h.f6
  have q7 := run_bin (P := Try.prog) .sub h.f7
  obtain ⟨g0, g1, g2, g3, g4⟩ := hr
  have p1 := run_bin (P := Try.prog) .sub h.e1
  have p2 := run_bin (P := Try.prog) .sub h.e2
  clear h
  go_enter Try.func76, Try.ntmps76
  go_wp2_with (first | (go_at_call 99; go_in) | (go_at_call 100; go_in))
  go_ret2
  exact ⟨rfl, (by repeat (first | exact Below.refl _ _ | refine bel_drew ?_ | refine bel_alloc _ ?_ | refine bel_drewN _ ?_ | refine bel_trans (by assumption) ?_ | refine bel_set _ _ (by simp) ?_))⟩

theorem anchored_0 {a b c d m n x y xs xc xh mh xd ys yc yh nh yd : Nat} (w : World) (h : AF a b c d m n x y xs xc xh mh xd ys yc yh nh yd) :
    Calls Try.prog 43 #[.int .i64 0, .agg #[.float .f64 a, .float .f64 b, .float .f64 c, .float .f64 d], .float .f64 m, .float .f64 n] w fun e w' => e = .returned (.agg #[.float .f64 0, .float .f64 ys]) ∧ Below w.heap.size w w' := by
  have H := Lib.hid (fun W g (hr : RectAt W g a b c d) => pos_0 W hr h)
  clear h
  go_enter Try.func43, Try.ntmps43
  go_wp2_with (first
    | (go_at_call 67; refine (rect_exact a b c d _).mono ?_; rintro e w' ⟨rfl, rfl⟩)
    | (go_at_call 76; refine (H.out _ _ (rectAt_new _ _ _ _ _ _ _ (by simp))).mono ?_; rintro e w' ⟨rfl, hb⟩; have hB := (blank2_below (n := w.heap.size + 1) (v0 := .float .f64 0) (v1 := .float .f64 0) (by repeat (first | exact blank2_base _ _ _ _ _ (by simp) | refine blank2_drew ?_ | refine blank2_alloc _ ?_ | refine blank2_below ?_ (by assumption))) hb)))
  obtain ⟨z0, z1, z2, z3, z4⟩ := hB
  exact bodyPost_ret (v := .agg #[.float .f64 0, .float .f64 ys]) (by simp [results, Try.results43, go_sem, z1, z2]) rfl ⟨rfl, (by repeat (first | exact Below.refl _ _ | refine bel_drew ?_ | refine bel_alloc _ ?_ | refine bel_drewN _ ?_ | refine bel_trans (by assumption) ?_ | refine bel_set _ _ (by simp) ?_))⟩

set_option maxHeartbeats 800000 in
theorem place_0 {a b c d m n x y xs xc xh mh xd ys yc yh nh yd : Nat} (w : World) (h : AF a b c d m n x y xs xc xh mh xd ys yc yh nh yd) :
    Calls Try.prog 42 #[.int .i64 0, .agg #[.float .f64 a, .float .f64 b, .float .f64 c, .float .f64 d], .float .f64 m, .float .f64 n] w fun e w' => e = .returned (.tuple #[.agg #[.float .f64 0, .float .f64 ys], .bool true]) ∧ Below w.heap.size w w' := by
  have o3 := run_bin (P := Try.prog) .sub h.e3
  have o4 := run_bin (P := Try.prog) .quo h.e4
  have o5 := run_bin (P := Try.prog) .quo h.e5
  have o6 := run_bin (P := Try.prog) .quo h.e6
  have o7 := run_bin (P := Try.prog) .sub h.e7
  have q3 := run_bin (P := Try.prog) .sub h.f3
  have q4 := run_bin (P := Try.prog) .quo h.f4
  have q5 := run_bin (P := Try.prog) .quo h.f5
  have q6 := run_bin (P := Try.prog) .quo h.f6
  have q7 := run_bin (P := Try.prog) .sub h.f7
  have p1 := run_bin (P := Try.prog) .sub h.e1
  have p2 := run_bin (P := Try.prog) .sub h.e2
  clear h
  go_enter Try.func42, Try.ntmps42
  go_wp2_with fail
  go_region
  go_wp2
  exact bodyPost_ret (v := .tuple #[.agg #[.float .f64 0, .float .f64 ys], .bool true]) (by simp [results, Try.results42, go_sem]) rfl ⟨rfl, (by repeat (first | exact Below.refl _ _ | refine bel_drew ?_ | refine bel_alloc _ ?_ | refine bel_drewN _ ?_ | refine bel_trans (by assumption) ?_ | refine bel_set _ _ (by simp) ?_))⟩

set_option maxHeartbeats 800000 in
theorem pos_1 {g a b c d m n x y xs xc xh mh xd ys yc yh nh yd : Nat} (w : World) (hr : RectAt w g a b c d) (h : AF a b c d m n x y xs xc xh mh xd ys yc yh nh yd) :
    Calls Try.prog 76 #[.int .i64 1, .pointer (some ⟨g, 0, none⟩), .float .f64 m, .float .f64 n] w fun e w' => e = .returned (.tuple #[.float .f64 xd, .float .f64 ys]) ∧ Below w.heap.size w w' := by
  have H1 := Lib.hid h.e1
  have H2 := Lib.hid h.e2
  have o3 := run_bin (P := Try.prog) .sub h.e3
  have o4 := run_bin (P := Try.prog) .quo h.e4
  have o5 := run_bin (P := Try.prog) .quo h.e5
  have o6 := run_bin (P := Try.prog) .quo h.e6
  have o7 := run_bin (P := Try.prog) .sub h.e7
  have q3 := run_bin (P := Try.prog) .sub h.f3
  have q4 := run_bin (P := Try.prog) .quo h.f4
  have q5 := run_bin (P := Try.prog) .quo h.f5
  have q6 := run_bin (P := Try.prog) .quo h.f6
  have q7 := run_bin (P := Try.prog) .sub h.f7
  clear h
  go_enter Try.func76, Try.ntmps76
  go_wp2_with fail
  go_region_held3 (fun w' => Below w.heap.size w w' ∧ g < w'.heap.size ∧ w'.cell? ⟨g, 0, none⟩ = some (.float .f64 a) ∧ w'.cell? ⟨g, 1, none⟩ = some (.float .f64 b) ∧ w'.cell? ⟨g, 2, none⟩ = some (.float .f64 c) ∧ w'.cell? ⟨g, 3, none⟩ = some (.float .f64 d))
    (first | assumption | exact kept4_arg hr | exact keep4 (by assumption) (by assumption))
    (first
      | (go_at_call 99; refine (width_any _ H1.out).mono ?_; rintro e w' ⟨rfl, hb⟩)
      | (go_at_call 100; refine (height_any _ H2.out).mono ?_; rintro e w' ⟨rfl, hb⟩))
  rename_i hh
  go_wp2
  go_ret2
  exact ⟨rfl, hh.1⟩

theorem anchored_1 {a b c d m n x y xs xc xh mh xd ys yc yh nh yd : Nat} (w : World) (h : AF a b c d m n x y xs xc xh mh xd ys yc yh nh yd) :
    Calls Try.prog 43 #[.int .i64 1, .agg #[.float .f64 a, .float .f64 b, .float .f64 c, .float .f64 d], .float .f64 m, .float .f64 n] w fun e w' => e = .returned (.agg #[.float .f64 xd, .float .f64 ys]) ∧ Below w.heap.size w w' := by
  have H := Lib.hid (fun W g (hr : RectAt W g a b c d) => pos_1 W hr h)
  clear h
  go_enter Try.func43, Try.ntmps43
  go_wp2_with (first
    | (go_at_call 67; refine (rect_exact a b c d _).mono ?_; rintro e w' ⟨rfl, rfl⟩)
    | (go_at_call 76; refine (H.out _ _ (rectAt_new _ _ _ _ _ _ _ (by simp))).mono ?_; rintro e w' ⟨rfl, hb⟩; have hB := (blank2_below (n := w.heap.size + 1) (v0 := .float .f64 0) (v1 := .float .f64 0) (by repeat (first | exact blank2_base _ _ _ _ _ (by simp) | refine blank2_drew ?_ | refine blank2_alloc _ ?_ | refine blank2_below ?_ (by assumption))) hb)))
  obtain ⟨z0, z1, z2, z3, z4⟩ := hB
  exact bodyPost_ret (v := .agg #[.float .f64 xd, .float .f64 ys]) (by simp [results, Try.results43, go_sem, z1, z2]) rfl ⟨rfl, (by repeat (first | exact Below.refl _ _ | refine bel_drew ?_ | refine bel_alloc _ ?_ | refine bel_drewN _ ?_ | refine bel_trans (by assumption) ?_ | refine bel_set _ _ (by simp) ?_))⟩

set_option maxHeartbeats 800000 in
theorem place_1 {a b c d m n x y xs xc xh mh xd ys yc yh nh yd : Nat} (w : World) (h : AF a b c d m n x y xs xc xh mh xd ys yc yh nh yd) :
    Calls Try.prog 42 #[.int .i64 1, .agg #[.float .f64 a, .float .f64 b, .float .f64 c, .float .f64 d], .float .f64 m, .float .f64 n] w fun e w' => e = .returned (.tuple #[.agg #[.float .f64 xc, .float .f64 ys], .bool true]) ∧ Below w.heap.size w w' := by
  have o3 := run_bin (P := Try.prog) .sub h.e3
  have o4 := run_bin (P := Try.prog) .quo h.e4
  have o5 := run_bin (P := Try.prog) .quo h.e5
  have o6 := run_bin (P := Try.prog) .quo h.e6
  have o7 := run_bin (P := Try.prog) .sub h.e7
  have q3 := run_bin (P := Try.prog) .sub h.f3
  have q4 := run_bin (P := Try.prog) .quo h.f4
  have q5 := run_bin (P := Try.prog) .quo h.f5
  have q6 := run_bin (P := Try.prog) .quo h.f6
  have q7 := run_bin (P := Try.prog) .sub h.f7
  have p1 := run_bin (P := Try.prog) .sub h.e1
  have p2 := run_bin (P := Try.prog) .sub h.e2
  clear h
  go_enter Try.func42, Try.ntmps42
  go_wp2_with fail
  go_region
  go_wp2
  exact bodyPost_ret (v := .tuple #[.agg #[.float .f64 xc, .float .f64 ys], .bool true]) (by simp [results, Try.results42, go_sem]) rfl ⟨rfl, (by repeat (first | exact Below.refl _ _ | refine bel_drew ?_ | refine bel_alloc _ ?_ | refine bel_drewN _ ?_ | refine bel_trans (by assumption) ?_ | refine bel_set _ _ (by simp) ?_))⟩

set_option maxHeartbeats 800000 in
theorem pos_2 {g a b c d m n x y xs xc xh mh xd ys yc yh nh yd : Nat} (w : World) (hr : RectAt w g a b c d) (h : AF a b c d m n x y xs xc xh mh xd ys yc yh nh yd) :
    Calls Try.prog 76 #[.int .i64 2, .pointer (some ⟨g, 0, none⟩), .float .f64 m, .float .f64 n] w fun e w' => e = .returned (.tuple #[.float .f64 xs, .float .f64 ys]) ∧ Below w.heap.size w w' := by
  have H1 := Lib.hid h.e1
  have H2 := Lib.hid h.e2
  have o3 := run_bin (P := Try.prog) .sub h.e3
  have o4 := run_bin (P := Try.prog) .quo h.e4
  have o5 := run_bin (P := Try.prog) .quo h.e5
  have o6 := run_bin (P := Try.prog) .quo h.e6
  have o7 := run_bin (P := Try.prog) .sub h.e7
  have q3 := run_bin (P := Try.prog) .sub h.f3
  have q4 := run_bin (P := Try.prog) .quo h.f4
  have q5 := run_bin (P := Try.prog) .quo h.f5
  have q6 := run_bin (P := Try.prog) .quo h.f6
  have q7 := run_bin (P := Try.prog) .sub h.f7
  clear h
  go_enter Try.func76, Try.ntmps76
  go_wp2_with fail
  go_region_held3 (fun w' => Below w.heap.size w w' ∧ g < w'.heap.size ∧ w'.cell? ⟨g, 0, none⟩ = some (.float .f64 a) ∧ w'.cell? ⟨g, 1, none⟩ = some (.float .f64 b) ∧ w'.cell? ⟨g, 2, none⟩ = some (.float .f64 c) ∧ w'.cell? ⟨g, 3, none⟩ = some (.float .f64 d))
    (first | assumption | exact kept4_arg hr | exact keep4 (by assumption) (by assumption))
    (first
      | (go_at_call 99; refine (width_any _ H1.out).mono ?_; rintro e w' ⟨rfl, hb⟩)
      | (go_at_call 100; refine (height_any _ H2.out).mono ?_; rintro e w' ⟨rfl, hb⟩))
  rename_i hh
  go_wp2
  go_ret2
  exact ⟨rfl, hh.1⟩

theorem anchored_2 {a b c d m n x y xs xc xh mh xd ys yc yh nh yd : Nat} (w : World) (h : AF a b c d m n x y xs xc xh mh xd ys yc yh nh yd) :
    Calls Try.prog 43 #[.int .i64 2, .agg #[.float .f64 a, .float .f64 b, .float .f64 c, .float .f64 d], .float .f64 m, .float .f64 n] w fun e w' => e = .returned (.agg #[.float .f64 xs, .float .f64 ys]) ∧ Below w.heap.size w w' := by
  have H := Lib.hid (fun W g (hr : RectAt W g a b c d) => pos_2 W hr h)
  clear h
  go_enter Try.func43, Try.ntmps43
  go_wp2_with (first
    | (go_at_call 67; refine (rect_exact a b c d _).mono ?_; rintro e w' ⟨rfl, rfl⟩)
    | (go_at_call 76; refine (H.out _ _ (rectAt_new _ _ _ _ _ _ _ (by simp))).mono ?_; rintro e w' ⟨rfl, hb⟩; have hB := (blank2_below (n := w.heap.size + 1) (v0 := .float .f64 0) (v1 := .float .f64 0) (by repeat (first | exact blank2_base _ _ _ _ _ (by simp) | refine blank2_drew ?_ | refine blank2_alloc _ ?_ | refine blank2_below ?_ (by assumption))) hb)))
  obtain ⟨z0, z1, z2, z3, z4⟩ := hB
  exact bodyPost_ret (v := .agg #[.float .f64 xs, .float .f64 ys]) (by simp [results, Try.results43, go_sem, z1, z2]) rfl ⟨rfl, (by repeat (first | exact Below.refl _ _ | refine bel_drew ?_ | refine bel_alloc _ ?_ | refine bel_drewN _ ?_ | refine bel_trans (by assumption) ?_ | refine bel_set _ _ (by simp) ?_))⟩

set_option maxHeartbeats 800000 in
theorem place_2 {a b c d m n x y xs xc xh mh xd ys yc yh nh yd : Nat} (w : World) (h : AF a b c d m n x y xs xc xh mh xd ys yc yh nh yd) :
    Calls Try.prog 42 #[.int .i64 2, .agg #[.float .f64 a, .float .f64 b, .float .f64 c, .float .f64 d], .float .f64 m, .float .f64 n] w fun e w' => e = .returned (.tuple #[.agg #[.float .f64 xs, .float .f64 ys], .bool true]) ∧ Below w.heap.size w w' := by
  have o3 := run_bin (P := Try.prog) .sub h.e3
  have o4 := run_bin (P := Try.prog) .quo h.e4
  have o5 := run_bin (P := Try.prog) .quo h.e5
  have o6 := run_bin (P := Try.prog) .quo h.e6
  have o7 := run_bin (P := Try.prog) .sub h.e7
  have q3 := run_bin (P := Try.prog) .sub h.f3
  have q4 := run_bin (P := Try.prog) .quo h.f4
  have q5 := run_bin (P := Try.prog) .quo h.f5
  have q6 := run_bin (P := Try.prog) .quo h.f6
  have q7 := run_bin (P := Try.prog) .sub h.f7
  have p1 := run_bin (P := Try.prog) .sub h.e1
  have p2 := run_bin (P := Try.prog) .sub h.e2
  clear h
  go_enter Try.func42, Try.ntmps42
  go_wp2_with fail
  go_region
  go_wp2
  exact bodyPost_ret (v := .tuple #[.agg #[.float .f64 xs, .float .f64 ys], .bool true]) (by simp [results, Try.results42, go_sem]) rfl ⟨rfl, (by repeat (first | exact Below.refl _ _ | refine bel_drew ?_ | refine bel_alloc _ ?_ | refine bel_drewN _ ?_ | refine bel_trans (by assumption) ?_ | refine bel_set _ _ (by simp) ?_))⟩

set_option maxHeartbeats 800000 in
theorem pos_3 {g a b c d m n x y xs xc xh mh xd ys yc yh nh yd : Nat} (w : World) (hr : RectAt w g a b c d) (h : AF a b c d m n x y xs xc xh mh xd ys yc yh nh yd) :
    Calls Try.prog 76 #[.int .i64 3, .pointer (some ⟨g, 0, none⟩), .float .f64 m, .float .f64 n] w fun e w' => e = .returned (.tuple #[.float .f64 0, .float .f64 yd]) ∧ Below w.heap.size w w' := by
  have H1 := Lib.hid h.e1
  have H2 := Lib.hid h.e2
  have o3 := run_bin (P := Try.prog) .sub h.e3
  have o4 := run_bin (P := Try.prog) .quo h.e4
  have o5 := run_bin (P := Try.prog) .quo h.e5
  have o6 := run_bin (P := Try.prog) .quo h.e6
  have o7 := run_bin (P := Try.prog) .sub h.e7
  have q3 := run_bin (P := Try.prog) .sub h.f3
  have q4 := run_bin (P := Try.prog) .quo h.f4
  have q5 := run_bin (P := Try.prog) .quo h.f5
  have q6 := run_bin (P := Try.prog) .quo h.f6
  have q7 := run_bin (P := Try.prog) .sub h.f7
  obtain ⟨g0, g1, g2, g3, g4⟩ := hr
  have p1 := run_bin (P := Try.prog) .sub h.e1
  have p2 := run_bin (P := Try.prog) .sub h.e2
  clear h
  go_enter Try.func76, Try.ntmps76
  go_wp2_with (first | (go_at_call 99; go_in) | (go_at_call 100; go_in))
  go_ret2
  exact ⟨rfl, (by repeat (first | exact Below.refl _ _ | refine bel_drew ?_ | refine bel_alloc _ ?_ | refine bel_drewN _ ?_ | refine bel_trans (by assumption) ?_ | refine bel_set _ _ (by simp) ?_))⟩

theorem anchored_3 {a b c d m n x y xs xc xh mh xd ys yc yh nh yd : Nat} (w : World) (h : AF a b c d m n x y xs xc xh mh xd ys yc yh nh yd) :
    Calls Try.prog 43 #[.int .i64 3, .agg #[.float .f64 a, .float .f64 b, .float .f64 c, .float .f64 d], .float .f64 m, .float .f64 n] w fun e w' => e = .returned (.agg #[.float .f64 0, .float .f64 yd]) ∧ Below w.heap.size w w' := by
  have H := Lib.hid (fun W g (hr : RectAt W g a b c d) => pos_3 W hr h)
  clear h
  go_enter Try.func43, Try.ntmps43
  go_wp2_with (first
    | (go_at_call 67; refine (rect_exact a b c d _).mono ?_; rintro e w' ⟨rfl, rfl⟩)
    | (go_at_call 76; refine (H.out _ _ (rectAt_new _ _ _ _ _ _ _ (by simp))).mono ?_; rintro e w' ⟨rfl, hb⟩; have hB := (blank2_below (n := w.heap.size + 1) (v0 := .float .f64 0) (v1 := .float .f64 0) (by repeat (first | exact blank2_base _ _ _ _ _ (by simp) | refine blank2_drew ?_ | refine blank2_alloc _ ?_ | refine blank2_below ?_ (by assumption))) hb)))
  obtain ⟨z0, z1, z2, z3, z4⟩ := hB
  exact bodyPost_ret (v := .agg #[.float .f64 0, .float .f64 yd]) (by simp [results, Try.results43, go_sem, z1, z2]) rfl ⟨rfl, (by repeat (first | exact Below.refl _ _ | refine bel_drew ?_ | refine bel_alloc _ ?_ | refine bel_drewN _ ?_ | refine bel_trans (by assumption) ?_ | refine bel_set _ _ (by simp) ?_))⟩

set_option maxHeartbeats 800000 in
theorem place_3 {a b c d m n x y xs xc xh mh xd ys yc yh nh yd : Nat} (w : World) (h : AF a b c d m n x y xs xc xh mh xd ys yc yh nh yd) :
    Calls Try.prog 42 #[.int .i64 3, .agg #[.float .f64 a, .float .f64 b, .float .f64 c, .float .f64 d], .float .f64 m, .float .f64 n] w fun e w' => e = .returned (.tuple #[.agg #[.float .f64 0, .float .f64 yc], .bool true]) ∧ Below w.heap.size w w' := by
  have o3 := run_bin (P := Try.prog) .sub h.e3
  have o4 := run_bin (P := Try.prog) .quo h.e4
  have o5 := run_bin (P := Try.prog) .quo h.e5
  have o6 := run_bin (P := Try.prog) .quo h.e6
  have o7 := run_bin (P := Try.prog) .sub h.e7
  have q3 := run_bin (P := Try.prog) .sub h.f3
  have q4 := run_bin (P := Try.prog) .quo h.f4
  have q5 := run_bin (P := Try.prog) .quo h.f5
  have q6 := run_bin (P := Try.prog) .quo h.f6
  have q7 := run_bin (P := Try.prog) .sub h.f7
  have p1 := run_bin (P := Try.prog) .sub h.e1
  have p2 := run_bin (P := Try.prog) .sub h.e2
  clear h
  go_enter Try.func42, Try.ntmps42
  go_wp2_with fail
  go_region
  go_wp2
  exact bodyPost_ret (v := .tuple #[.agg #[.float .f64 0, .float .f64 yc], .bool true]) (by simp [results, Try.results42, go_sem]) rfl ⟨rfl, (by repeat (first | exact Below.refl _ _ | refine bel_drew ?_ | refine bel_alloc _ ?_ | refine bel_drewN _ ?_ | refine bel_trans (by assumption) ?_ | refine bel_set _ _ (by simp) ?_))⟩

set_option maxHeartbeats 800000 in
theorem pos_4 {g a b c d m n x y xs xc xh mh xd ys yc yh nh yd : Nat} (w : World) (hr : RectAt w g a b c d) (h : AF a b c d m n x y xs xc xh mh xd ys yc yh nh yd) :
    Calls Try.prog 76 #[.int .i64 4, .pointer (some ⟨g, 0, none⟩), .float .f64 m, .float .f64 n] w fun e w' => e = .returned (.tuple #[.float .f64 xd, .float .f64 yd]) ∧ Below w.heap.size w w' := by
  have H1 := Lib.hid h.e1
  have H2 := Lib.hid h.e2
  have o3 := run_bin (P := Try.prog) .sub h.e3
  have o4 := run_bin (P := Try.prog) .quo h.e4
  have o5 := run_bin (P := Try.prog) .quo h.e5
  have o6 := run_bin (P := Try.prog) .quo h.e6
  have o7 := run_bin (P := Try.prog) .sub h.e7
  have q3 := run_bin (P := Try.prog) .sub h.f3
  have q4 := run_bin (P := Try.prog) .quo h.f4
  have q5 := run_bin (P := Try.prog) .quo h.f5
  have q6 := run_bin (P := Try.prog) .quo h.f6
  have q7 := run_bin (P := Try.prog) .sub h.f7
  clear h
  go_enter Try.func76, Try.ntmps76
  go_wp2_with fail
  go_region_held3 (fun w' => Below w.heap.size w w' ∧ g < w'.heap.size ∧ w'.cell? ⟨g, 0, none⟩ = some (.float .f64 a) ∧ w'.cell? ⟨g, 1, none⟩ = some (.float .f64 b) ∧ w'.cell? ⟨g, 2, none⟩ = some (.float .f64 c) ∧ w'.cell? ⟨g, 3, none⟩ = some (.float .f64 d))
    (first | assumption | exact kept4_arg hr | exact keep4 (by assumption) (by assumption))
    (first
      | (go_at_call 99; refine (width_any _ H1.out).mono ?_; rintro e w' ⟨rfl, hb⟩)
      | (go_at_call 100; refine (height_any _ H2.out).mono ?_; rintro e w' ⟨rfl, hb⟩))
  rename_i hh
  go_wp2
  go_ret2
  exact ⟨rfl, hh.1⟩

theorem anchored_4 {a b c d m n x y xs xc xh mh xd ys yc yh nh yd : Nat} (w : World) (h : AF a b c d m n x y xs xc xh mh xd ys yc yh nh yd) :
    Calls Try.prog 43 #[.int .i64 4, .agg #[.float .f64 a, .float .f64 b, .float .f64 c, .float .f64 d], .float .f64 m, .float .f64 n] w fun e w' => e = .returned (.agg #[.float .f64 xd, .float .f64 yd]) ∧ Below w.heap.size w w' := by
  have H := Lib.hid (fun W g (hr : RectAt W g a b c d) => pos_4 W hr h)
  clear h
  go_enter Try.func43, Try.ntmps43
  go_wp2_with (first
    | (go_at_call 67; refine (rect_exact a b c d _).mono ?_; rintro e w' ⟨rfl, rfl⟩)
    | (go_at_call 76; refine (H.out _ _ (rectAt_new _ _ _ _ _ _ _ (by simp))).mono ?_; rintro e w' ⟨rfl, hb⟩; have hB := (blank2_below (n := w.heap.size + 1) (v0 := .float .f64 0) (v1 := .float .f64 0) (by repeat (first | exact blank2_base _ _ _ _ _ (by simp) | refine blank2_drew ?_ | refine blank2_alloc _ ?_ | refine blank2_below ?_ (by assumption))) hb)))
  obtain ⟨z0, z1, z2, z3, z4⟩ := hB
  exact bodyPost_ret (v := .agg #[.float .f64 xd, .float .f64 yd]) (by simp [results, Try.results43, go_sem, z1, z2]) rfl ⟨rfl, (by repeat (first | exact Below.refl _ _ | refine bel_drew ?_ | refine bel_alloc _ ?_ | refine bel_drewN _ ?_ | refine bel_trans (by assumption) ?_ | refine bel_set _ _ (by simp) ?_))⟩

set_option maxHeartbeats 800000 in
theorem place_4 {a b c d m n x y xs xc xh mh xd ys yc yh nh yd : Nat} (w : World) (h : AF a b c d m n x y xs xc xh mh xd ys yc yh nh yd) :
    Calls Try.prog 42 #[.int .i64 4, .agg #[.float .f64 a, .float .f64 b, .float .f64 c, .float .f64 d], .float .f64 m, .float .f64 n] w fun e w' => e = .returned (.tuple #[.agg #[.float .f64 xc, .float .f64 yc], .bool true]) ∧ Below w.heap.size w w' := by
  have o3 := run_bin (P := Try.prog) .sub h.e3
  have o4 := run_bin (P := Try.prog) .quo h.e4
  have o5 := run_bin (P := Try.prog) .quo h.e5
  have o6 := run_bin (P := Try.prog) .quo h.e6
  have o7 := run_bin (P := Try.prog) .sub h.e7
  have q3 := run_bin (P := Try.prog) .sub h.f3
  have q4 := run_bin (P := Try.prog) .quo h.f4
  have q5 := run_bin (P := Try.prog) .quo h.f5
  have q6 := run_bin (P := Try.prog) .quo h.f6
  have q7 := run_bin (P := Try.prog) .sub h.f7
  have p1 := run_bin (P := Try.prog) .sub h.e1
  have p2 := run_bin (P := Try.prog) .sub h.e2
  clear h
  go_enter Try.func42, Try.ntmps42
  go_wp2_with fail
  go_region
  go_wp2
  exact bodyPost_ret (v := .tuple #[.agg #[.float .f64 xc, .float .f64 yc], .bool true]) (by simp [results, Try.results42, go_sem]) rfl ⟨rfl, (by repeat (first | exact Below.refl _ _ | refine bel_drew ?_ | refine bel_alloc _ ?_ | refine bel_drewN _ ?_ | refine bel_trans (by assumption) ?_ | refine bel_set _ _ (by simp) ?_))⟩

set_option maxHeartbeats 800000 in
theorem pos_5 {g a b c d m n x y xs xc xh mh xd ys yc yh nh yd : Nat} (w : World) (hr : RectAt w g a b c d) (h : AF a b c d m n x y xs xc xh mh xd ys yc yh nh yd) :
    Calls Try.prog 76 #[.int .i64 5, .pointer (some ⟨g, 0, none⟩), .float .f64 m, .float .f64 n] w fun e w' => e = .returned (.tuple #[.float .f64 xs, .float .f64 yd]) ∧ Below w.heap.size w w' := by
  have H1 := Lib.hid h.e1
  have H2 := Lib.hid h.e2
  have o3 := run_bin (P := Try.prog) .sub h.e3
  have o4 := run_bin (P := Try.prog) .quo h.e4
  have o5 := run_bin (P := Try.prog) .quo h.e5
  have o6 := run_bin (P := Try.prog) .quo h.e6
  have o7 := run_bin (P := Try.prog) .sub h.e7
  have q3 := run_bin (P := Try.prog) .sub h.f3
  have q4 := run_bin (P := Try.prog) .quo h.f4
  have q5 := run_bin (P := Try.prog) .quo h.f5
  have q6 := run_bin (P := Try.prog) .quo h.f6
  have q7 := run_bin (P := Try.prog) .sub h.f7
  clear h
  go_enter Try.func76, Try.ntmps76
  go_wp2_with fail
  go_region_held3 (fun w' => Below w.heap.size w w' ∧ g < w'.heap.size ∧ w'.cell? ⟨g, 0, none⟩ = some (.float .f64 a) ∧ w'.cell? ⟨g, 1, none⟩ = some (.float .f64 b) ∧ w'.cell? ⟨g, 2, none⟩ = some (.float .f64 c) ∧ w'.cell? ⟨g, 3, none⟩ = some (.float .f64 d))
    (first | assumption | exact kept4_arg hr | exact keep4 (by assumption) (by assumption))
    (first
      | (go_at_call 99; refine (width_any _ H1.out).mono ?_; rintro e w' ⟨rfl, hb⟩)
      | (go_at_call 100; refine (height_any _ H2.out).mono ?_; rintro e w' ⟨rfl, hb⟩))
  rename_i hh
  go_wp2
  go_ret2
  exact ⟨rfl, hh.1⟩

theorem anchored_5 {a b c d m n x y xs xc xh mh xd ys yc yh nh yd : Nat} (w : World) (h : AF a b c d m n x y xs xc xh mh xd ys yc yh nh yd) :
    Calls Try.prog 43 #[.int .i64 5, .agg #[.float .f64 a, .float .f64 b, .float .f64 c, .float .f64 d], .float .f64 m, .float .f64 n] w fun e w' => e = .returned (.agg #[.float .f64 xs, .float .f64 yd]) ∧ Below w.heap.size w w' := by
  have H := Lib.hid (fun W g (hr : RectAt W g a b c d) => pos_5 W hr h)
  clear h
  go_enter Try.func43, Try.ntmps43
  go_wp2_with (first
    | (go_at_call 67; refine (rect_exact a b c d _).mono ?_; rintro e w' ⟨rfl, rfl⟩)
    | (go_at_call 76; refine (H.out _ _ (rectAt_new _ _ _ _ _ _ _ (by simp))).mono ?_; rintro e w' ⟨rfl, hb⟩; have hB := (blank2_below (n := w.heap.size + 1) (v0 := .float .f64 0) (v1 := .float .f64 0) (by repeat (first | exact blank2_base _ _ _ _ _ (by simp) | refine blank2_drew ?_ | refine blank2_alloc _ ?_ | refine blank2_below ?_ (by assumption))) hb)))
  obtain ⟨z0, z1, z2, z3, z4⟩ := hB
  exact bodyPost_ret (v := .agg #[.float .f64 xs, .float .f64 yd]) (by simp [results, Try.results43, go_sem, z1, z2]) rfl ⟨rfl, (by repeat (first | exact Below.refl _ _ | refine bel_drew ?_ | refine bel_alloc _ ?_ | refine bel_drewN _ ?_ | refine bel_trans (by assumption) ?_ | refine bel_set _ _ (by simp) ?_))⟩

set_option maxHeartbeats 800000 in
theorem place_5 {a b c d m n x y xs xc xh mh xd ys yc yh nh yd : Nat} (w : World) (h : AF a b c d m n x y xs xc xh mh xd ys yc yh nh yd) :
    Calls Try.prog 42 #[.int .i64 5, .agg #[.float .f64 a, .float .f64 b, .float .f64 c, .float .f64 d], .float .f64 m, .float .f64 n] w fun e w' => e = .returned (.tuple #[.agg #[.float .f64 xs, .float .f64 yc], .bool true]) ∧ Below w.heap.size w w' := by
  have o3 := run_bin (P := Try.prog) .sub h.e3
  have o4 := run_bin (P := Try.prog) .quo h.e4
  have o5 := run_bin (P := Try.prog) .quo h.e5
  have o6 := run_bin (P := Try.prog) .quo h.e6
  have o7 := run_bin (P := Try.prog) .sub h.e7
  have q3 := run_bin (P := Try.prog) .sub h.f3
  have q4 := run_bin (P := Try.prog) .quo h.f4
  have q5 := run_bin (P := Try.prog) .quo h.f5
  have q6 := run_bin (P := Try.prog) .quo h.f6
  have q7 := run_bin (P := Try.prog) .sub h.f7
  have p1 := run_bin (P := Try.prog) .sub h.e1
  have p2 := run_bin (P := Try.prog) .sub h.e2
  clear h
  go_enter Try.func42, Try.ntmps42
  go_wp2_with fail
  go_region
  go_wp2
  exact bodyPost_ret (v := .tuple #[.agg #[.float .f64 xs, .float .f64 yc], .bool true]) (by simp [results, Try.results42, go_sem]) rfl ⟨rfl, (by repeat (first | exact Below.refl _ _ | refine bel_drew ?_ | refine bel_alloc _ ?_ | refine bel_drewN _ ?_ | refine bel_trans (by assumption) ?_ | refine bel_set _ _ (by simp) ?_))⟩

set_option maxHeartbeats 800000 in
theorem pos_6 {g a b c d m n x y xs xc xh mh xd ys yc yh nh yd : Nat} (w : World) (hr : RectAt w g a b c d) (h : AF a b c d m n x y xs xc xh mh xd ys yc yh nh yd) :
    Calls Try.prog 76 #[.int .i64 6, .pointer (some ⟨g, 0, none⟩), .float .f64 m, .float .f64 n] w fun e w' => e = .returned (.tuple #[.float .f64 0, .float .f64 0]) ∧ Below w.heap.size w w' := by
  have H1 := Lib.hid h.e1
  have H2 := Lib.hid h.e2
  have o3 := run_bin (P := Try.prog) .sub h.e3
  have o4 := run_bin (P := Try.prog) .quo h.e4
  have o5 := run_bin (P := Try.prog) .quo h.e5
  have o6 := run_bin (P := Try.prog) .quo h.e6
  have o7 := run_bin (P := Try.prog) .sub h.e7
  have q3 := run_bin (P := Try.prog) .sub h.f3
  have q4 := run_bin (P := Try.prog) .quo h.f4
  have q5 := run_bin (P := Try.prog) .quo h.f5
  have q6 := run_bin (P := Try.prog) .quo h.f6
  have q7 := run_bin (P := Try.prog) .sub h.f7
  obtain ⟨g0, g1, g2, g3, g4⟩ := hr
  have p1 := run_bin (P := Try.prog) .sub h.e1
  have p2 := run_bin (P := Try.prog) .sub h.e2
  clear h
  go_enter Try.func76, Try.ntmps76
  go_wp2_with (first | (go_at_call 99; go_in) | (go_at_call 100; go_in))
  go_ret2
  exact ⟨rfl, (by repeat (first | exact Below.refl _ _ | refine bel_drew ?_ | refine bel_alloc _ ?_ | refine bel_drewN _ ?_ | refine bel_trans (by assumption) ?_ | refine bel_set _ _ (by simp) ?_))⟩

theorem anchored_6 {a b c d m n x y xs xc xh mh xd ys yc yh nh yd : Nat} (w : World) (h : AF a b c d m n x y xs xc xh mh xd ys yc yh nh yd) :
    Calls Try.prog 43 #[.int .i64 6, .agg #[.float .f64 a, .float .f64 b, .float .f64 c, .float .f64 d], .float .f64 m, .float .f64 n] w fun e w' => e = .returned (.agg #[.float .f64 0, .float .f64 0]) ∧ Below w.heap.size w w' := by
  have H := Lib.hid (fun W g (hr : RectAt W g a b c d) => pos_6 W hr h)
  clear h
  go_enter Try.func43, Try.ntmps43
  go_wp2_with (first
    | (go_at_call 67; refine (rect_exact a b c d _).mono ?_; rintro e w' ⟨rfl, rfl⟩)
    | (go_at_call 76; refine (H.out _ _ (rectAt_new _ _ _ _ _ _ _ (by simp))).mono ?_; rintro e w' ⟨rfl, hb⟩; have hB := (blank2_below (n := w.heap.size + 1) (v0 := .float .f64 0) (v1 := .float .f64 0) (by repeat (first | exact blank2_base _ _ _ _ _ (by simp) | refine blank2_drew ?_ | refine blank2_alloc _ ?_ | refine blank2_below ?_ (by assumption))) hb)))
  obtain ⟨z0, z1, z2, z3, z4⟩ := hB
  exact bodyPost_ret (v := .agg #[.float .f64 0, .float .f64 0]) (by simp [results, Try.results43, go_sem, z1, z2]) rfl ⟨rfl, (by repeat (first | exact Below.refl _ _ | refine bel_drew ?_ | refine bel_alloc _ ?_ | refine bel_drewN _ ?_ | refine bel_trans (by assumption) ?_ | refine bel_set _ _ (by simp) ?_))⟩

set_option maxHeartbeats 800000 in
theorem place_6 {a b c d m n x y xs xc xh mh xd ys yc yh nh yd : Nat} (w : World) (h : AF a b c d m n x y xs xc xh mh xd ys yc yh nh yd) :
    Calls Try.prog 42 #[.int .i64 6, .agg #[.float .f64 a, .float .f64 b, .float .f64 c, .float .f64 d], .float .f64 m, .float .f64 n] w fun e w' => e = .returned (.tuple #[.agg #[.float .f64 0, .float .f64 0], .bool true]) ∧ Below w.heap.size w w' := by
  have o3 := run_bin (P := Try.prog) .sub h.e3
  have o4 := run_bin (P := Try.prog) .quo h.e4
  have o5 := run_bin (P := Try.prog) .quo h.e5
  have o6 := run_bin (P := Try.prog) .quo h.e6
  have o7 := run_bin (P := Try.prog) .sub h.e7
  have q3 := run_bin (P := Try.prog) .sub h.f3
  have q4 := run_bin (P := Try.prog) .quo h.f4
  have q5 := run_bin (P := Try.prog) .quo h.f5
  have q6 := run_bin (P := Try.prog) .quo h.f6
  have q7 := run_bin (P := Try.prog) .sub h.f7
  have p1 := run_bin (P := Try.prog) .sub h.e1
  have p2 := run_bin (P := Try.prog) .sub h.e2
  clear h
  go_enter Try.func42, Try.ntmps42
  go_wp2_with fail
  go_region
  go_wp2
  exact bodyPost_ret (v := .tuple #[.agg #[.float .f64 0, .float .f64 0], .bool true]) (by simp [results, Try.results42, go_sem]) rfl ⟨rfl, (by repeat (first | exact Below.refl _ _ | refine bel_drew ?_ | refine bel_alloc _ ?_ | refine bel_drewN _ ?_ | refine bel_trans (by assumption) ?_ | refine bel_set _ _ (by simp) ?_))⟩

set_option maxHeartbeats 800000 in
theorem pos_7 {g a b c d m n x y xs xc xh mh xd ys yc yh nh yd : Nat} (w : World) (hr : RectAt w g a b c d) (h : AF a b c d m n x y xs xc xh mh xd ys yc yh nh yd) :
    Calls Try.prog 76 #[.int .i64 7, .pointer (some ⟨g, 0, none⟩), .float .f64 m, .float .f64 n] w fun e w' => e = .returned (.tuple #[.float .f64 xd, .float .f64 0]) ∧ Below w.heap.size w w' := by
  have H1 := Lib.hid h.e1
  have H2 := Lib.hid h.e2
  have o3 := run_bin (P := Try.prog) .sub h.e3
  have o4 := run_bin (P := Try.prog) .quo h.e4
  have o5 := run_bin (P := Try.prog) .quo h.e5
  have o6 := run_bin (P := Try.prog) .quo h.e6
  have o7 := run_bin (P := Try.prog) .sub h.e7
  have q3 := run_bin (P := Try.prog) .sub h.f3
  have q4 := run_bin (P := Try.prog) .quo h.f4
  have q5 := run_bin (P := Try.prog) .quo h.f5
  have q6 := run_bin (P := Try.prog) .quo h.f6
  have q7 := run_bin (P := Try.prog) .sub h.f7
  obtain ⟨g0, g1, g2, g3, g4⟩ := hr
  have p1 := run_bin (P := Try.prog) .sub h.e1
  have p2 := run_bin (P := Try.prog) .sub h.e2
  clear h
  go_enter Try.func76, Try.ntmps76
  go_wp2_with (first | (go_at_call 99; go_in) | (go_at_call 100; go_in))
  go_ret2
  exact ⟨rfl, (by repeat (first | exact Below.refl _ _ | refine bel_drew ?_ | refine bel_alloc _ ?_ | refine bel_drewN _ ?_ | refine bel_trans (by assumption) ?_ | refine bel_set _ _ (by simp) ?_))⟩

theorem anchored_7 {a b c d m n x y xs xc xh mh xd ys yc yh nh yd : Nat} (w : World) (h : AF a b c d m n x y xs xc xh mh xd ys yc yh nh yd) :
    Calls Try.prog 43 #[.int .i64 7, .agg #[.float .f64 a, .float .f64 b, .float .f64 c, .float .f64 d], .float .f64 m, .float .f64 n] w fun e w' => e = .returned (.agg #[.float .f64 xd, .float .f64 0]) ∧ Below w.heap.size w w' := by
  have H := Lib.hid (fun W g (hr : RectAt W g a b c d) => pos_7 W hr h)
  clear h
  go_enter Try.func43, Try.ntmps43
  go_wp2_with (first
    | (go_at_call 67; refine (rect_exact a b c d _).mono ?_; rintro e w' ⟨rfl, rfl⟩)
    | (go_at_call 76; refine (H.out _ _ (rectAt_new _ _ _ _ _ _ _ (by simp))).mono ?_; rintro e w' ⟨rfl, hb⟩; have hB := (blank2_below (n := w.heap.size + 1) (v0 := .float .f64 0) (v1 := .float .f64 0) (by repeat (first | exact blank2_base _ _ _ _ _ (by simp) | refine blank2_drew ?_ | refine blank2_alloc _ ?_ | refine blank2_below ?_ (by assumption))) hb)))
  obtain ⟨z0, z1, z2, z3, z4⟩ := hB
  exact bodyPost_ret (v := .agg #[.float .f64 xd, .float .f64 0]) (by simp [results, Try.results43, go_sem, z1, z2]) rfl ⟨rfl, (by repeat (first | exact Below.refl _ _ | refine bel_drew ?_ | refine bel_alloc _ ?_ | refine bel_drewN _ ?_ | refine bel_trans (by assumption) ?_ | refine bel_set _ _ (by simp) ?_))⟩

set_option maxHeartbeats 800000 in
theorem place_7 {a b c d m n x y xs xc xh mh xd ys yc yh nh yd : Nat} (w : World) (h : AF a b c d m n x y xs xc xh mh xd ys yc yh nh yd) :
    Calls Try.prog 42 #[.int .i64 7, .agg #[.float .f64 a, .float .f64 b, .float .f64 c, .float .f64 d], .float .f64 m, .float .f64 n] w fun e w' => e = .returned (.tuple #[.agg #[.float .f64 xc, .float .f64 0], .bool true]) ∧ Below w.heap.size w w' := by
  have o3 := run_bin (P := Try.prog) .sub h.e3
  have o4 := run_bin (P := Try.prog) .quo h.e4
  have o5 := run_bin (P := Try.prog) .quo h.e5
  have o6 := run_bin (P := Try.prog) .quo h.e6
  have o7 := run_bin (P := Try.prog) .sub h.e7
  have q3 := run_bin (P := Try.prog) .sub h.f3
  have q4 := run_bin (P := Try.prog) .quo h.f4
  have q5 := run_bin (P := Try.prog) .quo h.f5
  have q6 := run_bin (P := Try.prog) .quo h.f6
  have q7 := run_bin (P := Try.prog) .sub h.f7
  have p1 := run_bin (P := Try.prog) .sub h.e1
  have p2 := run_bin (P := Try.prog) .sub h.e2
  clear h
  go_enter Try.func42, Try.ntmps42
  go_wp2_with fail
  go_region
  go_wp2
  exact bodyPost_ret (v := .tuple #[.agg #[.float .f64 xc, .float .f64 0], .bool true]) (by simp [results, Try.results42, go_sem]) rfl ⟨rfl, (by repeat (first | exact Below.refl _ _ | refine bel_drew ?_ | refine bel_alloc _ ?_ | refine bel_drewN _ ?_ | refine bel_trans (by assumption) ?_ | refine bel_set _ _ (by simp) ?_))⟩

set_option maxHeartbeats 800000 in
theorem pos_8 {g a b c d m n x y xs xc xh mh xd ys yc yh nh yd : Nat} (w : World) (hr : RectAt w g a b c d) (h : AF a b c d m n x y xs xc xh mh xd ys yc yh nh yd) :
    Calls Try.prog 76 #[.int .i64 8, .pointer (some ⟨g, 0, none⟩), .float .f64 m, .float .f64 n] w fun e w' => e = .returned (.tuple #[.float .f64 xs, .float .f64 0]) ∧ Below w.heap.size w w' := by
  have H1 := Lib.hid h.e1
  have H2 := Lib.hid h.e2
  have o3 := run_bin (P := Try.prog) .sub h.e3
  have o4 := run_bin (P := Try.prog) .quo h.e4
  have o5 := run_bin (P := Try.prog) .quo h.e5
  have o6 := run_bin (P := Try.prog) .quo h.e6
  have o7 := run_bin (P := Try.prog) .sub h.e7
  have q3 := run_bin (P := Try.prog) .sub h.f3
  have q4 := run_bin (P := Try.prog) .quo h.f4
  have q5 := run_bin (P := Try.prog) .quo h.f5
  have q6 := run_bin (P := Try.prog) .quo h.f6
  have q7 := run_bin (P := Try.prog) .sub h.f7
  obtain ⟨g0, g1, g2, g3, g4⟩ := hr
  have p1 := run_bin (P := Try.prog) .sub h.e1
  have p2 := run_bin (P := Try.prog) .sub h.e2
  clear h
  go_enter Try.func76, Try.ntmps76
  go_wp2_with (first | (go_at_call 99; go_in) | (go_at_call 100; go_in))
  go_ret2
  exact ⟨rfl, (by repeat (first | exact Below.refl _ _ | refine bel_drew ?_ | refine bel_alloc _ ?_ | refine bel_drewN _ ?_ | refine bel_trans (by assumption) ?_ | refine bel_set _ _ (by simp) ?_))⟩

theorem anchored_8 {a b c d m n x y xs xc xh mh xd ys yc yh nh yd : Nat} (w : World) (h : AF a b c d m n x y xs xc xh mh xd ys yc yh nh yd) :
    Calls Try.prog 43 #[.int .i64 8, .agg #[.float .f64 a, .float .f64 b, .float .f64 c, .float .f64 d], .float .f64 m, .float .f64 n] w fun e w' => e = .returned (.agg #[.float .f64 xs, .float .f64 0]) ∧ Below w.heap.size w w' := by
  have H := Lib.hid (fun W g (hr : RectAt W g a b c d) => pos_8 W hr h)
  clear h
  go_enter Try.func43, Try.ntmps43
  go_wp2_with (first
    | (go_at_call 67; refine (rect_exact a b c d _).mono ?_; rintro e w' ⟨rfl, rfl⟩)
    | (go_at_call 76; refine (H.out _ _ (rectAt_new _ _ _ _ _ _ _ (by simp))).mono ?_; rintro e w' ⟨rfl, hb⟩; have hB := (blank2_below (n := w.heap.size + 1) (v0 := .float .f64 0) (v1 := .float .f64 0) (by repeat (first | exact blank2_base _ _ _ _ _ (by simp) | refine blank2_drew ?_ | refine blank2_alloc _ ?_ | refine blank2_below ?_ (by assumption))) hb)))
  obtain ⟨z0, z1, z2, z3, z4⟩ := hB
  exact bodyPost_ret (v := .agg #[.float .f64 xs, .float .f64 0]) (by simp [results, Try.results43, go_sem, z1, z2]) rfl ⟨rfl, (by repeat (first | exact Below.refl _ _ | refine bel_drew ?_ | refine bel_alloc _ ?_ | refine bel_drewN _ ?_ | refine bel_trans (by assumption) ?_ | refine bel_set _ _ (by simp) ?_))⟩

set_option maxHeartbeats 800000 in
theorem place_8 {a b c d m n x y xs xc xh mh xd ys yc yh nh yd : Nat} (w : World) (h : AF a b c d m n x y xs xc xh mh xd ys yc yh nh yd) :
    Calls Try.prog 42 #[.int .i64 8, .agg #[.float .f64 a, .float .f64 b, .float .f64 c, .float .f64 d], .float .f64 m, .float .f64 n] w fun e w' => e = .returned (.tuple #[.agg #[.float .f64 xs, .float .f64 0], .bool true]) ∧ Below w.heap.size w w' := by
  have o3 := run_bin (P := Try.prog) .sub h.e3
  have o4 := run_bin (P := Try.prog) .quo h.e4
  have o5 := run_bin (P := Try.prog) .quo h.e5
  have o6 := run_bin (P := Try.prog) .quo h.e6
  have o7 := run_bin (P := Try.prog) .sub h.e7
  have q3 := run_bin (P := Try.prog) .sub h.f3
  have q4 := run_bin (P := Try.prog) .quo h.f4
  have q5 := run_bin (P := Try.prog) .quo h.f5
  have q6 := run_bin (P := Try.prog) .quo h.f6
  have q7 := run_bin (P := Try.prog) .sub h.f7
  have p1 := run_bin (P := Try.prog) .sub h.e1
  have p2 := run_bin (P := Try.prog) .sub h.e2
  clear h
  go_enter Try.func42, Try.ntmps42
  go_wp2_with fail
  go_region
  go_wp2
  exact bodyPost_ret (v := .tuple #[.agg #[.float .f64 xs, .float .f64 0], .bool true]) (by simp [results, Try.results42, go_sem]) rfl ⟨rfl, (by repeat (first | exact Below.refl _ _ | refine bel_drew ?_ | refine bel_alloc _ ?_ | refine bel_drewN _ ?_ | refine bel_trans (by assumption) ?_ | refine bel_set _ _ (by simp) ?_))⟩

end Go.Proofs.Ytooghncdhjdcpaa
