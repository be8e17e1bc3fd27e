/-
The law FnAnchored, walked: it answers true. No condition.
-/
import Derived.Test.YtooghncdhjdcpaaB9
namespace Go.Proofs.Ytooghncdhjdcpaa
open Go.RowKit Fl

set_option linter.unusedVariables false in
theorem place_no (k : Int) (a b c d m n : Nat) (w : World) (hk : k < 0 ∨ 8 < k) (wk : (Lit.int .i64 k).wf = true) :
    Calls Try.prog 42 #[.int .i64 k, .agg #[.float .f64 a, .float .f64 b, .float .f64 c, .float .f64 d], .float .f64 m, .float .f64 n] w fun e w' => e = .returned (.tuple #[.agg #[.float .f64 0, .float .f64 0], .bool false]) ∧ Below w.heap.size w w' := by
  have q0 : k ≠ 0 := by omega
  have q1 : k ≠ 1 := by omega
  have q2 : k ≠ 2 := by omega
  have q3 : k ≠ 3 := by omega
  have q4 : k ≠ 4 := by omega
  have q5 : k ≠ 5 := by omega
  have q6 : k ≠ 6 := by omega
  have q7 : k ≠ 7 := by omega
  have q8 : k ≠ 8 := by omega
  rcases hk with hk | hk
  all_goals
    go_enter Try.func42, Try.ntmps42
    go_wp2
    exact bodyPost_ret (v := .tuple #[.agg #[.float .f64 0, .float .f64 0], .bool false]) (by simp [results, Try.results42, go_sem]) rfl ⟨rfl, (by repeat (first | exact Below.refl _ _ | refine bel_drew ?_ | refine bel_alloc _ ?_ | refine bel_drewN _ ?_ | refine bel_trans (by assumption) ?_ | refine bel_set _ _ (by simp) ?_))⟩

set_option linter.unusedVariables false in
set_option maxHeartbeats 1000000 in
theorem anchored_law_0 {a b c d m n x y xs xc xh mh xd ys yc yh nh yd : Nat} (w : World) (hp : properB a b c d = true) (hs : [m, n].all smallB = true) (o1 : (FloatKind.f64.format.order m 0 == some Ordering.lt) = false) (o2 : (FloatKind.f64.format.order n 0 == some Ordering.lt) = false) (h : AF a b c d m n x y xs xc xh mh xd ys yc yh nh yd) (NX : NearT 0 0) (NY : NearT ys ys) :
    Calls Try.prog 12 #[.int .i64 0, .agg #[.float .f64 a, .float .f64 b, .float .f64 c, .float .f64 d], .float .f64 m, .float .f64 n] w fun e w' => e = .returned (.bool true) ∧ Below w.heap.size w w' := by
  have HP := Lib.hid hp
  have HS := Lib.hid hs
  have HA := Lib.hid (fun W => anchored_0 W h)
  have HQ := Lib.hid (fun W => place_0 W h)
  have HX := Lib.hid NX
  have HY := Lib.hid NY
  clear hp hs h NX NY
  go_enter Try.func12, Try.ntmps12
  go_wp2_with (first
    | (go_at_call 28; refine (proper_any a b c d true _ HP.out).mono ?_; rintro e w' ⟨rfl, rfl⟩)
    | (go_at_call 22; refine (small_at [m, n] true _ _ (by simp) HS.out (by simp)).mono ?_; rintro e w' ⟨rfl, rfl⟩)
    | (go_at_call 42; refine (HQ.out _).mono ?_; rintro e w4 ⟨rfl, hb⟩; obtain ⟨hq, hf⟩ := bcell hb; have hz := hb.size))
  go_region_held3 (fun w' => (Below w.heap.size w w' ∧ w.heap.size < w'.heap.size ∧ w'.cell? ⟨w.heap.size, 0, none⟩ = some (.float .f64 a) ∧ w'.cell? ⟨w.heap.size, 1, none⟩ = some (.float .f64 b) ∧ w'.cell? ⟨w.heap.size, 2, none⟩ = some (.float .f64 c) ∧ w'.cell? ⟨w.heap.size, 3, none⟩ = some (.float .f64 d)) ∧ (w4.heap.size < w'.heap.size ∧ w'.cell? ⟨w4.heap.size, 0, none⟩ = some (.float .f64 0) ∧ w'.cell? ⟨w4.heap.size, 1, none⟩ = some (.float .f64 ys))) (first | assumption | exact keep42 (by assumption) (by assumption) | ((repeat (first | refine kept42_base _ (by simp) ?_ | refine kept42_drew ?_ | refine kept42_alloc _ ?_)); (repeat (first | exact kept_base _ _ _ _ _ _ | refine kept_drew ?_ | refine kept_alloc _ ?_ | refine keep4 ?_ (by assumption)))))
    (first
      | (go_at_call 43; refine (HA.out _).mono ?_; rintro e w' ⟨rfl, hb⟩)
      | (go_at_call 26; refine (nearpair_b _ _ _ _ _ HX.out HY.out).mono ?_; rintro e w' ⟨rfl, hb⟩))
  rename_i hh
  go_wp2
  go_ret
  exact ⟨rfl, hh.1.1⟩

set_option linter.unusedVariables false in
set_option maxHeartbeats 1000000 in
theorem anchored_law_1 {a b c d m n x y xs xc xh mh xd ys yc yh nh yd : Nat} (w : World) (hp : properB a b c d = true) (hs : [m, n].all smallB = true) (o1 : (FloatKind.f64.format.order m 0 == some Ordering.lt) = false) (o2 : (FloatKind.f64.format.order n 0 == some Ordering.lt) = false) (h : AF a b c d m n x y xs xc xh mh xd ys yc yh nh yd) (NX : NearT xd xc) (NY : NearT ys ys) :
    Calls Try.prog 12 #[.int .i64 1, .agg #[.float .f64 a, .float .f64 b, .float .f64 c, .float .f64 d], .float .f64 m, .float .f64 n] w fun e w' => e = .returned (.bool true) ∧ Below w.heap.size w w' := by
  have HP := Lib.hid hp
  have HS := Lib.hid hs
  have HA := Lib.hid (fun W => anchored_1 W h)
  have HQ := Lib.hid (fun W => place_1 W h)
  have HX := Lib.hid NX
  have HY := Lib.hid NY
  clear hp hs h NX NY
  go_enter Try.func12, Try.ntmps12
  go_wp2_with (first
    | (go_at_call 28; refine (proper_any a b c d true _ HP.out).mono ?_; rintro e w' ⟨rfl, rfl⟩)
    | (go_at_call 22; refine (small_at [m, n] true _ _ (by simp) HS.out (by simp)).mono ?_; rintro e w' ⟨rfl, rfl⟩)
    | (go_at_call 42; refine (HQ.out _).mono ?_; rintro e w4 ⟨rfl, hb⟩; obtain ⟨hq, hf⟩ := bcell hb; have hz := hb.size))
  go_region_held3 (fun w' => (Below w.heap.size w w' ∧ w.heap.size < w'.heap.size ∧ w'.cell? ⟨w.heap.size, 0, none⟩ = some (.float .f64 a) ∧ w'.cell? ⟨w.heap.size, 1, none⟩ = some (.float .f64 b) ∧ w'.cell? ⟨w.heap.size, 2, none⟩ = some (.float .f64 c) ∧ w'.cell? ⟨w.heap.size, 3, none⟩ = some (.float .f64 d)) ∧ (w4.heap.size < w'.heap.size ∧ w'.cell? ⟨w4.heap.size, 0, none⟩ = some (.float .f64 xc) ∧ w'.cell? ⟨w4.heap.size, 1, none⟩ = some (.float .f64 ys))) (first | assumption | exact keep42 (by assumption) (by assumption) | ((repeat (first | refine kept42_base _ (by simp) ?_ | refine kept42_drew ?_ | refine kept42_alloc _ ?_)); (repeat (first | exact kept_base _ _ _ _ _ _ | refine kept_drew ?_ | refine kept_alloc _ ?_ | refine keep4 ?_ (by assumption)))))
    (first
      | (go_at_call 43; refine (HA.out _).mono ?_; rintro e w' ⟨rfl, hb⟩)
      | (go_at_call 26; refine (nearpair_b _ _ _ _ _ HX.out HY.out).mono ?_; rintro e w' ⟨rfl, hb⟩))
  rename_i hh
  go_wp2
  go_ret
  exact ⟨rfl, hh.1.1⟩

set_option linter.unusedVariables false in
set_option maxHeartbeats 1000000 in
theorem anchored_law_2 {a b c d m n x y xs xc xh mh xd ys yc yh nh yd : Nat} (w : World) (hp : properB a b c d = true) (hs : [m, n].all smallB = true) (o1 : (FloatKind.f64.format.order m 0 == some Ordering.lt) = false) (o2 : (FloatKind.f64.format.order n 0 == some Ordering.lt) = false) (h : AF a b c d m n x y xs xc xh mh xd ys yc yh nh yd) (NX : NearT xs xs) (NY : NearT ys ys) :
    Calls Try.prog 12 #[.int .i64 2, .agg #[.float .f64 a, .float .f64 b, .float .f64 c, .float .f64 d], .float .f64 m, .float .f64 n] w fun e w' => e = .returned (.bool true) ∧ Below w.heap.size w w' := by
  have HP := Lib.hid hp
  have HS := Lib.hid hs
  have HA := Lib.hid (fun W => anchored_2 W h)
  have HQ := Lib.hid (fun W => place_2 W h)
  have HX := Lib.hid NX
  have HY := Lib.hid NY
  clear hp hs h NX NY
  go_enter Try.func12, Try.ntmps12
  go_wp2_with (first
    | (go_at_call 28; refine (proper_any a b c d true _ HP.out).mono ?_; rintro e w' ⟨rfl, rfl⟩)
    | (go_at_call 22; refine (small_at [m, n] true _ _ (by simp) HS.out (by simp)).mono ?_; rintro e w' ⟨rfl, rfl⟩)
    | (go_at_call 42; refine (HQ.out _).mono ?_; rintro e w4 ⟨rfl, hb⟩; obtain ⟨hq, hf⟩ := bcell hb; have hz := hb.size))
  go_region_held3 (fun w' => (Below w.heap.size w w' ∧ w.heap.size < w'.heap.size ∧ w'.cell? ⟨w.heap.size, 0, none⟩ = some (.float .f64 a) ∧ w'.cell? ⟨w.heap.size, 1, none⟩ = some (.float .f64 b) ∧ w'.cell? ⟨w.heap.size, 2, none⟩ = some (.float .f64 c) ∧ w'.cell? ⟨w.heap.size, 3, none⟩ = some (.float .f64 d)) ∧ (w4.heap.size < w'.heap.size ∧ w'.cell? ⟨w4.heap.size, 0, none⟩ = some (.float .f64 xs) ∧ w'.cell? ⟨w4.heap.size, 1, none⟩ = some (.float .f64 ys))) (first | assumption | exact keep42 (by assumption) (by assumption) | ((repeat (first | refine kept42_base _ (by simp) ?_ | refine kept42_drew ?_ | refine kept42_alloc _ ?_)); (repeat (first | exact kept_base _ _ _ _ _ _ | refine kept_drew ?_ | refine kept_alloc _ ?_ | refine keep4 ?_ (by assumption)))))
    (first
      | (go_at_call 43; refine (HA.out _).mono ?_; rintro e w' ⟨rfl, hb⟩)
      | (go_at_call 26; refine (nearpair_b _ _ _ _ _ HX.out HY.out).mono ?_; rintro e w' ⟨rfl, hb⟩))
  rename_i hh
  go_wp2
  go_ret
  exact ⟨rfl, hh.1.1⟩

set_option linter.unusedVariables false in
set_option maxHeartbeats 1000000 in
theorem anchored_law_3 {a b c d m n x y xs xc xh mh xd ys yc yh nh yd : Nat} (w : World) (hp : properB a b c d = true) (hs : [m, n].all smallB = true) (o1 : (FloatKind.f64.format.order m 0 == some Ordering.lt) = false) (o2 : (FloatKind.f64.format.order n 0 == some Ordering.lt) = false) (h : AF a b c d m n x y xs xc xh mh xd ys yc yh nh yd) (NX : NearT 0 0) (NY : NearT yd yc) :
    Calls Try.prog 12 #[.int .i64 3, .agg #[.float .f64 a, .float .f64 b, .float .f64 c, .float .f64 d], .float .f64 m, .float .f64 n] w fun e w' => e = .returned (.bool true) ∧ Below w.heap.size w w' := by
  have HP := Lib.hid hp
  have HS := Lib.hid hs
  have HA := Lib.hid (fun W => anchored_3 W h)
  have HQ := Lib.hid (fun W => place_3 W h)
  have HX := Lib.hid NX
  have HY := Lib.hid NY
  clear hp hs h NX NY
  go_enter Try.func12, Try.ntmps12
  go_wp2_with (first
    | (go_at_call 28; refine (proper_any a b c d true _ HP.out).mono ?_; rintro e w' ⟨rfl, rfl⟩)
    | (go_at_call 22; refine (small_at [m, n] true _ _ (by simp) HS.out (by simp)).mono ?_; rintro e w' ⟨rfl, rfl⟩)
    | (go_at_call 42; refine (HQ.out _).mono ?_; rintro e w4 ⟨rfl, hb⟩; obtain ⟨hq, hf⟩ := bcell hb; have hz := hb.size))
  go_region_held3 (fun w' => (Below w.heap.size w w' ∧ w.heap.size < w'.heap.size ∧ w'.cell? ⟨w.heap.size, 0, none⟩ = some (.float .f64 a) ∧ w'.cell? ⟨w.heap.size, 1, none⟩ = some (.float .f64 b) ∧ w'.cell? ⟨w.heap.size, 2, none⟩ = some (.float .f64 c) ∧ w'.cell? ⟨w.heap.size, 3, none⟩ = some (.float .f64 d)) ∧ (w4.heap.size < w'.heap.size ∧ w'.cell? ⟨w4.heap.size, 0, none⟩ = some (.float .f64 0) ∧ w'.cell? ⟨w4.heap.size, 1, none⟩ = some (.float .f64 yc))) (first | assumption | exact keep42 (by assumption) (by assumption) | ((repeat (first | refine kept42_base _ (by simp) ?_ | refine kept42_drew ?_ | refine kept42_alloc _ ?_)); (repeat (first | exact kept_base _ _ _ _ _ _ | refine kept_drew ?_ | refine kept_alloc _ ?_ | refine keep4 ?_ (by assumption)))))
    (first
      | (go_at_call 43; refine (HA.out _).mono ?_; rintro e w' ⟨rfl, hb⟩)
      | (go_at_call 26; refine (nearpair_b _ _ _ _ _ HX.out HY.out).mono ?_; rintro e w' ⟨rfl, hb⟩))
  rename_i hh
  go_wp2
  go_ret
  exact ⟨rfl, hh.1.1⟩

set_option linter.unusedVariables false in
set_option maxHeartbeats 1000000 in
theorem anchored_law_4 {a b c d m n x y xs xc xh mh xd ys yc yh nh yd : Nat} (w : World) (hp : properB a b c d = true) (hs : [m, n].all smallB = true) (o1 : (FloatKind.f64.format.order m 0 == some Ordering.lt) = false) (o2 : (FloatKind.f64.format.order n 0 == some Ordering.lt) = false) (h : AF a b c d m n x y xs xc xh mh xd ys yc yh nh yd) (NX : NearT xd xc) (NY : NearT yd yc) :
    Calls Try.prog 12 #[.int .i64 4, .agg #[.float .f64 a, .float .f64 b, .float .f64 c, .float .f64 d], .float .f64 m, .float .f64 n] w fun e w' => e = .returned (.bool true) ∧ Below w.heap.size w w' := by
  have HP := Lib.hid hp
  have HS := Lib.hid hs
  have HA := Lib.hid (fun W => anchored_4 W h)
  have HQ := Lib.hid (fun W => place_4 W h)
  have HX := Lib.hid NX
  have HY := Lib.hid NY
  clear hp hs h NX NY
  go_enter Try.func12, Try.ntmps12
  go_wp2_with (first
    | (go_at_call 28; refine (proper_any a b c d true _ HP.out).mono ?_; rintro e w' ⟨rfl, rfl⟩)
    | (go_at_call 22; refine (small_at [m, n] true _ _ (by simp) HS.out (by simp)).mono ?_; rintro e w' ⟨rfl, rfl⟩)
    | (go_at_call 42; refine (HQ.out _).mono ?_; rintro e w4 ⟨rfl, hb⟩; obtain ⟨hq, hf⟩ := bcell hb; have hz := hb.size))
  go_region_held3 (fun w' => (Below w.heap.size w w' ∧ w.heap.size < w'.heap.size ∧ w'.cell? ⟨w.heap.size, 0, none⟩ = some (.float .f64 a) ∧ w'.cell? ⟨w.heap.size, 1, none⟩ = some (.float .f64 b) ∧ w'.cell? ⟨w.heap.size, 2, none⟩ = some (.float .f64 c) ∧ w'.cell? ⟨w.heap.size, 3, none⟩ = some (.float .f64 d)) ∧ (w4.heap.size < w'.heap.size ∧ w'.cell? ⟨w4.heap.size, 0, none⟩ = some (.float .f64 xc) ∧ w'.cell? ⟨w4.heap.size, 1, none⟩ = some (.float .f64 yc))) (first | assumption | exact keep42 (by assumption) (by assumption) | ((repeat (first | refine kept42_base _ (by simp) ?_ | refine kept42_drew ?_ | refine kept42_alloc _ ?_)); (repeat (first | exact kept_base _ _ _ _ _ _ | refine kept_drew ?_ | refine kept_alloc _ ?_ | refine keep4 ?_ (by assumption)))))
    (first
      | (go_at_call 43; refine (HA.out _).mono ?_; rintro e w' ⟨rfl, hb⟩)
      | (go_at_call 26; refine (nearpair_b _ _ _ _ _ HX.out HY.out).mono ?_; rintro e w' ⟨rfl, hb⟩))
  rename_i hh
  go_wp2
  go_ret
  exact ⟨rfl, hh.1.1⟩

set_option linter.unusedVariables false in
set_option maxHeartbeats 1000000 in
theorem anchored_law_5 {a b c d m n x y xs xc xh mh xd ys yc yh nh yd : Nat} (w : World) (hp : properB a b c d = true) (hs : [m, n].all smallB = true) (o1 : (FloatKind.f64.format.order m 0 == some Ordering.lt) = false) (o2 : (FloatKind.f64.format.order n 0 == some Ordering.lt) = false) (h : AF a b c d m n x y xs xc xh mh xd ys yc yh nh yd) (NX : NearT xs xs) (NY : NearT yd yc) :
    Calls Try.prog 12 #[.int .i64 5, .agg #[.float .f64 a, .float .f64 b, .float .f64 c, .float .f64 d], .float .f64 m, .float .f64 n] w fun e w' => e = .returned (.bool true) ∧ Below w.heap.size w w' := by
  have HP := Lib.hid hp
  have HS := Lib.hid hs
  have HA := Lib.hid (fun W => anchored_5 W h)
  have HQ := Lib.hid (fun W => place_5 W h)
  have HX := Lib.hid NX
  have HY := Lib.hid NY
  clear hp hs h NX NY
  go_enter Try.func12, Try.ntmps12
  go_wp2_with (first
    | (go_at_call 28; refine (proper_any a b c d true _ HP.out).mono ?_; rintro e w' ⟨rfl, rfl⟩)
    | (go_at_call 22; refine (small_at [m, n] true _ _ (by simp) HS.out (by simp)).mono ?_; rintro e w' ⟨rfl, rfl⟩)
    | (go_at_call 42; refine (HQ.out _).mono ?_; rintro e w4 ⟨rfl, hb⟩; obtain ⟨hq, hf⟩ := bcell hb; have hz := hb.size))
  go_region_held3 (fun w' => (Below w.heap.size w w' ∧ w.heap.size < w'.heap.size ∧ w'.cell? ⟨w.heap.size, 0, none⟩ = some (.float .f64 a) ∧ w'.cell? ⟨w.heap.size, 1, none⟩ = some (.float .f64 b) ∧ w'.cell? ⟨w.heap.size, 2, none⟩ = some (.float .f64 c) ∧ w'.cell? ⟨w.heap.size, 3, none⟩ = some (.float .f64 d)) ∧ (w4.heap.size < w'.heap.size ∧ w'.cell? ⟨w4.heap.size, 0, none⟩ = some (.float .f64 xs) ∧ w'.cell? ⟨w4.heap.size, 1, none⟩ = some (.float .f64 yc))) (first | assumption | exact keep42 (by assumption) (by assumption) | ((repeat (first | refine kept42_base _ (by simp) ?_ | refine kept42_drew ?_ | refine kept42_alloc _ ?_)); (repeat (first | exact kept_base _ _ _ _ _ _ | refine kept_drew ?_ | refine kept_alloc _ ?_ | refine keep4 ?_ (by assumption)))))
    (first
      | (go_at_call 43; refine (HA.out _).mono ?_; rintro e w' ⟨rfl, hb⟩)
      | (go_at_call 26; refine (nearpair_b _ _ _ _ _ HX.out HY.out).mono ?_; rintro e w' ⟨rfl, hb⟩))
  rename_i hh
  go_wp2
  go_ret
  exact ⟨rfl, hh.1.1⟩

set_option linter.unusedVariables false in
set_option maxHeartbeats 1000000 in
theorem anchored_law_6 {a b c d m n x y xs xc xh mh xd ys yc yh nh yd : Nat} (w : World) (hp : properB a b c d = true) (hs : [m, n].all smallB = true) (o1 : (FloatKind.f64.format.order m 0 == some Ordering.lt) = false) (o2 : (FloatKind.f64.format.order n 0 == some Ordering.lt) = false) (h : AF a b c d m n x y xs xc xh mh xd ys yc yh nh yd) (NX : NearT 0 0) (NY : NearT 0 0) :
    Calls Try.prog 12 #[.int .i64 6, .agg #[.float .f64 a, .float .f64 b, .float .f64 c, .float .f64 d], .float .f64 m, .float .f64 n] w fun e w' => e = .returned (.bool true) ∧ Below w.heap.size w w' := by
  have HP := Lib.hid hp
  have HS := Lib.hid hs
  have HA := Lib.hid (fun W => anchored_6 W h)
  have HQ := Lib.hid (fun W => place_6 W h)
  have HX := Lib.hid NX
  have HY := Lib.hid NY
  clear hp hs h NX NY
  go_enter Try.func12, Try.ntmps12
  go_wp2_with (first
    | (go_at_call 28; refine (proper_any a b c d true _ HP.out).mono ?_; rintro e w' ⟨rfl, rfl⟩)
    | (go_at_call 22; refine (small_at [m, n] true _ _ (by simp) HS.out (by simp)).mono ?_; rintro e w' ⟨rfl, rfl⟩)
    | (go_at_call 42; refine (HQ.out _).mono ?_; rintro e w4 ⟨rfl, hb⟩; obtain ⟨hq, hf⟩ := bcell hb; have hz := hb.size))
  go_region_held3 (fun w' => (Below w.heap.size w w' ∧ w.heap.size < w'.heap.size ∧ w'.cell? ⟨w.heap.size, 0, none⟩ = some (.float .f64 a) ∧ w'.cell? ⟨w.heap.size, 1, none⟩ = some (.float .f64 b) ∧ w'.cell? ⟨w.heap.size, 2, none⟩ = some (.float .f64 c) ∧ w'.cell? ⟨w.heap.size, 3, none⟩ = some (.float .f64 d)) ∧ (w4.heap.size < w'.heap.size ∧ w'.cell? ⟨w4.heap.size, 0, none⟩ = some (.float .f64 0) ∧ w'.cell? ⟨w4.heap.size, 1, none⟩ = some (.float .f64 0))) (first | assumption | exact keep42 (by assumption) (by assumption) | ((repeat (first | refine kept42_base _ (by simp) ?_ | refine kept42_drew ?_ | refine kept42_alloc _ ?_)); (repeat (first | exact kept_base _ _ _ _ _ _ | refine kept_drew ?_ | refine kept_alloc _ ?_ | refine keep4 ?_ (by assumption)))))
    (first
      | (go_at_call 43; refine (HA.out _).mono ?_; rintro e w' ⟨rfl, hb⟩)
      | (go_at_call 26; refine (nearpair_b _ _ _ _ _ HX.out HY.out).mono ?_; rintro e w' ⟨rfl, hb⟩))
  rename_i hh
  go_wp2
  go_ret
  exact ⟨rfl, hh.1.1⟩

set_option linter.unusedVariables false in
set_option maxHeartbeats 1000000 in
theorem anchored_law_7 {a b c d m n x y xs xc xh mh xd ys yc yh nh yd : Nat} (w : World) (hp : properB a b c d = true) (hs : [m, n].all smallB = true) (o1 : (FloatKind.f64.format.order m 0 == some Ordering.lt) = false) (o2 : (FloatKind.f64.format.order n 0 == some Ordering.lt) = false) (h : AF a b c d m n x y xs xc xh mh xd ys yc yh nh yd) (NX : NearT xd xc) (NY : NearT 0 0) :
    Calls Try.prog 12 #[.int .i64 7, .agg #[.float .f64 a, .float .f64 b, .float .f64 c, .float .f64 d], .float .f64 m, .float .f64 n] w fun e w' => e = .returned (.bool true) ∧ Below w.heap.size w w' := by
  have HP := Lib.hid hp
  have HS := Lib.hid hs
  have HA := Lib.hid (fun W => anchored_7 W h)
  have HQ := Lib.hid (fun W => place_7 W h)
  have HX := Lib.hid NX
  have HY := Lib.hid NY
  clear hp hs h NX NY
  go_enter Try.func12, Try.ntmps12
  go_wp2_with (first
    | (go_at_call 28; refine (proper_any a b c d true _ HP.out).mono ?_; rintro e w' ⟨rfl, rfl⟩)
    | (go_at_call 22; refine (small_at [m, n] true _ _ (by simp) HS.out (by simp)).mono ?_; rintro e w' ⟨rfl, rfl⟩)
    | (go_at_call 42; refine (HQ.out _).mono ?_; rintro e w4 ⟨rfl, hb⟩; obtain ⟨hq, hf⟩ := bcell hb; have hz := hb.size))
  go_region_held3 (fun w' => (Below w.heap.size w w' ∧ w.heap.size < w'.heap.size ∧ w'.cell? ⟨w.heap.size, 0, none⟩ = some (.float .f64 a) ∧ w'.cell? ⟨w.heap.size, 1, none⟩ = some (.float .f64 b) ∧ w'.cell? ⟨w.heap.size, 2, none⟩ = some (.float .f64 c) ∧ w'.cell? ⟨w.heap.size, 3, none⟩ = some (.float .f64 d)) ∧ (w4.heap.size < w'.heap.size ∧ w'.cell? ⟨w4.heap.size, 0, none⟩ = some (.float .f64 xc) ∧ w'.cell? ⟨w4.heap.size, 1, none⟩ = some (.float .f64 0))) (first | assumption | exact keep42 (by assumption) (by assumption) | ((repeat (first | refine kept42_base _ (by simp) ?_ | refine kept42_drew ?_ | refine kept42_alloc _ ?_)); (repeat (first | exact kept_base _ _ _ _ _ _ | refine kept_drew ?_ | refine kept_alloc _ ?_ | refine keep4 ?_ (by assumption)))))
    (first
      | (go_at_call 43; refine (HA.out _).mono ?_; rintro e w' ⟨rfl, hb⟩)
      | (go_at_call 26; refine (nearpair_b _ _ _ _ _ HX.out HY.out).mono ?_; rintro e w' ⟨rfl, hb⟩))
  rename_i hh
  go_wp2
  go_ret
  exact ⟨rfl, hh.1.1⟩

set_option linter.unusedVariables false in
set_option maxHeartbeats 1000000 in
theorem anchored_law_8 {a b c d m n x y xs xc xh mh xd ys yc yh nh yd : Nat} (w : World) (hp : properB a b c d = true) (hs : [m, n].all smallB = true) (o1 : (FloatKind.f64.format.order m 0 == some Ordering.lt) = false) (o2 : (FloatKind.f64.format.order n 0 == some Ordering.lt) = false) (h : AF a b c d m n x y xs xc xh mh xd ys yc yh nh yd) (NX : NearT xs xs) (NY : NearT 0 0) :
    Calls Try.prog 12 #[.int .i64 8, .agg #[.float .f64 a, .float .f64 b, .float .f64 c, .float .f64 d], .float .f64 m, .float .f64 n] w fun e w' => e = .returned (.bool true) ∧ Below w.heap.size w w' := by
  have HP := Lib.hid hp
  have HS := Lib.hid hs
  have HA := Lib.hid (fun W => anchored_8 W h)
  have HQ := Lib.hid (fun W => place_8 W h)
  have HX := Lib.hid NX
  have HY := Lib.hid NY
  clear hp hs h NX NY
  go_enter Try.func12, Try.ntmps12
  go_wp2_with (first
    | (go_at_call 28; refine (proper_any a b c d true _ HP.out).mono ?_; rintro e w' ⟨rfl, rfl⟩)
    | (go_at_call 22; refine (small_at [m, n] true _ _ (by simp) HS.out (by simp)).mono ?_; rintro e w' ⟨rfl, rfl⟩)
    | (go_at_call 42; refine (HQ.out _).mono ?_; rintro e w4 ⟨rfl, hb⟩; obtain ⟨hq, hf⟩ := bcell hb; have hz := hb.size))
  go_region_held3 (fun w' => (Below w.heap.size w w' ∧ w.heap.size < w'.heap.size ∧ w'.cell? ⟨w.heap.size, 0, none⟩ = some (.float .f64 a) ∧ w'.cell? ⟨w.heap.size, 1, none⟩ = some (.float .f64 b) ∧ w'.cell? ⟨w.heap.size, 2, none⟩ = some (.float .f64 c) ∧ w'.cell? ⟨w.heap.size, 3, none⟩ = some (.float .f64 d)) ∧ (w4.heap.size < w'.heap.size ∧ w'.cell? ⟨w4.heap.size, 0, none⟩ = some (.float .f64 xs) ∧ w'.cell? ⟨w4.heap.size, 1, none⟩ = some (.float .f64 0))) (first | assumption | exact keep42 (by assumption) (by assumption) | ((repeat (first | refine kept42_base _ (by simp) ?_ | refine kept42_drew ?_ | refine kept42_alloc _ ?_)); (repeat (first | exact kept_base _ _ _ _ _ _ | refine kept_drew ?_ | refine kept_alloc _ ?_ | refine keep4 ?_ (by assumption)))))
    (first
      | (go_at_call 43; refine (HA.out _).mono ?_; rintro e w' ⟨rfl, hb⟩)
      | (go_at_call 26; refine (nearpair_b _ _ _ _ _ HX.out HY.out).mono ?_; rintro e w' ⟨rfl, hb⟩))
  rename_i hh
  go_wp2
  go_ret
  exact ⟨rfl, hh.1.1⟩

set_option linter.unusedSimpArgs false in
set_option maxHeartbeats 1000000 in
theorem anchored_no (k : Int) (a b c d m n : Nat) (w : World) (hk : k < 0 ∨ 8 < k) (wk : (Lit.int .i64 k).wf = true) (hp : properB a b c d = true) (hs : [m, n].all smallB = true) (o1 : (FloatKind.f64.format.order m 0 == some Ordering.lt) = false) (o2 : (FloatKind.f64.format.order n 0 == some Ordering.lt) = false) :
    Calls Try.prog 12 #[.int .i64 k, .agg #[.float .f64 a, .float .f64 b, .float .f64 c, .float .f64 d], .float .f64 m, .float .f64 n] w fun e w' => e = .returned (.bool true) ∧ Below w.heap.size w w' := by
  have HP := Lib.hid hp
  have HS := Lib.hid hs
  have HQ := Lib.hid (fun W => place_no k a b c d m n W hk wk)
  clear hp hs hk wk
  go_enter Try.func12, Try.ntmps12
  go_wp2_with (first
    | (go_at_call 28; refine (proper_any a b c d true _ HP.out).mono ?_; rintro e w' ⟨rfl, rfl⟩)
    | (go_at_call 22; refine (small_at [m, n] true _ _ (by simp) HS.out (by simp)).mono ?_; rintro e w' ⟨rfl, rfl⟩)
    | (go_at_call 42; refine (HQ.out _).mono ?_; rintro e w4 ⟨rfl, hb⟩; obtain ⟨hq, hf⟩ := bcell hb; have hz := hb.size))
  refine wp_region_noPanic ?_
  refine wp_region_held_drew (S := (fun w' => Below w.heap.size w w')) (by kernel_rfl) ?_ (fun hHeld => ?_)
  · (try dsimp only); (first | assumption | exact (by repeat (first | exact Below.refl _ _ | refine bel_drew ?_ | refine bel_alloc _ ?_ | refine bel_drewN _ ?_ | refine bel_trans (by assumption) ?_ | refine bel_set _ _ (by simp) ?_)))
  refine wpAnyH_take (i := 0) (v := ?v0) rfl (by kernel_rfl) (by kernel_rfl) (by kernel_rfl) (fun _ _ _ h => h) (Or.inl ⟨by rfl, ?y0⟩) (by assumption) ?r0
  case y0 => (intro w hSw; (try dsimp only at hSw); go_simp; try with_reducible rfl)
  try simp only [List.getElem_toArray, List.getElem_cons_zero, List.getElem_cons_succ, Act.put, List.setIfInBounds_toArray, List.set_cons_zero, List.set_cons_succ]
  refine wpAnyH_take (i := 1) (v := ?v1) rfl (by kernel_rfl) (by kernel_rfl) (by kernel_rfl) (fun _ _ _ h => h) (Or.inl ⟨by rfl, ?y1⟩) (by assumption) ?r1
  case y1 => (intro w hSw; (try dsimp only at hSw); go_simp; try with_reducible rfl)
  try simp only [List.getElem_toArray, List.getElem_cons_zero, List.getElem_cons_succ, Act.put, List.setIfInBounds_toArray, List.set_cons_zero, List.set_cons_succ]
  refine wpAnyH_take (i := 2) (v := ?v2) rfl (by kernel_rfl) (by kernel_rfl) (by kernel_rfl) (fun _ _ _ h => h) (Or.inl ⟨by rfl, ?y2⟩) (by assumption) ?r2
  case y2 => (intro w hSw; (try dsimp only at hSw); go_simp; try with_reducible rfl)
  try simp only [List.getElem_toArray, List.getElem_cons_zero, List.getElem_cons_succ, Act.put, List.setIfInBounds_toArray, List.set_cons_zero, List.set_cons_succ]
  refine wpAnyH_take (i := 3) (v := undef) rfl (by kernel_rfl) (by kernel_rfl) (by kernel_rfl) (fun _ _ _ h => h) (Or.inr ⟨by rfl, rfl⟩) (by assumption) ?_
  try simp only [List.getElem_toArray, List.getElem_cons_zero, List.getElem_cons_succ, Act.put, List.setIfInBounds_toArray, List.set_cons_zero, List.set_cons_succ]
  refine wpAnyH_take (i := 4) (v := undef) rfl (by kernel_rfl) (by kernel_rfl) (by kernel_rfl) (fun _ _ _ h => h) (Or.inr ⟨by rfl, rfl⟩) (by assumption) ?_
  try simp only [List.getElem_toArray, List.getElem_cons_zero, List.getElem_cons_succ, Act.put, List.setIfInBounds_toArray, List.set_cons_zero, List.set_cons_succ]
  refine wpAnyH_take (i := 5) (v := undef) rfl (by kernel_rfl) (by kernel_rfl) (by kernel_rfl) (fun _ _ _ h => h) (Or.inr ⟨by rfl, rfl⟩) (by assumption) ?_
  try simp only [List.getElem_toArray, List.getElem_cons_zero, List.getElem_cons_succ, Act.put, List.setIfInBounds_toArray, List.set_cons_zero, List.set_cons_succ]
  refine wpAnyH_take (i := 6) (v := undef) rfl (by kernel_rfl) (by kernel_rfl) (by kernel_rfl) (fun _ _ _ h => h) (Or.inr ⟨by rfl, rfl⟩) (by assumption) ?_
  try simp only [List.getElem_toArray, List.getElem_cons_zero, List.getElem_cons_succ, Act.put, List.setIfInBounds_toArray, List.set_cons_zero, List.set_cons_succ]
  refine wpAnyH_take (i := 7) (v := undef) rfl (by kernel_rfl) (by kernel_rfl) (by kernel_rfl) (fun _ _ _ h => h) (Or.inr ⟨by rfl, rfl⟩) (by assumption) ?_
  try simp only [List.getElem_toArray, List.getElem_cons_zero, List.getElem_cons_succ, Act.put, List.setIfInBounds_toArray, List.set_cons_zero, List.set_cons_succ]
  refine wpAnyH_take (i := 8) (v := undef) rfl (by kernel_rfl) (by kernel_rfl) (by kernel_rfl) (fun _ _ _ h => h) (Or.inr ⟨by rfl, rfl⟩) (by assumption) ?_
  try simp only [List.getElem_toArray, List.getElem_cons_zero, List.getElem_cons_succ, Act.put, List.setIfInBounds_toArray, List.set_cons_zero, List.set_cons_succ]
  refine wpAnyH_take (i := 9) (v := undef) rfl (by kernel_rfl) (by kernel_rfl) (by kernel_rfl) (fun _ _ _ h => h) (Or.inr ⟨by rfl, rfl⟩) (by assumption) ?_
  try simp only [List.getElem_toArray, List.getElem_cons_zero, List.getElem_cons_succ, Act.put, List.setIfInBounds_toArray, List.set_cons_zero, List.set_cons_succ]
  refine wpAnyH_take (i := 10) (v := ?v10) rfl (by kernel_rfl) (by kernel_rfl) (by kernel_rfl) (fun _ _ _ h => h) (Or.inl ⟨by rfl, ?y10⟩) (by assumption) ?r10
  case y10 => (intro w hSw; (try dsimp only at hSw); go_simp; try with_reducible rfl)
  try simp only [List.getElem_toArray, List.getElem_cons_zero, List.getElem_cons_succ, Act.put, List.setIfInBounds_toArray, List.set_cons_zero, List.set_cons_succ]
  refine wpAnyH_take (i := 11) (v := ?v11) rfl (by kernel_rfl) (by kernel_rfl) (by kernel_rfl) (fun _ _ _ h => h) (Or.inl ⟨by rfl, ?y11⟩) (by assumption) ?r11
  case y11 => (intro w hSw; (try dsimp only at hSw); go_simp; try with_reducible rfl)
  try simp only [List.getElem_toArray, List.getElem_cons_zero, List.getElem_cons_succ, Act.put, List.setIfInBounds_toArray, List.set_cons_zero, List.set_cons_succ]
  refine wpAnyH_done (by kernel_rfl) ?_ _
  refine NoPanic.normal ?_
  go_wp2
  go_ret
  exact ⟨rfl, hHeld⟩

set_option linter.unusedVariables false in
set_option maxHeartbeats 1000000 in
theorem anchored_walk (k : Int) (a b c d m n : Nat) (w : World) (wk : (Lit.int .i64 k).wf = true) :
    Calls Try.prog 12 #[.int .i64 k, .agg #[.float .f64 a, .float .f64 b, .float .f64 c, .float .f64 d], .float .f64 m, .float .f64 n] w fun e w' => e = .returned (.bool true) ∧ Below w.heap.size w w' := by
  cases hp : properB a b c d
  · have HP := Lib.hid hp
    clear hp
    go_enter Try.func12, Try.ntmps12
    go_wp2_with (go_at_call 28; refine (proper_any a b c d false _ HP.out).mono ?_; rintro e w' ⟨rfl, rfl⟩)
    go_ret
    exact ⟨rfl, (by repeat (first | exact Below.refl _ _ | refine bel_drew ?_ | refine bel_alloc _ ?_ | refine bel_drewN _ ?_ | refine bel_trans (by assumption) ?_ | refine bel_set _ _ (by simp) ?_))⟩
  cases hs : [m, n].all smallB
  · have HP := Lib.hid hp
    have HS := Lib.hid hs
    clear hp hs
    go_enter Try.func12, Try.ntmps12
    go_wp2_with (first
      | (go_at_call 28; refine (proper_any a b c d true _ HP.out).mono ?_; rintro e w' ⟨rfl, rfl⟩)
      | (go_at_call 22; refine (small_at [m, n] false _ _ (by simp) HS.out (by simp)).mono ?_; rintro e w' ⟨rfl, rfl⟩))
    go_ret
    exact ⟨rfl, (by repeat (first | exact Below.refl _ _ | refine bel_drew ?_ | refine bel_alloc _ ?_ | refine bel_drewN _ ?_ | refine bel_trans (by assumption) ?_ | refine bel_set _ _ (by simp) ?_))⟩
  have hs' := hs
  simp only [List.all_cons, List.all_nil, Bool.and_true, Bool.and_eq_true] at hs'
  obtain ⟨m', hm, m1, m2⟩ := smallB_true hs'.1
  obtain ⟨n', hn, n1, n2⟩ := smallB_true hs'.2
  clear hs'
  by_cases hm0 : m' < 0
  · have o1 := i_lss hm zero64 (b := true) (by simpa using hm0)
    have HP := Lib.hid hp
    have HS := Lib.hid hs
    clear hp hs hm hn m1 m2 n1 n2 hm0
    go_enter Try.func12, Try.ntmps12
    go_wp2_with (first
      | (go_at_call 28; refine (proper_any a b c d true _ HP.out).mono ?_; rintro e w' ⟨rfl, rfl⟩)
      | (go_at_call 22; refine (small_at [m, n] true _ _ (by simp) HS.out (by simp)).mono ?_; rintro e w' ⟨rfl, rfl⟩))
    go_ret
    exact ⟨rfl, (by repeat (first | exact Below.refl _ _ | refine bel_drew ?_ | refine bel_alloc _ ?_ | refine bel_drewN _ ?_ | refine bel_trans (by assumption) ?_ | refine bel_set _ _ (by simp) ?_))⟩
  have o1 := i_lss hm zero64 (b := false) (by simpa using hm0)
  by_cases hn0 : n' < 0
  · have o2 := i_lss hn zero64 (b := true) (by simpa using hn0)
    have HP := Lib.hid hp
    have HS := Lib.hid hs
    clear hp hs hm hn m1 m2 n1 n2 hm0 hn0
    go_enter Try.func12, Try.ntmps12
    go_wp2_with (first
      | (go_at_call 28; refine (proper_any a b c d true _ HP.out).mono ?_; rintro e w' ⟨rfl, rfl⟩)
      | (go_at_call 22; refine (small_at [m, n] true _ _ (by simp) HS.out (by simp)).mono ?_; rintro e w' ⟨rfl, rfl⟩))
    go_ret
    exact ⟨rfl, (by repeat (first | exact Below.refl _ _ | refine bel_drew ?_ | refine bel_alloc _ ?_ | refine bel_drewN _ ?_ | refine bel_trans (by assumption) ?_ | refine bel_set _ _ (by simp) ?_))⟩
  have o2 := i_lss hn zero64 (b := false) (by simpa using hn0)
  by_cases hk : k < 0 ∨ 8 < k
  · exact anchored_no k a b c d m n w hk wk hp hs o1 o2
  obtain ⟨k', l, i, j, ha, hb, hc, hd, ⟨k1, k2⟩, ⟨l1, l2⟩, ⟨i1, i2⟩, ⟨j1, j2⟩, hki, hlj⟩ := properB_true hp
  obtain ⟨x, e1, r1⟩ := sub64 hc ha (by omega)
  obtain ⟨y, e2, r2⟩ := sub64 hd hb (by omega)
  have am := ap64 hm 640000 m1 m2
  have an := ap64 hn 640000 n1 n2
  have ax := ap64 r1 10000000 (by omega) (by omega)
  have ay := ap64 r2 10000000 (by omega) (by omega)
  obtain ⟨xs, e3, a3⟩ := ax.sub am 200000 (1/10000000000) (by decide +kernel)
  obtain ⟨xc, e4, a4⟩ := a3.div Ap.two 2 (by decide +kernel) 100000 (1/10000000000) (by decide +kernel)
  obtain ⟨xh, e5, a5⟩ := ax.div Ap.two 2 (by decide +kernel) 100000 (1/10000000000) (by decide +kernel)
  obtain ⟨mh, e6, a6⟩ := am.div Ap.two 2 (by decide +kernel) 100000 (1/10000000000) (by decide +kernel)
  obtain ⟨xd, e7, a7⟩ := a5.sub a6 200000 (3/10000000000) (by decide +kernel)
  obtain ⟨ys, f3, b3⟩ := ay.sub an 200000 (1/10000000000) (by decide +kernel)
  obtain ⟨yc, f4, b4⟩ := b3.div Ap.two 2 (by decide +kernel) 100000 (1/10000000000) (by decide +kernel)
  obtain ⟨yh, f5, b5⟩ := ay.div Ap.two 2 (by decide +kernel) 100000 (1/10000000000) (by decide +kernel)
  obtain ⟨nh, f6, b6⟩ := an.div Ap.two 2 (by decide +kernel) 100000 (1/10000000000) (by decide +kernel)
  obtain ⟨yd, f7, b7⟩ := b5.sub b6 200000 (3/10000000000) (by decide +kernel)
  have N0 : NearT 0 0 := NearT.same Ap.zero (by decide +kernel)
  have NX1 : NearT xs xs := NearT.same a3 (by decide +kernel)
  have NX2 : NearT xd xc := NearT.of a7 a4 (by grind) (by decide +kernel)
  have NY1 : NearT ys ys := NearT.same b3 (by decide +kernel)
  have NY2 : NearT yd yc := NearT.of b7 b4 (by grind) (by decide +kernel)
  have h : AF a b c d m n x y xs xc xh mh xd ys yc yh nh yd := ⟨e1, e2, e3, e4, e5, e6, e7, f3, f4, f5, f6, f7⟩
  obtain rfl | rfl | rfl | rfl | rfl | rfl | rfl | rfl | rfl : k = 0 ∨ k = 1 ∨ k = 2 ∨ k = 3 ∨ k = 4 ∨ k = 5 ∨ k = 6 ∨ k = 7 ∨ k = 8 := by omega
  · exact anchored_law_0 w hp hs o1 o2 h N0 NY1
  · exact anchored_law_1 w hp hs o1 o2 h NX2 NY1
  · exact anchored_law_2 w hp hs o1 o2 h NX1 NY1
  · exact anchored_law_3 w hp hs o1 o2 h N0 NY2
  · exact anchored_law_4 w hp hs o1 o2 h NX2 NY2
  · exact anchored_law_5 w hp hs o1 o2 h NX1 NY2
  · exact anchored_law_6 w hp hs o1 o2 h N0 N0
  · exact anchored_law_7 w hp hs o1 o2 h NX2 N0
  · exact anchored_law_8 w hp hs o1 o2 h NX1 N0

end Go.Proofs.Ytooghncdhjdcpaa
