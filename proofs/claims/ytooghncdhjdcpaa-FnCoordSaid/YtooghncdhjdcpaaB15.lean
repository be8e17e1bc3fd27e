/-
The law FnCoord, walked: it answers true. No condition.
-/
import Derived.Test.YtooghncdhjdcpaaA6
import Derived.Test.YtooghncdhjdcpaaFx
namespace Go.Proofs.Ytooghncdhjdcpaa
open Go.RowKit Fl

/-- The operations' answers: the flips. -/
structure CF (a b c d x y W H X Y : Nat) : Prop where
  e1 : floatBits .sub .f64 c a = some W
  e2 : floatBits .sub .f64 d b = some H
  e3 : floatBits .sub .f64 W x = some X
  e4 : floatBits .sub .f64 H y = some Y
  x0 : (FloatKind.f64.format.order x 0 == some Ordering.gt || FloatKind.f64.format.order x 0 == some Ordering.eq) = true
  y0 : (FloatKind.f64.format.order y 0 == some Ordering.gt || FloatKind.f64.format.order y 0 == some Ordering.eq) = true
  X0 : (FloatKind.f64.format.order X 0 == some Ordering.gt || FloatKind.f64.format.order X 0 == some Ordering.eq) = true
  Y0 : (FloatKind.f64.format.order Y 0 == some Ordering.gt || FloatKind.f64.format.order Y 0 == some Ordering.eq) = true
  X1 : (FloatKind.f64.format.order X 0 == some Ordering.lt) = false
  Y1 : (FloatKind.f64.format.order Y 0 == some Ordering.lt) = false

/-- What the law asks ahead. -/
structure CG (a b x y W H : Nat) : Prop where
  l1 : (FloatKind.f64.format.order x 0 == some Ordering.lt) = false
  l2 : (FloatKind.f64.format.order y 0 == some Ordering.lt) = false
  l3 : (FloatKind.f64.format.order x W == some Ordering.gt) = false
  l4 : (FloatKind.f64.format.order y H == some Ordering.gt) = false
  l5 : (FloatKind.f64.format.order a 0 == some Ordering.lt) = false
  l6 : (FloatKind.f64.format.order b 0 == some Ordering.lt) = false

theorem coord_0_f {a b c d x y W H X Y : Nat} (w : World) (h : CF a b c d x y W H X Y) :
    Calls Try.prog 46 #[.float .f64 x, .float .f64 y, .agg #[.float .f64 a, .float .f64 b, .float .f64 c, .float .f64 d], .int .i64 0, .bool false] w fun e w' => e = .returned (.agg #[.float .f64 x, .float .f64 y]) ∧ Below w.heap.size w w' := by
  obtain ⟨e1, e2, e3, e4, x0, y0, X0, Y0, X1, Y1⟩ := h
  have o1 := run_bin (P := Try.prog) .sub e1
  have o2 := run_bin (P := Try.prog) .sub e2
  have o3 := run_bin (P := Try.prog) .sub e3
  have o4 := run_bin (P := Try.prog) .sub e4
  clear e1 e2 e3 e4
  go_enter Try.func46, Try.ntmps46
  go_wp2_with (first
    | (go_at_call 67; refine (rect_exact a b c d _).mono ?_; rintro e w' ⟨rfl, rfl⟩)
    | (go_at_call 80; go_in)
    | (go_at_call 99; go_in)
    | (go_at_call 100; go_in))
  exact bodyPost_ret (v := .agg #[.float .f64 x, .float .f64 y]) (by simp [results, Try.results46, go_sem]) rfl ⟨rfl, (by repeat (first | exact Below.refl _ _ | refine bel_drew ?_ | refine bel_alloc _ ?_ | refine bel_drewN _ ?_ | refine bel_trans (by assumption) ?_ | refine bel_set _ _ (by simp) ?_))⟩

set_option linter.unusedVariables false in
set_option maxHeartbeats 2000000 in
theorem clx_0_f {a b c d x y W H X Y : Nat} (w : World) (hp : properB a b c d = true) (hs : [x, y].all smallB = true) (h : CF a b c d x y W H X Y) (hg : CG a b x y W H) (NX : NearT x x) (NY : NearT y y) :
    Calls Try.prog 15 #[.float .f64 x, .float .f64 y, .agg #[.float .f64 a, .float .f64 b, .float .f64 c, .float .f64 d], .int .i64 0, .bool false] w fun e w' => e = .returned (.bool true) ∧ Below w.heap.size w w' := by
  have HP := Lib.hid hp
  have HS := Lib.hid hs
  have HC := Lib.hid (fun W => coord_0_f W h)
  have HX := Lib.hid NX
  have HY := Lib.hid NY
  obtain ⟨e1, e2, e3, e4, x0, y0, X0, Y0, X1, Y1⟩ := h
  obtain ⟨l1, l2, l3, l4, l5, l6⟩ := hg
  have o1 := run_bin (P := Try.prog) .sub e1
  have o2 := run_bin (P := Try.prog) .sub e2
  have o3 := run_bin (P := Try.prog) .sub e3
  have o4 := run_bin (P := Try.prog) .sub e4
  clear e1 e2 e3 e4 hp hs NX NY x0 y0 X0 Y0 X1 Y1
  go_enter Try.func15, Try.ntmps15
  go_wp2_with (first
    | (go_at_call 28; refine (proper_any a b c d true _ HP.out).mono ?_; rintro e w' ⟨rfl, rfl⟩)
    | (go_at_call 22; refine (small_at [x, y] true _ _ (by simp) HS.out (by simp)).mono ?_; rintro e w' ⟨rfl, rfl⟩))
  go_region_held3 (fun w' => (Below w.heap.size w w' ∧ w.heap.size < w'.heap.size ∧ w'.cell? ⟨w.heap.size, 0, none⟩ = some (.float .f64 a) ∧ w'.cell? ⟨w.heap.size, 1, none⟩ = some (.float .f64 b) ∧ w'.cell? ⟨w.heap.size, 2, none⟩ = some (.float .f64 c) ∧ w'.cell? ⟨w.heap.size, 3, none⟩ = some (.float .f64 d)) ∧ (w.heap.size + 1 + 1 + 1 + 1 < w'.heap.size ∧ w'.cell? ⟨w.heap.size + 1 + 1 + 1 + 1, 0, none⟩ = some (.float .f64 x) ∧ w'.cell? ⟨w.heap.size + 1 + 1 + 1 + 1, 1, none⟩ = some (.float .f64 y))) (first | assumption | exact keep42 (by assumption) (by assumption) | ((repeat (first | refine kept42_base _ (by simp) ?_ | refine kept42_drew ?_ | refine kept42_alloc _ ?_)); (repeat (first | exact kept_base _ _ _ _ _ _ | refine kept_drew ?_ | refine kept_alloc _ ?_ | refine keep4 ?_ (by assumption)))))
    (first
      | (go_at_call 46; refine (HC.out _).mono ?_; rintro e w' ⟨rfl, hb⟩)
      | (go_at_call 26; refine (nearpair_b _ _ _ _ _ HX.out HY.out).mono ?_; rintro e w' ⟨rfl, hb⟩))
  rename_i hh
  go_wp2
  go_ret
  exact ⟨rfl, hh.1.1⟩

theorem coord_0_t {a b c d x y W H X Y U V : Nat} (w : World) (h : CF a b c d x y W H X Y) (g1 : floatBits .add .f64 x a = some U) (g2 : floatBits .add .f64 y b = some V) :
    Calls Try.prog 46 #[.float .f64 x, .float .f64 y, .agg #[.float .f64 a, .float .f64 b, .float .f64 c, .float .f64 d], .int .i64 0, .bool true] w fun e w' => e = .returned (.agg #[.float .f64 U, .float .f64 V]) ∧ Below w.heap.size w w' := by
  obtain ⟨e1, e2, e3, e4, x0, y0, X0, Y0, X1, Y1⟩ := h
  have o1 := run_bin (P := Try.prog) .sub e1
  have o2 := run_bin (P := Try.prog) .sub e2
  have o3 := run_bin (P := Try.prog) .sub e3
  have o4 := run_bin (P := Try.prog) .sub e4
  have o5 := run_bin (P := Try.prog) .add g1
  have o6 := run_bin (P := Try.prog) .add g2
  clear e1 e2 e3 e4 g1 g2
  go_enter Try.func46, Try.ntmps46
  go_wp2_with (first
    | (go_at_call 67; refine (rect_exact a b c d _).mono ?_; rintro e w' ⟨rfl, rfl⟩)
    | (go_at_call 80; go_in)
    | (go_at_call 99; go_in)
    | (go_at_call 100; go_in))
  exact bodyPost_ret (v := .agg #[.float .f64 U, .float .f64 V]) (by simp [results, Try.results46, go_sem]) rfl ⟨rfl, (by repeat (first | exact Below.refl _ _ | refine bel_drew ?_ | refine bel_alloc _ ?_ | refine bel_drewN _ ?_ | refine bel_trans (by assumption) ?_ | refine bel_set _ _ (by simp) ?_))⟩

set_option linter.unusedVariables false in
set_option maxHeartbeats 2000000 in
theorem clx_0_t {a b c d x y W H X Y U V : Nat} (w : World) (hp : properB a b c d = true) (hs : [x, y].all smallB = true) (h : CF a b c d x y W H X Y) (hg : CG a b x y W H) (g1 : floatBits .add .f64 x a = some U) (g2 : floatBits .add .f64 y b = some V) (NX : NearT U U) (NY : NearT V V) :
    Calls Try.prog 15 #[.float .f64 x, .float .f64 y, .agg #[.float .f64 a, .float .f64 b, .float .f64 c, .float .f64 d], .int .i64 0, .bool true] w fun e w' => e = .returned (.bool true) ∧ Below w.heap.size w w' := by
  have HP := Lib.hid hp
  have HS := Lib.hid hs
  have HC := Lib.hid (fun W => coord_0_t W h g1 g2)
  have HX := Lib.hid NX
  have HY := Lib.hid NY
  obtain ⟨e1, e2, e3, e4, x0, y0, X0, Y0, X1, Y1⟩ := h
  obtain ⟨l1, l2, l3, l4, l5, l6⟩ := hg
  have o1 := run_bin (P := Try.prog) .sub e1
  have o2 := run_bin (P := Try.prog) .sub e2
  have o3 := run_bin (P := Try.prog) .sub e3
  have o4 := run_bin (P := Try.prog) .sub e4
  have o5 := run_bin (P := Try.prog) .add g1
  have o6 := run_bin (P := Try.prog) .add g2
  clear e1 e2 e3 e4 hp hs NX NY x0 y0 X0 Y0 X1 Y1 g1 g2
  go_enter Try.func15, Try.ntmps15
  go_wp2_with (first
    | (go_at_call 28; refine (proper_any a b c d true _ HP.out).mono ?_; rintro e w' ⟨rfl, rfl⟩)
    | (go_at_call 22; refine (small_at [x, y] true _ _ (by simp) HS.out (by simp)).mono ?_; rintro e w' ⟨rfl, rfl⟩))
  go_region
  go_wp2
  go_region_held3 (fun w' => (Below w.heap.size w w' ∧ w.heap.size < w'.heap.size ∧ w'.cell? ⟨w.heap.size, 0, none⟩ = some (.float .f64 a) ∧ w'.cell? ⟨w.heap.size, 1, none⟩ = some (.float .f64 b) ∧ w'.cell? ⟨w.heap.size, 2, none⟩ = some (.float .f64 c) ∧ w'.cell? ⟨w.heap.size, 3, none⟩ = some (.float .f64 d)) ∧ (w.heap.size + 1 + 1 + 1 + 1 < w'.heap.size ∧ w'.cell? ⟨w.heap.size + 1 + 1 + 1 + 1, 0, none⟩ = some (.float .f64 U) ∧ w'.cell? ⟨w.heap.size + 1 + 1 + 1 + 1, 1, none⟩ = some (.float .f64 V))) (first | assumption | exact keep42 (by assumption) (by assumption) | ((repeat (first | refine kept42_base _ (by simp) ?_ | refine kept42_drew ?_ | refine kept42_alloc _ ?_)); (repeat (first | exact kept_base _ _ _ _ _ _ | refine kept_drew ?_ | refine kept_alloc _ ?_ | refine keep4 ?_ (by assumption)))))
    (first
      | (go_at_call 46; refine (HC.out _).mono ?_; rintro e w' ⟨rfl, hb⟩)
      | (go_at_call 26; refine (nearpair_b _ _ _ _ _ HX.out HY.out).mono ?_; rintro e w' ⟨rfl, hb⟩))
  rename_i hh
  go_wp2
  go_ret
  exact ⟨rfl, hh.1.1⟩

theorem coord_1_f {a b c d x y W H X Y : Nat} (w : World) (h : CF a b c d x y W H X Y) :
    Calls Try.prog 46 #[.float .f64 x, .float .f64 y, .agg #[.float .f64 a, .float .f64 b, .float .f64 c, .float .f64 d], .int .i64 1, .bool false] w fun e w' => e = .returned (.agg #[.float .f64 X, .float .f64 y]) ∧ Below w.heap.size w w' := by
  obtain ⟨e1, e2, e3, e4, x0, y0, X0, Y0, X1, Y1⟩ := h
  have o1 := run_bin (P := Try.prog) .sub e1
  have o2 := run_bin (P := Try.prog) .sub e2
  have o3 := run_bin (P := Try.prog) .sub e3
  have o4 := run_bin (P := Try.prog) .sub e4
  clear e1 e2 e3 e4
  go_enter Try.func46, Try.ntmps46
  go_wp2_with (first
    | (go_at_call 67; refine (rect_exact a b c d _).mono ?_; rintro e w' ⟨rfl, rfl⟩)
    | (go_at_call 80; go_in)
    | (go_at_call 99; go_in)
    | (go_at_call 100; go_in))
  exact bodyPost_ret (v := .agg #[.float .f64 X, .float .f64 y]) (by simp [results, Try.results46, go_sem]) rfl ⟨rfl, (by repeat (first | exact Below.refl _ _ | refine bel_drew ?_ | refine bel_alloc _ ?_ | refine bel_drewN _ ?_ | refine bel_trans (by assumption) ?_ | refine bel_set _ _ (by simp) ?_))⟩

set_option linter.unusedVariables false in
set_option maxHeartbeats 2000000 in
theorem clx_1_f {a b c d x y W H X Y : Nat} (w : World) (hp : properB a b c d = true) (hs : [x, y].all smallB = true) (h : CF a b c d x y W H X Y) (hg : CG a b x y W H) (NX : NearT X X) (NY : NearT y y) :
    Calls Try.prog 15 #[.float .f64 x, .float .f64 y, .agg #[.float .f64 a, .float .f64 b, .float .f64 c, .float .f64 d], .int .i64 1, .bool false] w fun e w' => e = .returned (.bool true) ∧ Below w.heap.size w w' := by
  have HP := Lib.hid hp
  have HS := Lib.hid hs
  have HC := Lib.hid (fun W => coord_1_f W h)
  have HX := Lib.hid NX
  have HY := Lib.hid NY
  obtain ⟨e1, e2, e3, e4, x0, y0, X0, Y0, X1, Y1⟩ := h
  obtain ⟨l1, l2, l3, l4, l5, l6⟩ := hg
  have o1 := run_bin (P := Try.prog) .sub e1
  have o2 := run_bin (P := Try.prog) .sub e2
  have o3 := run_bin (P := Try.prog) .sub e3
  have o4 := run_bin (P := Try.prog) .sub e4
  clear e1 e2 e3 e4 hp hs NX NY x0 y0 X0 Y0 X1 Y1
  go_enter Try.func15, Try.ntmps15
  go_wp2_with (first
    | (go_at_call 28; refine (proper_any a b c d true _ HP.out).mono ?_; rintro e w' ⟨rfl, rfl⟩)
    | (go_at_call 22; refine (small_at [x, y] true _ _ (by simp) HS.out (by simp)).mono ?_; rintro e w' ⟨rfl, rfl⟩))
  go_region_held3 (fun w' => (Below w.heap.size w w' ∧ w.heap.size < w'.heap.size ∧ w'.cell? ⟨w.heap.size, 0, none⟩ = some (.float .f64 a) ∧ w'.cell? ⟨w.heap.size, 1, none⟩ = some (.float .f64 b) ∧ w'.cell? ⟨w.heap.size, 2, none⟩ = some (.float .f64 c) ∧ w'.cell? ⟨w.heap.size, 3, none⟩ = some (.float .f64 d)) ∧ (w.heap.size + 1 + 1 + 1 + 1 < w'.heap.size ∧ w'.cell? ⟨w.heap.size + 1 + 1 + 1 + 1, 0, none⟩ = some (.float .f64 X) ∧ w'.cell? ⟨w.heap.size + 1 + 1 + 1 + 1, 1, none⟩ = some (.float .f64 y))) (first | assumption | exact keep42 (by assumption) (by assumption) | ((repeat (first | refine kept42_base _ (by simp) ?_ | refine kept42_drew ?_ | refine kept42_alloc _ ?_)); (repeat (first | exact kept_base _ _ _ _ _ _ | refine kept_drew ?_ | refine kept_alloc _ ?_ | refine keep4 ?_ (by assumption)))))
    (first
      | (go_at_call 46; refine (HC.out _).mono ?_; rintro e w' ⟨rfl, hb⟩)
      | (go_at_call 26; refine (nearpair_b _ _ _ _ _ HX.out HY.out).mono ?_; rintro e w' ⟨rfl, hb⟩))
  rename_i hh
  go_wp2
  go_ret
  exact ⟨rfl, hh.1.1⟩

theorem coord_1_t {a b c d x y W H X Y U V : Nat} (w : World) (h : CF a b c d x y W H X Y) (g1 : floatBits .add .f64 X a = some U) (g2 : floatBits .add .f64 y b = some V) :
    Calls Try.prog 46 #[.float .f64 x, .float .f64 y, .agg #[.float .f64 a, .float .f64 b, .float .f64 c, .float .f64 d], .int .i64 1, .bool true] w fun e w' => e = .returned (.agg #[.float .f64 U, .float .f64 V]) ∧ Below w.heap.size w w' := by
  obtain ⟨e1, e2, e3, e4, x0, y0, X0, Y0, X1, Y1⟩ := h
  have o1 := run_bin (P := Try.prog) .sub e1
  have o2 := run_bin (P := Try.prog) .sub e2
  have o3 := run_bin (P := Try.prog) .sub e3
  have o4 := run_bin (P := Try.prog) .sub e4
  have o5 := run_bin (P := Try.prog) .add g1
  have o6 := run_bin (P := Try.prog) .add g2
  clear e1 e2 e3 e4 g1 g2
  go_enter Try.func46, Try.ntmps46
  go_wp2_with (first
    | (go_at_call 67; refine (rect_exact a b c d _).mono ?_; rintro e w' ⟨rfl, rfl⟩)
    | (go_at_call 80; go_in)
    | (go_at_call 99; go_in)
    | (go_at_call 100; go_in))
  exact bodyPost_ret (v := .agg #[.float .f64 U, .float .f64 V]) (by simp [results, Try.results46, go_sem]) rfl ⟨rfl, (by repeat (first | exact Below.refl _ _ | refine bel_drew ?_ | refine bel_alloc _ ?_ | refine bel_drewN _ ?_ | refine bel_trans (by assumption) ?_ | refine bel_set _ _ (by simp) ?_))⟩

set_option linter.unusedVariables false in
set_option maxHeartbeats 2000000 in
theorem clx_1_t {a b c d x y W H X Y U V : Nat} (w : World) (hp : properB a b c d = true) (hs : [x, y].all smallB = true) (h : CF a b c d x y W H X Y) (hg : CG a b x y W H) (g1 : floatBits .add .f64 X a = some U) (g2 : floatBits .add .f64 y b = some V) (NX : NearT U U) (NY : NearT V V) :
    Calls Try.prog 15 #[.float .f64 x, .float .f64 y, .agg #[.float .f64 a, .float .f64 b, .float .f64 c, .float .f64 d], .int .i64 1, .bool true] w fun e w' => e = .returned (.bool true) ∧ Below w.heap.size w w' := by
  have HP := Lib.hid hp
  have HS := Lib.hid hs
  have HC := Lib.hid (fun W => coord_1_t W h g1 g2)
  have HX := Lib.hid NX
  have HY := Lib.hid NY
  obtain ⟨e1, e2, e3, e4, x0, y0, X0, Y0, X1, Y1⟩ := h
  obtain ⟨l1, l2, l3, l4, l5, l6⟩ := hg
  have o1 := run_bin (P := Try.prog) .sub e1
  have o2 := run_bin (P := Try.prog) .sub e2
  have o3 := run_bin (P := Try.prog) .sub e3
  have o4 := run_bin (P := Try.prog) .sub e4
  have o5 := run_bin (P := Try.prog) .add g1
  have o6 := run_bin (P := Try.prog) .add g2
  clear e1 e2 e3 e4 hp hs NX NY x0 y0 X0 Y0 X1 Y1 g1 g2
  go_enter Try.func15, Try.ntmps15
  go_wp2_with (first
    | (go_at_call 28; refine (proper_any a b c d true _ HP.out).mono ?_; rintro e w' ⟨rfl, rfl⟩)
    | (go_at_call 22; refine (small_at [x, y] true _ _ (by simp) HS.out (by simp)).mono ?_; rintro e w' ⟨rfl, rfl⟩))
  go_region
  go_wp2
  go_region_held3 (fun w' => (Below w.heap.size w w' ∧ w.heap.size < w'.heap.size ∧ w'.cell? ⟨w.heap.size, 0, none⟩ = some (.float .f64 a) ∧ w'.cell? ⟨w.heap.size, 1, none⟩ = some (.float .f64 b) ∧ w'.cell? ⟨w.heap.size, 2, none⟩ = some (.float .f64 c) ∧ w'.cell? ⟨w.heap.size, 3, none⟩ = some (.float .f64 d)) ∧ (w.heap.size + 1 + 1 + 1 + 1 < w'.heap.size ∧ w'.cell? ⟨w.heap.size + 1 + 1 + 1 + 1, 0, none⟩ = some (.float .f64 U) ∧ w'.cell? ⟨w.heap.size + 1 + 1 + 1 + 1, 1, none⟩ = some (.float .f64 V))) (first | assumption | exact keep42 (by assumption) (by assumption) | ((repeat (first | refine kept42_base _ (by simp) ?_ | refine kept42_drew ?_ | refine kept42_alloc _ ?_)); (repeat (first | exact kept_base _ _ _ _ _ _ | refine kept_drew ?_ | refine kept_alloc _ ?_ | refine keep4 ?_ (by assumption)))))
    (first
      | (go_at_call 46; refine (HC.out _).mono ?_; rintro e w' ⟨rfl, hb⟩)
      | (go_at_call 26; refine (nearpair_b _ _ _ _ _ HX.out HY.out).mono ?_; rintro e w' ⟨rfl, hb⟩))
  rename_i hh
  go_wp2
  go_ret
  exact ⟨rfl, hh.1.1⟩

theorem coord_2_f {a b c d x y W H X Y : Nat} (w : World) (h : CF a b c d x y W H X Y) :
    Calls Try.prog 46 #[.float .f64 x, .float .f64 y, .agg #[.float .f64 a, .float .f64 b, .float .f64 c, .float .f64 d], .int .i64 2, .bool false] w fun e w' => e = .returned (.agg #[.float .f64 x, .float .f64 Y]) ∧ Below w.heap.size w w' := by
  obtain ⟨e1, e2, e3, e4, x0, y0, X0, Y0, X1, Y1⟩ := h
  have o1 := run_bin (P := Try.prog) .sub e1
  have o2 := run_bin (P := Try.prog) .sub e2
  have o3 := run_bin (P := Try.prog) .sub e3
  have o4 := run_bin (P := Try.prog) .sub e4
  clear e1 e2 e3 e4
  go_enter Try.func46, Try.ntmps46
  go_wp2_with (first
    | (go_at_call 67; refine (rect_exact a b c d _).mono ?_; rintro e w' ⟨rfl, rfl⟩)
    | (go_at_call 80; go_in)
    | (go_at_call 99; go_in)
    | (go_at_call 100; go_in))
  exact bodyPost_ret (v := .agg #[.float .f64 x, .float .f64 Y]) (by simp [results, Try.results46, go_sem]) rfl ⟨rfl, (by repeat (first | exact Below.refl _ _ | refine bel_drew ?_ | refine bel_alloc _ ?_ | refine bel_drewN _ ?_ | refine bel_trans (by assumption) ?_ | refine bel_set _ _ (by simp) ?_))⟩

set_option linter.unusedVariables false in
set_option maxHeartbeats 2000000 in
theorem clx_2_f {a b c d x y W H X Y : Nat} (w : World) (hp : properB a b c d = true) (hs : [x, y].all smallB = true) (h : CF a b c d x y W H X Y) (hg : CG a b x y W H) (NX : NearT x x) (NY : NearT Y Y) :
    Calls Try.prog 15 #[.float .f64 x, .float .f64 y, .agg #[.float .f64 a, .float .f64 b, .float .f64 c, .float .f64 d], .int .i64 2, .bool false] w fun e w' => e = .returned (.bool true) ∧ Below w.heap.size w w' := by
  have HP := Lib.hid hp
  have HS := Lib.hid hs
  have HC := Lib.hid (fun W => coord_2_f W h)
  have HX := Lib.hid NX
  have HY := Lib.hid NY
  obtain ⟨e1, e2, e3, e4, x0, y0, X0, Y0, X1, Y1⟩ := h
  obtain ⟨l1, l2, l3, l4, l5, l6⟩ := hg
  have o1 := run_bin (P := Try.prog) .sub e1
  have o2 := run_bin (P := Try.prog) .sub e2
  have o3 := run_bin (P := Try.prog) .sub e3
  have o4 := run_bin (P := Try.prog) .sub e4
  clear e1 e2 e3 e4 hp hs NX NY x0 y0 X0 Y0 X1 Y1
  go_enter Try.func15, Try.ntmps15
  go_wp2_with (first
    | (go_at_call 28; refine (proper_any a b c d true _ HP.out).mono ?_; rintro e w' ⟨rfl, rfl⟩)
    | (go_at_call 22; refine (small_at [x, y] true _ _ (by simp) HS.out (by simp)).mono ?_; rintro e w' ⟨rfl, rfl⟩))
  go_region_held3 (fun w' => (Below w.heap.size w w' ∧ w.heap.size < w'.heap.size ∧ w'.cell? ⟨w.heap.size, 0, none⟩ = some (.float .f64 a) ∧ w'.cell? ⟨w.heap.size, 1, none⟩ = some (.float .f64 b) ∧ w'.cell? ⟨w.heap.size, 2, none⟩ = some (.float .f64 c) ∧ w'.cell? ⟨w.heap.size, 3, none⟩ = some (.float .f64 d)) ∧ (w.heap.size + 1 + 1 + 1 + 1 < w'.heap.size ∧ w'.cell? ⟨w.heap.size + 1 + 1 + 1 + 1, 0, none⟩ = some (.float .f64 x) ∧ w'.cell? ⟨w.heap.size + 1 + 1 + 1 + 1, 1, none⟩ = some (.float .f64 Y))) (first | assumption | exact keep42 (by assumption) (by assumption) | ((repeat (first | refine kept42_base _ (by simp) ?_ | refine kept42_drew ?_ | refine kept42_alloc _ ?_)); (repeat (first | exact kept_base _ _ _ _ _ _ | refine kept_drew ?_ | refine kept_alloc _ ?_ | refine keep4 ?_ (by assumption)))))
    (first
      | (go_at_call 46; refine (HC.out _).mono ?_; rintro e w' ⟨rfl, hb⟩)
      | (go_at_call 26; refine (nearpair_b _ _ _ _ _ HX.out HY.out).mono ?_; rintro e w' ⟨rfl, hb⟩))
  rename_i hh
  go_wp2
  go_ret
  exact ⟨rfl, hh.1.1⟩

theorem coord_2_t {a b c d x y W H X Y U V : Nat} (w : World) (h : CF a b c d x y W H X Y) (g1 : floatBits .add .f64 x a = some U) (g2 : floatBits .add .f64 Y b = some V) :
    Calls Try.prog 46 #[.float .f64 x, .float .f64 y, .agg #[.float .f64 a, .float .f64 b, .float .f64 c, .float .f64 d], .int .i64 2, .bool true] w fun e w' => e = .returned (.agg #[.float .f64 U, .float .f64 V]) ∧ Below w.heap.size w w' := by
  obtain ⟨e1, e2, e3, e4, x0, y0, X0, Y0, X1, Y1⟩ := h
  have o1 := run_bin (P := Try.prog) .sub e1
  have o2 := run_bin (P := Try.prog) .sub e2
  have o3 := run_bin (P := Try.prog) .sub e3
  have o4 := run_bin (P := Try.prog) .sub e4
  have o5 := run_bin (P := Try.prog) .add g1
  have o6 := run_bin (P := Try.prog) .add g2
  clear e1 e2 e3 e4 g1 g2
  go_enter Try.func46, Try.ntmps46
  go_wp2_with (first
    | (go_at_call 67; refine (rect_exact a b c d _).mono ?_; rintro e w' ⟨rfl, rfl⟩)
    | (go_at_call 80; go_in)
    | (go_at_call 99; go_in)
    | (go_at_call 100; go_in))
  exact bodyPost_ret (v := .agg #[.float .f64 U, .float .f64 V]) (by simp [results, Try.results46, go_sem]) rfl ⟨rfl, (by repeat (first | exact Below.refl _ _ | refine bel_drew ?_ | refine bel_alloc _ ?_ | refine bel_drewN _ ?_ | refine bel_trans (by assumption) ?_ | refine bel_set _ _ (by simp) ?_))⟩

set_option linter.unusedVariables false in
set_option maxHeartbeats 2000000 in
theorem clx_2_t {a b c d x y W H X Y U V : Nat} (w : World) (hp : properB a b c d = true) (hs : [x, y].all smallB = true) (h : CF a b c d x y W H X Y) (hg : CG a b x y W H) (g1 : floatBits .add .f64 x a = some U) (g2 : floatBits .add .f64 Y b = some V) (NX : NearT U U) (NY : NearT V V) :
    Calls Try.prog 15 #[.float .f64 x, .float .f64 y, .agg #[.float .f64 a, .float .f64 b, .float .f64 c, .float .f64 d], .int .i64 2, .bool true] w fun e w' => e = .returned (.bool true) ∧ Below w.heap.size w w' := by
  have HP := Lib.hid hp
  have HS := Lib.hid hs
  have HC := Lib.hid (fun W => coord_2_t W h g1 g2)
  have HX := Lib.hid NX
  have HY := Lib.hid NY
  obtain ⟨e1, e2, e3, e4, x0, y0, X0, Y0, X1, Y1⟩ := h
  obtain ⟨l1, l2, l3, l4, l5, l6⟩ := hg
  have o1 := run_bin (P := Try.prog) .sub e1
  have o2 := run_bin (P := Try.prog) .sub e2
  have o3 := run_bin (P := Try.prog) .sub e3
  have o4 := run_bin (P := Try.prog) .sub e4
  have o5 := run_bin (P := Try.prog) .add g1
  have o6 := run_bin (P := Try.prog) .add g2
  clear e1 e2 e3 e4 hp hs NX NY x0 y0 X0 Y0 X1 Y1 g1 g2
  go_enter Try.func15, Try.ntmps15
  go_wp2_with (first
    | (go_at_call 28; refine (proper_any a b c d true _ HP.out).mono ?_; rintro e w' ⟨rfl, rfl⟩)
    | (go_at_call 22; refine (small_at [x, y] true _ _ (by simp) HS.out (by simp)).mono ?_; rintro e w' ⟨rfl, rfl⟩))
  go_region
  go_wp2
  go_region_held3 (fun w' => (Below w.heap.size w w' ∧ w.heap.size < w'.heap.size ∧ w'.cell? ⟨w.heap.size, 0, none⟩ = some (.float .f64 a) ∧ w'.cell? ⟨w.heap.size, 1, none⟩ = some (.float .f64 b) ∧ w'.cell? ⟨w.heap.size, 2, none⟩ = some (.float .f64 c) ∧ w'.cell? ⟨w.heap.size, 3, none⟩ = some (.float .f64 d)) ∧ (w.heap.size + 1 + 1 + 1 + 1 < w'.heap.size ∧ w'.cell? ⟨w.heap.size + 1 + 1 + 1 + 1, 0, none⟩ = some (.float .f64 U) ∧ w'.cell? ⟨w.heap.size + 1 + 1 + 1 + 1, 1, none⟩ = some (.float .f64 V))) (first | assumption | exact keep42 (by assumption) (by assumption) | ((repeat (first | refine kept42_base _ (by simp) ?_ | refine kept42_drew ?_ | refine kept42_alloc _ ?_)); (repeat (first | exact kept_base _ _ _ _ _ _ | refine kept_drew ?_ | refine kept_alloc _ ?_ | refine keep4 ?_ (by assumption)))))
    (first
      | (go_at_call 46; refine (HC.out _).mono ?_; rintro e w' ⟨rfl, hb⟩)
      | (go_at_call 26; refine (nearpair_b _ _ _ _ _ HX.out HY.out).mono ?_; rintro e w' ⟨rfl, hb⟩))
  rename_i hh
  go_wp2
  go_ret
  exact ⟨rfl, hh.1.1⟩

theorem coord_3_f {a b c d x y W H X Y : Nat} (w : World) (h : CF a b c d x y W H X Y) :
    Calls Try.prog 46 #[.float .f64 x, .float .f64 y, .agg #[.float .f64 a, .float .f64 b, .float .f64 c, .float .f64 d], .int .i64 3, .bool false] w fun e w' => e = .returned (.agg #[.float .f64 X, .float .f64 Y]) ∧ Below w.heap.size w w' := by
  obtain ⟨e1, e2, e3, e4, x0, y0, X0, Y0, X1, Y1⟩ := h
  have o1 := run_bin (P := Try.prog) .sub e1
  have o2 := run_bin (P := Try.prog) .sub e2
  have o3 := run_bin (P := Try.prog) .sub e3
  have o4 := run_bin (P := Try.prog) .sub e4
  clear e1 e2 e3 e4
  go_enter Try.func46, Try.ntmps46
  go_wp2_with (first
    | (go_at_call 67; refine (rect_exact a b c d _).mono ?_; rintro e w' ⟨rfl, rfl⟩)
    | (go_at_call 80; go_in)
    | (go_at_call 99; go_in)
    | (go_at_call 100; go_in))
  exact bodyPost_ret (v := .agg #[.float .f64 X, .float .f64 Y]) (by simp [results, Try.results46, go_sem]) rfl ⟨rfl, (by repeat (first | exact Below.refl _ _ | refine bel_drew ?_ | refine bel_alloc _ ?_ | refine bel_drewN _ ?_ | refine bel_trans (by assumption) ?_ | refine bel_set _ _ (by simp) ?_))⟩

set_option linter.unusedVariables false in
set_option maxHeartbeats 2000000 in
theorem clx_3_f {a b c d x y W H X Y : Nat} (w : World) (hp : properB a b c d = true) (hs : [x, y].all smallB = true) (h : CF a b c d x y W H X Y) (hg : CG a b x y W H) (NX : NearT X X) (NY : NearT Y Y) :
    Calls Try.prog 15 #[.float .f64 x, .float .f64 y, .agg #[.float .f64 a, .float .f64 b, .float .f64 c, .float .f64 d], .int .i64 3, .bool false] w fun e w' => e = .returned (.bool true) ∧ Below w.heap.size w w' := by
  have HP := Lib.hid hp
  have HS := Lib.hid hs
  have HC := Lib.hid (fun W => coord_3_f W h)
  have HX := Lib.hid NX
  have HY := Lib.hid NY
  obtain ⟨e1, e2, e3, e4, x0, y0, X0, Y0, X1, Y1⟩ := h
  obtain ⟨l1, l2, l3, l4, l5, l6⟩ := hg
  have o1 := run_bin (P := Try.prog) .sub e1
  have o2 := run_bin (P := Try.prog) .sub e2
  have o3 := run_bin (P := Try.prog) .sub e3
  have o4 := run_bin (P := Try.prog) .sub e4
  clear e1 e2 e3 e4 hp hs NX NY x0 y0 X0 Y0 X1 Y1
  go_enter Try.func15, Try.ntmps15
  go_wp2_with (first
    | (go_at_call 28; refine (proper_any a b c d true _ HP.out).mono ?_; rintro e w' ⟨rfl, rfl⟩)
    | (go_at_call 22; refine (small_at [x, y] true _ _ (by simp) HS.out (by simp)).mono ?_; rintro e w' ⟨rfl, rfl⟩))
  go_region_held3 (fun w' => (Below w.heap.size w w' ∧ w.heap.size < w'.heap.size ∧ w'.cell? ⟨w.heap.size, 0, none⟩ = some (.float .f64 a) ∧ w'.cell? ⟨w.heap.size, 1, none⟩ = some (.float .f64 b) ∧ w'.cell? ⟨w.heap.size, 2, none⟩ = some (.float .f64 c) ∧ w'.cell? ⟨w.heap.size, 3, none⟩ = some (.float .f64 d)) ∧ (w.heap.size + 1 + 1 + 1 + 1 < w'.heap.size ∧ w'.cell? ⟨w.heap.size + 1 + 1 + 1 + 1, 0, none⟩ = some (.float .f64 X) ∧ w'.cell? ⟨w.heap.size + 1 + 1 + 1 + 1, 1, none⟩ = some (.float .f64 Y))) (first | assumption | exact keep42 (by assumption) (by assumption) | ((repeat (first | refine kept42_base _ (by simp) ?_ | refine kept42_drew ?_ | refine kept42_alloc _ ?_)); (repeat (first | exact kept_base _ _ _ _ _ _ | refine kept_drew ?_ | refine kept_alloc _ ?_ | refine keep4 ?_ (by assumption)))))
    (first
      | (go_at_call 46; refine (HC.out _).mono ?_; rintro e w' ⟨rfl, hb⟩)
      | (go_at_call 26; refine (nearpair_b _ _ _ _ _ HX.out HY.out).mono ?_; rintro e w' ⟨rfl, hb⟩))
  rename_i hh
  go_wp2
  go_ret
  exact ⟨rfl, hh.1.1⟩

theorem coord_3_t {a b c d x y W H X Y U V : Nat} (w : World) (h : CF a b c d x y W H X Y) (g1 : floatBits .add .f64 X a = some U) (g2 : floatBits .add .f64 Y b = some V) :
    Calls Try.prog 46 #[.float .f64 x, .float .f64 y, .agg #[.float .f64 a, .float .f64 b, .float .f64 c, .float .f64 d], .int .i64 3, .bool true] w fun e w' => e = .returned (.agg #[.float .f64 U, .float .f64 V]) ∧ Below w.heap.size w w' := by
  obtain ⟨e1, e2, e3, e4, x0, y0, X0, Y0, X1, Y1⟩ := h
  have o1 := run_bin (P := Try.prog) .sub e1
  have o2 := run_bin (P := Try.prog) .sub e2
  have o3 := run_bin (P := Try.prog) .sub e3
  have o4 := run_bin (P := Try.prog) .sub e4
  have o5 := run_bin (P := Try.prog) .add g1
  have o6 := run_bin (P := Try.prog) .add g2
  clear e1 e2 e3 e4 g1 g2
  go_enter Try.func46, Try.ntmps46
  go_wp2_with (first
    | (go_at_call 67; refine (rect_exact a b c d _).mono ?_; rintro e w' ⟨rfl, rfl⟩)
    | (go_at_call 80; go_in)
    | (go_at_call 99; go_in)
    | (go_at_call 100; go_in))
  exact bodyPost_ret (v := .agg #[.float .f64 U, .float .f64 V]) (by simp [results, Try.results46, go_sem]) rfl ⟨rfl, (by repeat (first | exact Below.refl _ _ | refine bel_drew ?_ | refine bel_alloc _ ?_ | refine bel_drewN _ ?_ | refine bel_trans (by assumption) ?_ | refine bel_set _ _ (by simp) ?_))⟩

set_option linter.unusedVariables false in
set_option maxHeartbeats 2000000 in
theorem clx_3_t {a b c d x y W H X Y U V : Nat} (w : World) (hp : properB a b c d = true) (hs : [x, y].all smallB = true) (h : CF a b c d x y W H X Y) (hg : CG a b x y W H) (g1 : floatBits .add .f64 X a = some U) (g2 : floatBits .add .f64 Y b = some V) (NX : NearT U U) (NY : NearT V V) :
    Calls Try.prog 15 #[.float .f64 x, .float .f64 y, .agg #[.float .f64 a, .float .f64 b, .float .f64 c, .float .f64 d], .int .i64 3, .bool true] w fun e w' => e = .returned (.bool true) ∧ Below w.heap.size w w' := by
  have HP := Lib.hid hp
  have HS := Lib.hid hs
  have HC := Lib.hid (fun W => coord_3_t W h g1 g2)
  have HX := Lib.hid NX
  have HY := Lib.hid NY
  obtain ⟨e1, e2, e3, e4, x0, y0, X0, Y0, X1, Y1⟩ := h
  obtain ⟨l1, l2, l3, l4, l5, l6⟩ := hg
  have o1 := run_bin (P := Try.prog) .sub e1
  have o2 := run_bin (P := Try.prog) .sub e2
  have o3 := run_bin (P := Try.prog) .sub e3
  have o4 := run_bin (P := Try.prog) .sub e4
  have o5 := run_bin (P := Try.prog) .add g1
  have o6 := run_bin (P := Try.prog) .add g2
  clear e1 e2 e3 e4 hp hs NX NY x0 y0 X0 Y0 X1 Y1 g1 g2
  go_enter Try.func15, Try.ntmps15
  go_wp2_with (first
    | (go_at_call 28; refine (proper_any a b c d true _ HP.out).mono ?_; rintro e w' ⟨rfl, rfl⟩)
    | (go_at_call 22; refine (small_at [x, y] true _ _ (by simp) HS.out (by simp)).mono ?_; rintro e w' ⟨rfl, rfl⟩))
  go_region
  go_wp2
  go_region_held3 (fun w' => (Below w.heap.size w w' ∧ w.heap.size < w'.heap.size ∧ w'.cell? ⟨w.heap.size, 0, none⟩ = some (.float .f64 a) ∧ w'.cell? ⟨w.heap.size, 1, none⟩ = some (.float .f64 b) ∧ w'.cell? ⟨w.heap.size, 2, none⟩ = some (.float .f64 c) ∧ w'.cell? ⟨w.heap.size, 3, none⟩ = some (.float .f64 d)) ∧ (w.heap.size + 1 + 1 + 1 + 1 < w'.heap.size ∧ w'.cell? ⟨w.heap.size + 1 + 1 + 1 + 1, 0, none⟩ = some (.float .f64 U) ∧ w'.cell? ⟨w.heap.size + 1 + 1 + 1 + 1, 1, none⟩ = some (.float .f64 V))) (first | assumption | exact keep42 (by assumption) (by assumption) | ((repeat (first | refine kept42_base _ (by simp) ?_ | refine kept42_drew ?_ | refine kept42_alloc _ ?_)); (repeat (first | exact kept_base _ _ _ _ _ _ | refine kept_drew ?_ | refine kept_alloc _ ?_ | refine keep4 ?_ (by assumption)))))
    (first
      | (go_at_call 46; refine (HC.out _).mono ?_; rintro e w' ⟨rfl, hb⟩)
      | (go_at_call 26; refine (nearpair_b _ _ _ _ _ HX.out HY.out).mono ?_; rintro e w' ⟨rfl, hb⟩))
  rename_i hh
  go_wp2
  go_ret
  exact ⟨rfl, hh.1.1⟩

end Go.Proofs.Ytooghncdhjdcpaa
