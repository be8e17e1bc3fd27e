/-
The law FnAligned, walked: it answers true. No condition.
-/
import Derived.Test.YtooghncdhjdcpaaA5
namespace Go.Proofs.Ytooghncdhjdcpaa
open Go.RowKit Fl

theorem kept4_arg {w : World} {g a b c d : Nat} (h : RectAt w g a b c d) : Kept4 w g (.float .f64 a) (.float .f64 b) (.float .f64 c) (.float .f64 d) w.drew := keep4 ⟨Below.refl _ _, h⟩ (Below.refl _ _).drew

theorem align_0 {g a b c d x y : Nat} (w : World) (h : RectAt w g a b c d) (_h1 : floatBits .sub .f64 c a = some x) (_h2 : floatBits .sub .f64 d b = some y) :
    Calls Try.prog 75 #[.int .i64 0, .pointer (some ⟨g, 0, none⟩)] w fun e w' => e = .returned (.tuple #[.float .f64 0, .float .f64 y, .int .i64 0, .int .i64 1]) ∧ Below w.heap.size w w' := by
  have o1 := run_bin (P := Try.prog) .sub _h1
  have o2 := run_bin (P := Try.prog) .sub _h2
  obtain ⟨g0, g1, g2, g3, g4⟩ := h
  clear _h1 _h2
  go_enter Try.func75, Try.ntmps75
  go_wp2_with (first | (go_at_call 99; go_in) | (go_at_call 100; go_in))
  exact bodyPost_ret (v := .tuple #[.float .f64 0, .float .f64 y, .int .i64 0, .int .i64 1]) (by simp [results, Try.results75, go_sem]) rfl ⟨rfl, (by repeat (first | exact Below.refl _ _ | refine bel_drew ?_ | refine bel_alloc _ ?_ | refine bel_drewN _ ?_ | refine bel_trans (by assumption) ?_ | refine bel_set _ _ (by simp) ?_))⟩

theorem aligned_0 {a b c d x y : Nat} (w : World) (h1 : floatBits .sub .f64 c a = some x) (h2 : floatBits .sub .f64 d b = some y) :
    Calls Try.prog 41 #[.int .i64 0, .agg #[.float .f64 a, .float .f64 b, .float .f64 c, .float .f64 d]] w fun e w' => e = .returned (.tuple #[.float .f64 0, .float .f64 y, .int .i64 0, .int .i64 1]) ∧ Below w.heap.size w w' := by
  have H := Lib.hid (fun W g (h : RectAt W g a b c d) => align_0 W h h1 h2)
  clear h1 h2
  go_enter Try.func41, Try.ntmps41
  go_wp2_with (first
    | (go_at_call 67; refine (rect_exact a b c d _).mono ?_; rintro e w' ⟨rfl, rfl⟩)
    | (go_at_call 75; refine (H.out _ _ (rectAt_new _ _ _ _ _ _ _ (by simp))).mono ?_; rintro e w' ⟨rfl, hb⟩))
  exact bodyPost_ret (v := .tuple #[.float .f64 0, .float .f64 y, .int .i64 0, .int .i64 1]) (by simp [results, Try.results41, go_sem]) rfl ⟨rfl, (by repeat (first | exact Below.refl _ _ | refine bel_drew ?_ | refine bel_alloc _ ?_ | refine bel_drewN _ ?_ | refine bel_trans (by assumption) ?_ | refine bel_set _ _ (by simp) ?_))⟩

theorem align_1 {g a b c d x y : Nat} (w : World) (h : RectAt w g a b c d) (_h1 : floatBits .sub .f64 c a = some x) (_h2 : floatBits .sub .f64 d b = some y) :
    Calls Try.prog 75 #[.int .i64 1, .pointer (some ⟨g, 0, none⟩)] w fun e w' => e = .returned (.tuple #[.float .f64 13830554455654793216, .float .f64 y, .int .i64 1, .int .i64 1]) ∧ Below w.heap.size w w' := by
  have o1 := run_bin (P := Try.prog) .sub _h1
  have o2 := run_bin (P := Try.prog) .sub _h2
  obtain ⟨g0, g1, g2, g3, g4⟩ := h
  clear _h1 _h2
  go_enter Try.func75, Try.ntmps75
  go_wp2_with (first | (go_at_call 99; go_in) | (go_at_call 100; go_in))
  exact bodyPost_ret (v := .tuple #[.float .f64 13830554455654793216, .float .f64 y, .int .i64 1, .int .i64 1]) (by simp [results, Try.results75, go_sem]) rfl ⟨rfl, (by repeat (first | exact Below.refl _ _ | refine bel_drew ?_ | refine bel_alloc _ ?_ | refine bel_drewN _ ?_ | refine bel_trans (by assumption) ?_ | refine bel_set _ _ (by simp) ?_))⟩

theorem aligned_1 {a b c d x y : Nat} (w : World) (h1 : floatBits .sub .f64 c a = some x) (h2 : floatBits .sub .f64 d b = some y) :
    Calls Try.prog 41 #[.int .i64 1, .agg #[.float .f64 a, .float .f64 b, .float .f64 c, .float .f64 d]] w fun e w' => e = .returned (.tuple #[.float .f64 13830554455654793216, .float .f64 y, .int .i64 1, .int .i64 1]) ∧ Below w.heap.size w w' := by
  have H := Lib.hid (fun W g (h : RectAt W g a b c d) => align_1 W h h1 h2)
  clear h1 h2
  go_enter Try.func41, Try.ntmps41
  go_wp2_with (first
    | (go_at_call 67; refine (rect_exact a b c d _).mono ?_; rintro e w' ⟨rfl, rfl⟩)
    | (go_at_call 75; refine (H.out _ _ (rectAt_new _ _ _ _ _ _ _ (by simp))).mono ?_; rintro e w' ⟨rfl, hb⟩))
  exact bodyPost_ret (v := .tuple #[.float .f64 13830554455654793216, .float .f64 y, .int .i64 1, .int .i64 1]) (by simp [results, Try.results41, go_sem]) rfl ⟨rfl, (by repeat (first | exact Below.refl _ _ | refine bel_drew ?_ | refine bel_alloc _ ?_ | refine bel_drewN _ ?_ | refine bel_trans (by assumption) ?_ | refine bel_set _ _ (by simp) ?_))⟩

theorem align_2 {g a b c d x y : Nat} (w : World) (h : RectAt w g a b c d) (_h1 : floatBits .sub .f64 c a = some x) (_h2 : floatBits .sub .f64 d b = some y) :
    Calls Try.prog 75 #[.int .i64 2, .pointer (some ⟨g, 0, none⟩)] w fun e w' => e = .returned (.tuple #[.float .f64 x, .float .f64 y, .int .i64 2, .int .i64 1]) ∧ Below w.heap.size w w' := by
  have H1 := Lib.hid _h1
  have H2 := Lib.hid _h2
  clear _h1 _h2
  go_enter Try.func75, Try.ntmps75
  go_wp2_with fail
  go_region_held3 (fun w' => Below w.heap.size w w' ∧ g < w'.heap.size ∧ w'.cell? ⟨g, 0, none⟩ = some (.float .f64 a) ∧ w'.cell? ⟨g, 1, none⟩ = some (.float .f64 b) ∧ w'.cell? ⟨g, 2, none⟩ = some (.float .f64 c) ∧ w'.cell? ⟨g, 3, none⟩ = some (.float .f64 d))
    (first | assumption | exact kept4_arg h | exact keep4 (by assumption) (by assumption))
    (first
      | (go_at_call 99; refine (width_any _ H1.out).mono ?_; rintro e w' ⟨rfl, hb⟩)
      | (go_at_call 100; refine (height_any _ H2.out).mono ?_; rintro e w' ⟨rfl, hb⟩))
  rename_i hh
  go_wp2
  exact bodyPost_ret (v := .tuple #[.float .f64 x, .float .f64 y, .int .i64 2, .int .i64 1]) (by simp [results, Try.results75, go_sem]) rfl ⟨rfl, hh.1⟩

theorem aligned_2 {a b c d x y : Nat} (w : World) (h1 : floatBits .sub .f64 c a = some x) (h2 : floatBits .sub .f64 d b = some y) :
    Calls Try.prog 41 #[.int .i64 2, .agg #[.float .f64 a, .float .f64 b, .float .f64 c, .float .f64 d]] w fun e w' => e = .returned (.tuple #[.float .f64 x, .float .f64 y, .int .i64 2, .int .i64 1]) ∧ Below w.heap.size w w' := by
  have H := Lib.hid (fun W g (h : RectAt W g a b c d) => align_2 W h h1 h2)
  clear h1 h2
  go_enter Try.func41, Try.ntmps41
  go_wp2_with (first
    | (go_at_call 67; refine (rect_exact a b c d _).mono ?_; rintro e w' ⟨rfl, rfl⟩)
    | (go_at_call 75; refine (H.out _ _ (rectAt_new _ _ _ _ _ _ _ (by simp))).mono ?_; rintro e w' ⟨rfl, hb⟩))
  exact bodyPost_ret (v := .tuple #[.float .f64 x, .float .f64 y, .int .i64 2, .int .i64 1]) (by simp [results, Try.results41, go_sem]) rfl ⟨rfl, (by repeat (first | exact Below.refl _ _ | refine bel_drew ?_ | refine bel_alloc _ ?_ | refine bel_drewN _ ?_ | refine bel_trans (by assumption) ?_ | refine bel_set _ _ (by simp) ?_))⟩

theorem align_3 {g a b c d x y : Nat} (w : World) (h : RectAt w g a b c d) (_h1 : floatBits .sub .f64 c a = some x) (_h2 : floatBits .sub .f64 d b = some y) :
    Calls Try.prog 75 #[.int .i64 3, .pointer (some ⟨g, 0, none⟩)] w fun e w' => e = .returned (.tuple #[.float .f64 0, .float .f64 13830554455654793216, .int .i64 0, .int .i64 2]) ∧ Below w.heap.size w w' := by
  have o1 := run_bin (P := Try.prog) .sub _h1
  have o2 := run_bin (P := Try.prog) .sub _h2
  obtain ⟨g0, g1, g2, g3, g4⟩ := h
  clear _h1 _h2
  go_enter Try.func75, Try.ntmps75
  go_wp2_with (first | (go_at_call 99; go_in) | (go_at_call 100; go_in))
  exact bodyPost_ret (v := .tuple #[.float .f64 0, .float .f64 13830554455654793216, .int .i64 0, .int .i64 2]) (by simp [results, Try.results75, go_sem]) rfl ⟨rfl, (by repeat (first | exact Below.refl _ _ | refine bel_drew ?_ | refine bel_alloc _ ?_ | refine bel_drewN _ ?_ | refine bel_trans (by assumption) ?_ | refine bel_set _ _ (by simp) ?_))⟩

theorem aligned_3 {a b c d x y : Nat} (w : World) (h1 : floatBits .sub .f64 c a = some x) (h2 : floatBits .sub .f64 d b = some y) :
    Calls Try.prog 41 #[.int .i64 3, .agg #[.float .f64 a, .float .f64 b, .float .f64 c, .float .f64 d]] w fun e w' => e = .returned (.tuple #[.float .f64 0, .float .f64 13830554455654793216, .int .i64 0, .int .i64 2]) ∧ Below w.heap.size w w' := by
  have H := Lib.hid (fun W g (h : RectAt W g a b c d) => align_3 W h h1 h2)
  clear h1 h2
  go_enter Try.func41, Try.ntmps41
  go_wp2_with (first
    | (go_at_call 67; refine (rect_exact a b c d _).mono ?_; rintro e w' ⟨rfl, rfl⟩)
    | (go_at_call 75; refine (H.out _ _ (rectAt_new _ _ _ _ _ _ _ (by simp))).mono ?_; rintro e w' ⟨rfl, hb⟩))
  exact bodyPost_ret (v := .tuple #[.float .f64 0, .float .f64 13830554455654793216, .int .i64 0, .int .i64 2]) (by simp [results, Try.results41, go_sem]) rfl ⟨rfl, (by repeat (first | exact Below.refl _ _ | refine bel_drew ?_ | refine bel_alloc _ ?_ | refine bel_drewN _ ?_ | refine bel_trans (by assumption) ?_ | refine bel_set _ _ (by simp) ?_))⟩

theorem align_4 {g a b c d x y : Nat} (w : World) (h : RectAt w g a b c d) (_h1 : floatBits .sub .f64 c a = some x) (_h2 : floatBits .sub .f64 d b = some y) :
    Calls Try.prog 75 #[.int .i64 4, .pointer (some ⟨g, 0, none⟩)] w fun e w' => e = .returned (.tuple #[.float .f64 13830554455654793216, .float .f64 13830554455654793216, .int .i64 1, .int .i64 2]) ∧ Below w.heap.size w w' := by
  have o1 := run_bin (P := Try.prog) .sub _h1
  have o2 := run_bin (P := Try.prog) .sub _h2
  obtain ⟨g0, g1, g2, g3, g4⟩ := h
  clear _h1 _h2
  go_enter Try.func75, Try.ntmps75
  go_wp2_with (first | (go_at_call 99; go_in) | (go_at_call 100; go_in))
  exact bodyPost_ret (v := .tuple #[.float .f64 13830554455654793216, .float .f64 13830554455654793216, .int .i64 1, .int .i64 2]) (by simp [results, Try.results75, go_sem]) rfl ⟨rfl, (by repeat (first | exact Below.refl _ _ | refine bel_drew ?_ | refine bel_alloc _ ?_ | refine bel_drewN _ ?_ | refine bel_trans (by assumption) ?_ | refine bel_set _ _ (by simp) ?_))⟩

theorem aligned_4 {a b c d x y : Nat} (w : World) (h1 : floatBits .sub .f64 c a = some x) (h2 : floatBits .sub .f64 d b = some y) :
    Calls Try.prog 41 #[.int .i64 4, .agg #[.float .f64 a, .float .f64 b, .float .f64 c, .float .f64 d]] w fun e w' => e = .returned (.tuple #[.float .f64 13830554455654793216, .float .f64 13830554455654793216, .int .i64 1, .int .i64 2]) ∧ Below w.heap.size w w' := by
  have H := Lib.hid (fun W g (h : RectAt W g a b c d) => align_4 W h h1 h2)
  clear h1 h2
  go_enter Try.func41, Try.ntmps41
  go_wp2_with (first
    | (go_at_call 67; refine (rect_exact a b c d _).mono ?_; rintro e w' ⟨rfl, rfl⟩)
    | (go_at_call 75; refine (H.out _ _ (rectAt_new _ _ _ _ _ _ _ (by simp))).mono ?_; rintro e w' ⟨rfl, hb⟩))
  exact bodyPost_ret (v := .tuple #[.float .f64 13830554455654793216, .float .f64 13830554455654793216, .int .i64 1, .int .i64 2]) (by simp [results, Try.results41, go_sem]) rfl ⟨rfl, (by repeat (first | exact Below.refl _ _ | refine bel_drew ?_ | refine bel_alloc _ ?_ | refine bel_drewN _ ?_ | refine bel_trans (by assumption) ?_ | refine bel_set _ _ (by simp) ?_))⟩

theorem align_5 {g a b c d x y : Nat} (w : World) (h : RectAt w g a b c d) (_h1 : floatBits .sub .f64 c a = some x) (_h2 : floatBits .sub .f64 d b = some y) :
    Calls Try.prog 75 #[.int .i64 5, .pointer (some ⟨g, 0, none⟩)] w fun e w' => e = .returned (.tuple #[.float .f64 x, .float .f64 13830554455654793216, .int .i64 2, .int .i64 2]) ∧ Below w.heap.size w w' := by
  have o1 := run_bin (P := Try.prog) .sub _h1
  have o2 := run_bin (P := Try.prog) .sub _h2
  obtain ⟨g0, g1, g2, g3, g4⟩ := h
  clear _h1 _h2
  go_enter Try.func75, Try.ntmps75
  go_wp2_with (first | (go_at_call 99; go_in) | (go_at_call 100; go_in))
  exact bodyPost_ret (v := .tuple #[.float .f64 x, .float .f64 13830554455654793216, .int .i64 2, .int .i64 2]) (by simp [results, Try.results75, go_sem]) rfl ⟨rfl, (by repeat (first | exact Below.refl _ _ | refine bel_drew ?_ | refine bel_alloc _ ?_ | refine bel_drewN _ ?_ | refine bel_trans (by assumption) ?_ | refine bel_set _ _ (by simp) ?_))⟩

theorem aligned_5 {a b c d x y : Nat} (w : World) (h1 : floatBits .sub .f64 c a = some x) (h2 : floatBits .sub .f64 d b = some y) :
    Calls Try.prog 41 #[.int .i64 5, .agg #[.float .f64 a, .float .f64 b, .float .f64 c, .float .f64 d]] w fun e w' => e = .returned (.tuple #[.float .f64 x, .float .f64 13830554455654793216, .int .i64 2, .int .i64 2]) ∧ Below w.heap.size w w' := by
  have H := Lib.hid (fun W g (h : RectAt W g a b c d) => align_5 W h h1 h2)
  clear h1 h2
  go_enter Try.func41, Try.ntmps41
  go_wp2_with (first
    | (go_at_call 67; refine (rect_exact a b c d _).mono ?_; rintro e w' ⟨rfl, rfl⟩)
    | (go_at_call 75; refine (H.out _ _ (rectAt_new _ _ _ _ _ _ _ (by simp))).mono ?_; rintro e w' ⟨rfl, hb⟩))
  exact bodyPost_ret (v := .tuple #[.float .f64 x, .float .f64 13830554455654793216, .int .i64 2, .int .i64 2]) (by simp [results, Try.results41, go_sem]) rfl ⟨rfl, (by repeat (first | exact Below.refl _ _ | refine bel_drew ?_ | refine bel_alloc _ ?_ | refine bel_drewN _ ?_ | refine bel_trans (by assumption) ?_ | refine bel_set _ _ (by simp) ?_))⟩

theorem align_6 {g a b c d x y : Nat} (w : World) (h : RectAt w g a b c d) (_h1 : floatBits .sub .f64 c a = some x) (_h2 : floatBits .sub .f64 d b = some y) :
    Calls Try.prog 75 #[.int .i64 6, .pointer (some ⟨g, 0, none⟩)] w fun e w' => e = .returned (.tuple #[.float .f64 0, .float .f64 0, .int .i64 0, .int .i64 2]) ∧ Below w.heap.size w w' := by
  have o1 := run_bin (P := Try.prog) .sub _h1
  have o2 := run_bin (P := Try.prog) .sub _h2
  obtain ⟨g0, g1, g2, g3, g4⟩ := h
  clear _h1 _h2
  go_enter Try.func75, Try.ntmps75
  go_wp2_with (first | (go_at_call 99; go_in) | (go_at_call 100; go_in))
  exact bodyPost_ret (v := .tuple #[.float .f64 0, .float .f64 0, .int .i64 0, .int .i64 2]) (by simp [results, Try.results75, go_sem]) rfl ⟨rfl, (by repeat (first | exact Below.refl _ _ | refine bel_drew ?_ | refine bel_alloc _ ?_ | refine bel_drewN _ ?_ | refine bel_trans (by assumption) ?_ | refine bel_set _ _ (by simp) ?_))⟩

theorem aligned_6 {a b c d x y : Nat} (w : World) (h1 : floatBits .sub .f64 c a = some x) (h2 : floatBits .sub .f64 d b = some y) :
    Calls Try.prog 41 #[.int .i64 6, .agg #[.float .f64 a, .float .f64 b, .float .f64 c, .float .f64 d]] w fun e w' => e = .returned (.tuple #[.float .f64 0, .float .f64 0, .int .i64 0, .int .i64 2]) ∧ Below w.heap.size w w' := by
  have H := Lib.hid (fun W g (h : RectAt W g a b c d) => align_6 W h h1 h2)
  clear h1 h2
  go_enter Try.func41, Try.ntmps41
  go_wp2_with (first
    | (go_at_call 67; refine (rect_exact a b c d _).mono ?_; rintro e w' ⟨rfl, rfl⟩)
    | (go_at_call 75; refine (H.out _ _ (rectAt_new _ _ _ _ _ _ _ (by simp))).mono ?_; rintro e w' ⟨rfl, hb⟩))
  exact bodyPost_ret (v := .tuple #[.float .f64 0, .float .f64 0, .int .i64 0, .int .i64 2]) (by simp [results, Try.results41, go_sem]) rfl ⟨rfl, (by repeat (first | exact Below.refl _ _ | refine bel_drew ?_ | refine bel_alloc _ ?_ | refine bel_drewN _ ?_ | refine bel_trans (by assumption) ?_ | refine bel_set _ _ (by simp) ?_))⟩

theorem align_7 {g a b c d x y : Nat} (w : World) (h : RectAt w g a b c d) (_h1 : floatBits .sub .f64 c a = some x) (_h2 : floatBits .sub .f64 d b = some y) :
    Calls Try.prog 75 #[.int .i64 7, .pointer (some ⟨g, 0, none⟩)] w fun e w' => e = .returned (.tuple #[.float .f64 13830554455654793216, .float .f64 0, .int .i64 1, .int .i64 2]) ∧ Below w.heap.size w w' := by
  have o1 := run_bin (P := Try.prog) .sub _h1
  have o2 := run_bin (P := Try.prog) .sub _h2
  obtain ⟨g0, g1, g2, g3, g4⟩ := h
  clear _h1 _h2
  go_enter Try.func75, Try.ntmps75
  go_wp2_with (first | (go_at_call 99; go_in) | (go_at_call 100; go_in))
  exact bodyPost_ret (v := .tuple #[.float .f64 13830554455654793216, .float .f64 0, .int .i64 1, .int .i64 2]) (by simp [results, Try.results75, go_sem]) rfl ⟨rfl, (by repeat (first | exact Below.refl _ _ | refine bel_drew ?_ | refine bel_alloc _ ?_ | refine bel_drewN _ ?_ | refine bel_trans (by assumption) ?_ | refine bel_set _ _ (by simp) ?_))⟩

theorem aligned_7 {a b c d x y : Nat} (w : World) (h1 : floatBits .sub .f64 c a = some x) (h2 : floatBits .sub .f64 d b = some y) :
    Calls Try.prog 41 #[.int .i64 7, .agg #[.float .f64 a, .float .f64 b, .float .f64 c, .float .f64 d]] w fun e w' => e = .returned (.tuple #[.float .f64 13830554455654793216, .float .f64 0, .int .i64 1, .int .i64 2]) ∧ Below w.heap.size w w' := by
  have H := Lib.hid (fun W g (h : RectAt W g a b c d) => align_7 W h h1 h2)
  clear h1 h2
  go_enter Try.func41, Try.ntmps41
  go_wp2_with (first
    | (go_at_call 67; refine (rect_exact a b c d _).mono ?_; rintro e w' ⟨rfl, rfl⟩)
    | (go_at_call 75; refine (H.out _ _ (rectAt_new _ _ _ _ _ _ _ (by simp))).mono ?_; rintro e w' ⟨rfl, hb⟩))
  exact bodyPost_ret (v := .tuple #[.float .f64 13830554455654793216, .float .f64 0, .int .i64 1, .int .i64 2]) (by simp [results, Try.results41, go_sem]) rfl ⟨rfl, (by repeat (first | exact Below.refl _ _ | refine bel_drew ?_ | refine bel_alloc _ ?_ | refine bel_drewN _ ?_ | refine bel_trans (by assumption) ?_ | refine bel_set _ _ (by simp) ?_))⟩

theorem align_8 {g a b c d x y : Nat} (w : World) (h : RectAt w g a b c d) (_h1 : floatBits .sub .f64 c a = some x) (_h2 : floatBits .sub .f64 d b = some y) :
    Calls Try.prog 75 #[.int .i64 8, .pointer (some ⟨g, 0, none⟩)] w fun e w' => e = .returned (.tuple #[.float .f64 x, .float .f64 0, .int .i64 2, .int .i64 2]) ∧ Below w.heap.size w w' := by
  have o1 := run_bin (P := Try.prog) .sub _h1
  have o2 := run_bin (P := Try.prog) .sub _h2
  obtain ⟨g0, g1, g2, g3, g4⟩ := h
  clear _h1 _h2
  go_enter Try.func75, Try.ntmps75
  go_wp2_with (first | (go_at_call 99; go_in) | (go_at_call 100; go_in))
  exact bodyPost_ret (v := .tuple #[.float .f64 x, .float .f64 0, .int .i64 2, .int .i64 2]) (by simp [results, Try.results75, go_sem]) rfl ⟨rfl, (by repeat (first | exact Below.refl _ _ | refine bel_drew ?_ | refine bel_alloc _ ?_ | refine bel_drewN _ ?_ | refine bel_trans (by assumption) ?_ | refine bel_set _ _ (by simp) ?_))⟩

theorem aligned_8 {a b c d x y : Nat} (w : World) (h1 : floatBits .sub .f64 c a = some x) (h2 : floatBits .sub .f64 d b = some y) :
    Calls Try.prog 41 #[.int .i64 8, .agg #[.float .f64 a, .float .f64 b, .float .f64 c, .float .f64 d]] w fun e w' => e = .returned (.tuple #[.float .f64 x, .float .f64 0, .int .i64 2, .int .i64 2]) ∧ Below w.heap.size w w' := by
  have H := Lib.hid (fun W g (h : RectAt W g a b c d) => align_8 W h h1 h2)
  clear h1 h2
  go_enter Try.func41, Try.ntmps41
  go_wp2_with (first
    | (go_at_call 67; refine (rect_exact a b c d _).mono ?_; rintro e w' ⟨rfl, rfl⟩)
    | (go_at_call 75; refine (H.out _ _ (rectAt_new _ _ _ _ _ _ _ (by simp))).mono ?_; rintro e w' ⟨rfl, hb⟩))
  exact bodyPost_ret (v := .tuple #[.float .f64 x, .float .f64 0, .int .i64 2, .int .i64 2]) (by simp [results, Try.results41, go_sem]) rfl ⟨rfl, (by repeat (first | exact Below.refl _ _ | refine bel_drew ?_ | refine bel_alloc _ ?_ | refine bel_drewN _ ?_ | refine bel_trans (by assumption) ?_ | refine bel_set _ _ (by simp) ?_))⟩

end Go.Proofs.Ytooghncdhjdcpaa
