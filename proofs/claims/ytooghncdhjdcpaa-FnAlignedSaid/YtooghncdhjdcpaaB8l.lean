/-
The law FnAligned, walked: it answers true. No condition.
-/
import Derived.Test.YtooghncdhjdcpaaB8
import Derived.Test.YtooghncdhjdcpaaFx
namespace Go.Proofs.Ytooghncdhjdcpaa
open Go.RowKit Fl

theorem R_m1 : R 13830554455654793216 (-1) := R_lit (s := true) (m := 4503599627370496) (e := -52) (by decide +kernel) (by decide +kernel)

set_option linter.unusedVariables false in
set_option maxHeartbeats 1000000 in
theorem aligned_law_0 {a b c d x y : Nat} (w : World) (hp : properB a b c d = true) (e1 : floatBits .sub .f64 c a = some x) (e2 : floatBits .sub .f64 d b = some y) (N0 : NearT 0 0) (NM : NearT 13830554455654793216 13830554455654793216) (NX : NearT x x) (NY : NearT y y) :
    Calls Try.prog 11 #[.int .i64 0, .agg #[.float .f64 a, .float .f64 b, .float .f64 c, .float .f64 d]] w fun e w' => e = .returned (.bool true) ∧ Below w.heap.size w w' := by
  have HP := Lib.hid hp
  have HA := Lib.hid (fun W => aligned_0 W e1 e2)
  have o1 := run_bin (P := Try.prog) .sub e1
  have o2 := run_bin (P := Try.prog) .sub e2
  have H1 := Lib.hid N0
  have H2 := Lib.hid NY
  clear hp e1 e2 N0 NM NX NY
  go_enter Try.func11, Try.ntmps11
  go_wp2_with (first
    | (go_at_call 28; refine (proper_any a b c d true _ HP.out).mono ?_; rintro e w' ⟨rfl, rfl⟩)
    | (go_at_call 41; refine (HA.out _).mono ?_; rintro e w' ⟨rfl, hb⟩; obtain ⟨hq, hf⟩ := bcell hb; have hz := hb.size)
    | (go_at_call 24; (with_reducible refine (H1.out _).mono ?_); rintro e w' ⟨rfl, rfl⟩)
    | (go_at_call 24; (with_reducible refine (H2.out _).mono ?_); rintro e w' ⟨rfl, rfl⟩))
  go_region
  go_wp2_with (first
    | (go_at_call 24; (with_reducible refine (H1.out _).mono ?_); rintro e w' ⟨rfl, rfl⟩)
    | (go_at_call 24; (with_reducible refine (H2.out _).mono ?_); rintro e w' ⟨rfl, rfl⟩))
  go_ret
  exact ⟨rfl, (by repeat (first | exact Below.refl _ _ | refine bel_drew ?_ | refine bel_alloc _ ?_ | refine bel_drewN _ ?_ | refine bel_trans (by assumption) ?_ | refine bel_set _ _ (by simp) ?_))⟩

set_option linter.unusedVariables false in
set_option maxHeartbeats 1000000 in
theorem aligned_law_1 {a b c d x y : Nat} (w : World) (hp : properB a b c d = true) (e1 : floatBits .sub .f64 c a = some x) (e2 : floatBits .sub .f64 d b = some y) (N0 : NearT 0 0) (NM : NearT 13830554455654793216 13830554455654793216) (NX : NearT x x) (NY : NearT y y) :
    Calls Try.prog 11 #[.int .i64 1, .agg #[.float .f64 a, .float .f64 b, .float .f64 c, .float .f64 d]] w fun e w' => e = .returned (.bool true) ∧ Below w.heap.size w w' := by
  have HP := Lib.hid hp
  have HA := Lib.hid (fun W => aligned_1 W e1 e2)
  have o1 := run_bin (P := Try.prog) .sub e1
  have o2 := run_bin (P := Try.prog) .sub e2
  have H1 := Lib.hid NM
  have H2 := Lib.hid NY
  clear hp e1 e2 N0 NM NX NY
  go_enter Try.func11, Try.ntmps11
  go_wp2_with (first
    | (go_at_call 28; refine (proper_any a b c d true _ HP.out).mono ?_; rintro e w' ⟨rfl, rfl⟩)
    | (go_at_call 41; refine (HA.out _).mono ?_; rintro e w' ⟨rfl, hb⟩; obtain ⟨hq, hf⟩ := bcell hb; have hz := hb.size)
    | (go_at_call 24; (with_reducible refine (H1.out _).mono ?_); rintro e w' ⟨rfl, rfl⟩)
    | (go_at_call 24; (with_reducible refine (H2.out _).mono ?_); rintro e w' ⟨rfl, rfl⟩))
  go_region
  go_wp2_with (first
    | (go_at_call 24; (with_reducible refine (H1.out _).mono ?_); rintro e w' ⟨rfl, rfl⟩)
    | (go_at_call 24; (with_reducible refine (H2.out _).mono ?_); rintro e w' ⟨rfl, rfl⟩))
  go_ret
  exact ⟨rfl, (by repeat (first | exact Below.refl _ _ | refine bel_drew ?_ | refine bel_alloc _ ?_ | refine bel_drewN _ ?_ | refine bel_trans (by assumption) ?_ | refine bel_set _ _ (by simp) ?_))⟩

set_option linter.unusedVariables false in
set_option maxHeartbeats 1000000 in
theorem aligned_law_2 {a b c d x y : Nat} (w : World) (hp : properB a b c d = true) (e1 : floatBits .sub .f64 c a = some x) (e2 : floatBits .sub .f64 d b = some y) (N0 : NearT 0 0) (NM : NearT 13830554455654793216 13830554455654793216) (NX : NearT x x) (NY : NearT y y) :
    Calls Try.prog 11 #[.int .i64 2, .agg #[.float .f64 a, .float .f64 b, .float .f64 c, .float .f64 d]] w fun e w' => e = .returned (.bool true) ∧ Below w.heap.size w w' := by
  have HP := Lib.hid hp
  have HA := Lib.hid (fun W => aligned_2 W e1 e2)
  have o1 := run_bin (P := Try.prog) .sub e1
  have o2 := run_bin (P := Try.prog) .sub e2
  have H1 := Lib.hid NX
  have H2 := Lib.hid NY
  clear hp e1 e2 N0 NM NX NY
  go_enter Try.func11, Try.ntmps11
  go_wp2_with (first
    | (go_at_call 28; refine (proper_any a b c d true _ HP.out).mono ?_; rintro e w' ⟨rfl, rfl⟩)
    | (go_at_call 41; refine (HA.out _).mono ?_; rintro e w' ⟨rfl, hb⟩; obtain ⟨hq, hf⟩ := bcell hb; have hz := hb.size)
    | (go_at_call 24; (with_reducible refine (H1.out _).mono ?_); rintro e w' ⟨rfl, rfl⟩)
    | (go_at_call 24; (with_reducible refine (H2.out _).mono ?_); rintro e w' ⟨rfl, rfl⟩))
  go_region
  go_wp2_with (first
    | (go_at_call 24; (with_reducible refine (H1.out _).mono ?_); rintro e w' ⟨rfl, rfl⟩)
    | (go_at_call 24; (with_reducible refine (H2.out _).mono ?_); rintro e w' ⟨rfl, rfl⟩))
  go_ret
  exact ⟨rfl, (by repeat (first | exact Below.refl _ _ | refine bel_drew ?_ | refine bel_alloc _ ?_ | refine bel_drewN _ ?_ | refine bel_trans (by assumption) ?_ | refine bel_set _ _ (by simp) ?_))⟩

set_option linter.unusedVariables false in
set_option maxHeartbeats 1000000 in
theorem aligned_law_3 {a b c d x y : Nat} (w : World) (hp : properB a b c d = true) (e1 : floatBits .sub .f64 c a = some x) (e2 : floatBits .sub .f64 d b = some y) (N0 : NearT 0 0) (NM : NearT 13830554455654793216 13830554455654793216) (NX : NearT x x) (NY : NearT y y) :
    Calls Try.prog 11 #[.int .i64 3, .agg #[.float .f64 a, .float .f64 b, .float .f64 c, .float .f64 d]] w fun e w' => e = .returned (.bool true) ∧ Below w.heap.size w w' := by
  have HP := Lib.hid hp
  have HA := Lib.hid (fun W => aligned_3 W e1 e2)
  have o1 := run_bin (P := Try.prog) .sub e1
  have o2 := run_bin (P := Try.prog) .sub e2
  have H1 := Lib.hid N0
  have H2 := Lib.hid NM
  clear hp e1 e2 N0 NM NX NY
  go_enter Try.func11, Try.ntmps11
  go_wp2_with (first
    | (go_at_call 28; refine (proper_any a b c d true _ HP.out).mono ?_; rintro e w' ⟨rfl, rfl⟩)
    | (go_at_call 41; refine (HA.out _).mono ?_; rintro e w' ⟨rfl, hb⟩; obtain ⟨hq, hf⟩ := bcell hb; have hz := hb.size)
    | (go_at_call 24; (with_reducible refine (H1.out _).mono ?_); rintro e w' ⟨rfl, rfl⟩)
    | (go_at_call 24; (with_reducible refine (H2.out _).mono ?_); rintro e w' ⟨rfl, rfl⟩))
  go_region
  go_wp2_with (first
    | (go_at_call 24; (with_reducible refine (H1.out _).mono ?_); rintro e w' ⟨rfl, rfl⟩)
    | (go_at_call 24; (with_reducible refine (H2.out _).mono ?_); rintro e w' ⟨rfl, rfl⟩))
  go_ret
  exact ⟨rfl, (by repeat (first | exact Below.refl _ _ | refine bel_drew ?_ | refine bel_alloc _ ?_ | refine bel_drewN _ ?_ | refine bel_trans (by assumption) ?_ | refine bel_set _ _ (by simp) ?_))⟩

set_option linter.unusedVariables false in
set_option maxHeartbeats 1000000 in
theorem aligned_law_4 {a b c d x y : Nat} (w : World) (hp : properB a b c d = true) (e1 : floatBits .sub .f64 c a = some x) (e2 : floatBits .sub .f64 d b = some y) (N0 : NearT 0 0) (NM : NearT 13830554455654793216 13830554455654793216) (NX : NearT x x) (NY : NearT y y) :
    Calls Try.prog 11 #[.int .i64 4, .agg #[.float .f64 a, .float .f64 b, .float .f64 c, .float .f64 d]] w fun e w' => e = .returned (.bool true) ∧ Below w.heap.size w w' := by
  have HP := Lib.hid hp
  have HA := Lib.hid (fun W => aligned_4 W e1 e2)
  have o1 := run_bin (P := Try.prog) .sub e1
  have o2 := run_bin (P := Try.prog) .sub e2
  have H1 := Lib.hid NM
  have H2 := Lib.hid NM
  clear hp e1 e2 N0 NM NX NY
  go_enter Try.func11, Try.ntmps11
  go_wp2_with (first
    | (go_at_call 28; refine (proper_any a b c d true _ HP.out).mono ?_; rintro e w' ⟨rfl, rfl⟩)
    | (go_at_call 41; refine (HA.out _).mono ?_; rintro e w' ⟨rfl, hb⟩; obtain ⟨hq, hf⟩ := bcell hb; have hz := hb.size)
    | (go_at_call 24; (with_reducible refine (H1.out _).mono ?_); rintro e w' ⟨rfl, rfl⟩)
    | (go_at_call 24; (with_reducible refine (H2.out _).mono ?_); rintro e w' ⟨rfl, rfl⟩))
  go_region
  go_wp2_with (first
    | (go_at_call 24; (with_reducible refine (H1.out _).mono ?_); rintro e w' ⟨rfl, rfl⟩)
    | (go_at_call 24; (with_reducible refine (H2.out _).mono ?_); rintro e w' ⟨rfl, rfl⟩))
  go_ret
  exact ⟨rfl, (by repeat (first | exact Below.refl _ _ | refine bel_drew ?_ | refine bel_alloc _ ?_ | refine bel_drewN _ ?_ | refine bel_trans (by assumption) ?_ | refine bel_set _ _ (by simp) ?_))⟩

set_option linter.unusedVariables false in
set_option maxHeartbeats 1000000 in
theorem aligned_law_5 {a b c d x y : Nat} (w : World) (hp : properB a b c d = true) (e1 : floatBits .sub .f64 c a = some x) (e2 : floatBits .sub .f64 d b = some y) (N0 : NearT 0 0) (NM : NearT 13830554455654793216 13830554455654793216) (NX : NearT x x) (NY : NearT y y) :
    Calls Try.prog 11 #[.int .i64 5, .agg #[.float .f64 a, .float .f64 b, .float .f64 c, .float .f64 d]] w fun e w' => e = .returned (.bool true) ∧ Below w.heap.size w w' := by
  have HP := Lib.hid hp
  have HA := Lib.hid (fun W => aligned_5 W e1 e2)
  have o1 := run_bin (P := Try.prog) .sub e1
  have o2 := run_bin (P := Try.prog) .sub e2
  have H1 := Lib.hid NX
  have H2 := Lib.hid NM
  clear hp e1 e2 N0 NM NX NY
  go_enter Try.func11, Try.ntmps11
  go_wp2_with (first
    | (go_at_call 28; refine (proper_any a b c d true _ HP.out).mono ?_; rintro e w' ⟨rfl, rfl⟩)
    | (go_at_call 41; refine (HA.out _).mono ?_; rintro e w' ⟨rfl, hb⟩; obtain ⟨hq, hf⟩ := bcell hb; have hz := hb.size)
    | (go_at_call 24; (with_reducible refine (H1.out _).mono ?_); rintro e w' ⟨rfl, rfl⟩)
    | (go_at_call 24; (with_reducible refine (H2.out _).mono ?_); rintro e w' ⟨rfl, rfl⟩))
  go_region
  go_wp2_with (first
    | (go_at_call 24; (with_reducible refine (H1.out _).mono ?_); rintro e w' ⟨rfl, rfl⟩)
    | (go_at_call 24; (with_reducible refine (H2.out _).mono ?_); rintro e w' ⟨rfl, rfl⟩))
  go_ret
  exact ⟨rfl, (by repeat (first | exact Below.refl _ _ | refine bel_drew ?_ | refine bel_alloc _ ?_ | refine bel_drewN _ ?_ | refine bel_trans (by assumption) ?_ | refine bel_set _ _ (by simp) ?_))⟩

set_option linter.unusedVariables false in
set_option maxHeartbeats 1000000 in
theorem aligned_law_6 {a b c d x y : Nat} (w : World) (hp : properB a b c d = true) (e1 : floatBits .sub .f64 c a = some x) (e2 : floatBits .sub .f64 d b = some y) (N0 : NearT 0 0) (NM : NearT 13830554455654793216 13830554455654793216) (NX : NearT x x) (NY : NearT y y) :
    Calls Try.prog 11 #[.int .i64 6, .agg #[.float .f64 a, .float .f64 b, .float .f64 c, .float .f64 d]] w fun e w' => e = .returned (.bool true) ∧ Below w.heap.size w w' := by
  have HP := Lib.hid hp
  have HA := Lib.hid (fun W => aligned_6 W e1 e2)
  have o1 := run_bin (P := Try.prog) .sub e1
  have o2 := run_bin (P := Try.prog) .sub e2
  have H1 := Lib.hid N0
  have H2 := Lib.hid N0
  clear hp e1 e2 N0 NM NX NY
  go_enter Try.func11, Try.ntmps11
  go_wp2_with (first
    | (go_at_call 28; refine (proper_any a b c d true _ HP.out).mono ?_; rintro e w' ⟨rfl, rfl⟩)
    | (go_at_call 41; refine (HA.out _).mono ?_; rintro e w' ⟨rfl, hb⟩; obtain ⟨hq, hf⟩ := bcell hb; have hz := hb.size)
    | (go_at_call 24; (with_reducible refine (H1.out _).mono ?_); rintro e w' ⟨rfl, rfl⟩)
    | (go_at_call 24; (with_reducible refine (H2.out _).mono ?_); rintro e w' ⟨rfl, rfl⟩))
  go_region
  go_wp2_with (first
    | (go_at_call 24; (with_reducible refine (H1.out _).mono ?_); rintro e w' ⟨rfl, rfl⟩)
    | (go_at_call 24; (with_reducible refine (H2.out _).mono ?_); rintro e w' ⟨rfl, rfl⟩))
  go_ret
  exact ⟨rfl, (by repeat (first | exact Below.refl _ _ | refine bel_drew ?_ | refine bel_alloc _ ?_ | refine bel_drewN _ ?_ | refine bel_trans (by assumption) ?_ | refine bel_set _ _ (by simp) ?_))⟩

set_option linter.unusedVariables false in
set_option maxHeartbeats 1000000 in
theorem aligned_law_7 {a b c d x y : Nat} (w : World) (hp : properB a b c d = true) (e1 : floatBits .sub .f64 c a = some x) (e2 : floatBits .sub .f64 d b = some y) (N0 : NearT 0 0) (NM : NearT 13830554455654793216 13830554455654793216) (NX : NearT x x) (NY : NearT y y) :
    Calls Try.prog 11 #[.int .i64 7, .agg #[.float .f64 a, .float .f64 b, .float .f64 c, .float .f64 d]] w fun e w' => e = .returned (.bool true) ∧ Below w.heap.size w w' := by
  have HP := Lib.hid hp
  have HA := Lib.hid (fun W => aligned_7 W e1 e2)
  have o1 := run_bin (P := Try.prog) .sub e1
  have o2 := run_bin (P := Try.prog) .sub e2
  have H1 := Lib.hid NM
  have H2 := Lib.hid N0
  clear hp e1 e2 N0 NM NX NY
  go_enter Try.func11, Try.ntmps11
  go_wp2_with (first
    | (go_at_call 28; refine (proper_any a b c d true _ HP.out).mono ?_; rintro e w' ⟨rfl, rfl⟩)
    | (go_at_call 41; refine (HA.out _).mono ?_; rintro e w' ⟨rfl, hb⟩; obtain ⟨hq, hf⟩ := bcell hb; have hz := hb.size)
    | (go_at_call 24; (with_reducible refine (H1.out _).mono ?_); rintro e w' ⟨rfl, rfl⟩)
    | (go_at_call 24; (with_reducible refine (H2.out _).mono ?_); rintro e w' ⟨rfl, rfl⟩))
  go_region
  go_wp2_with (first
    | (go_at_call 24; (with_reducible refine (H1.out _).mono ?_); rintro e w' ⟨rfl, rfl⟩)
    | (go_at_call 24; (with_reducible refine (H2.out _).mono ?_); rintro e w' ⟨rfl, rfl⟩))
  go_ret
  exact ⟨rfl, (by repeat (first | exact Below.refl _ _ | refine bel_drew ?_ | refine bel_alloc _ ?_ | refine bel_drewN _ ?_ | refine bel_trans (by assumption) ?_ | refine bel_set _ _ (by simp) ?_))⟩

set_option linter.unusedVariables false in
set_option maxHeartbeats 1000000 in
theorem aligned_law_8 {a b c d x y : Nat} (w : World) (hp : properB a b c d = true) (e1 : floatBits .sub .f64 c a = some x) (e2 : floatBits .sub .f64 d b = some y) (N0 : NearT 0 0) (NM : NearT 13830554455654793216 13830554455654793216) (NX : NearT x x) (NY : NearT y y) :
    Calls Try.prog 11 #[.int .i64 8, .agg #[.float .f64 a, .float .f64 b, .float .f64 c, .float .f64 d]] w fun e w' => e = .returned (.bool true) ∧ Below w.heap.size w w' := by
  have HP := Lib.hid hp
  have HA := Lib.hid (fun W => aligned_8 W e1 e2)
  have o1 := run_bin (P := Try.prog) .sub e1
  have o2 := run_bin (P := Try.prog) .sub e2
  have H1 := Lib.hid NX
  have H2 := Lib.hid N0
  clear hp e1 e2 N0 NM NX NY
  go_enter Try.func11, Try.ntmps11
  go_wp2_with (first
    | (go_at_call 28; refine (proper_any a b c d true _ HP.out).mono ?_; rintro e w' ⟨rfl, rfl⟩)
    | (go_at_call 41; refine (HA.out _).mono ?_; rintro e w' ⟨rfl, hb⟩; obtain ⟨hq, hf⟩ := bcell hb; have hz := hb.size)
    | (go_at_call 24; (with_reducible refine (H1.out _).mono ?_); rintro e w' ⟨rfl, rfl⟩)
    | (go_at_call 24; (with_reducible refine (H2.out _).mono ?_); rintro e w' ⟨rfl, rfl⟩))
  go_region
  go_wp2_with (first
    | (go_at_call 24; (with_reducible refine (H1.out _).mono ?_); rintro e w' ⟨rfl, rfl⟩)
    | (go_at_call 24; (with_reducible refine (H2.out _).mono ?_); rintro e w' ⟨rfl, rfl⟩))
  go_ret
  exact ⟨rfl, (by repeat (first | exact Below.refl _ _ | refine bel_drew ?_ | refine bel_alloc _ ?_ | refine bel_drewN _ ?_ | refine bel_trans (by assumption) ?_ | refine bel_set _ _ (by simp) ?_))⟩

set_option maxHeartbeats 1000000 in
theorem aligned_walk (k : Int) (a b c d : Nat) (w : World) (_wk : (Lit.int .i64 k).wf = true) :
    Calls Try.prog 11 #[.int .i64 k, .agg #[.float .f64 a, .float .f64 b, .float .f64 c, .float .f64 d]] w fun e w' => e = .returned (.bool true) ∧ Below w.heap.size w w' := by
  by_cases h0 : k < 0
  · go_enter Try.func11, Try.ntmps11
    go_wp2
    go_ret
    exact ⟨rfl, (by repeat (first | exact Below.refl _ _ | refine bel_drew ?_ | refine bel_alloc _ ?_ | refine bel_drewN _ ?_ | refine bel_trans (by assumption) ?_ | refine bel_set _ _ (by simp) ?_))⟩
  by_cases h8 : 8 < k
  · go_enter Try.func11, Try.ntmps11
    go_wp2
    go_ret
    exact ⟨rfl, (by repeat (first | exact Below.refl _ _ | refine bel_drew ?_ | refine bel_alloc _ ?_ | refine bel_drewN _ ?_ | refine bel_trans (by assumption) ?_ | refine bel_set _ _ (by simp) ?_))⟩
  cases hp : properB a b c d
  · have HP := Lib.hid hp
    clear hp
    go_enter Try.func11, Try.ntmps11
    go_wp2_with (go_at_call 28; refine (proper_any a b c d false _ HP.out).mono ?_; rintro e w' ⟨rfl, rfl⟩)
    go_ret
    exact ⟨rfl, (by repeat (first | exact Below.refl _ _ | refine bel_drew ?_ | refine bel_alloc _ ?_ | refine bel_drewN _ ?_ | refine bel_trans (by assumption) ?_ | refine bel_set _ _ (by simp) ?_))⟩
  obtain ⟨k', l, i, j, ha, hb, hc, hd, ⟨k1, k2⟩, ⟨l1, l2⟩, ⟨i1, i2⟩, ⟨j1, j2⟩, hki, hlj⟩ := properB_true hp
  obtain ⟨x, e1, r1⟩ := sub64 hc ha (by omega)
  obtain ⟨y, e2, r2⟩ := sub64 hd hb (by omega)
  have N0 : NearT 0 0 := NearT.same Ap.zero (by decide +kernel)
  have NM : NearT 13830554455654793216 13830554455654793216 := NearT.same (Ap.of (M := 1) R_m1 ⟨by decide +kernel, by decide +kernel⟩) (by decide +kernel)
  have NX : NearT x x := NearT.same (ap64 r1 10000000 (by omega) (by omega)) (by decide +kernel)
  have NY : NearT y y := NearT.same (ap64 r2 10000000 (by omega) (by omega)) (by decide +kernel)
  obtain rfl | rfl | rfl | rfl | rfl | rfl | rfl | rfl | rfl : k = 0 ∨ k = 1 ∨ k = 2 ∨ k = 3 ∨ k = 4 ∨ k = 5 ∨ k = 6 ∨ k = 7 ∨ k = 8 := by omega
  · exact aligned_law_0 w hp e1 e2 N0 NM NX NY
  · exact aligned_law_1 w hp e1 e2 N0 NM NX NY
  · exact aligned_law_2 w hp e1 e2 N0 NM NX NY
  · exact aligned_law_3 w hp e1 e2 N0 NM NX NY
  · exact aligned_law_4 w hp e1 e2 N0 NM NX NY
  · exact aligned_law_5 w hp e1 e2 N0 NM NX NY
  · exact aligned_law_6 w hp e1 e2 N0 NM NX NY
  · exact aligned_law_7 w hp e1 e2 N0 NM NX NY
  · exact aligned_law_8 w hp e1 e2 N0 NM NX NY

end Go.Proofs.Ytooghncdhjdcpaa
