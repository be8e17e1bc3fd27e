/-
The law FnCropped, walked: it answers true. No condition.
-/
import Derived.Test.YtooghncdhjdcpaaA3
namespace Go.Proofs.Ytooghncdhjdcpaa
open Go.RowKit Fl

theorem cropped_any {a b c d m p q r s : Nat} (w : World) (h1 : floatBits .add .f64 a m = some p) (h2 : floatBits .add .f64 b m = some q) (h3 : floatBits .sub .f64 c m = some r) (h4 : floatBits .sub .f64 d m = some s) :
    Calls Try.prog 30 #[.agg #[.float .f64 a, .float .f64 b, .float .f64 c, .float .f64 d], .float .f64 m] w fun e w' => e = .returned (.agg #[.float .f64 p, .float .f64 q, .float .f64 r, .float .f64 s]) ∧ Below w.heap.size w w' := by
  have o1 := run_bin (P := Try.prog) .add h1
  have o2 := run_bin (P := Try.prog) .add h2
  have o3 := run_bin (P := Try.prog) .sub h3
  have o4 := run_bin (P := Try.prog) .sub h4
  clear h1 h2 h3 h4
  go_enter Try.func30, Try.ntmps30
  go_wp2_with (first | (go_at_call 66; refine (told_exact (a := p) (b := q) (c := r) (d := s) _ (rectAt_new _ _ _ _ _ _ _ (by simp))).mono ?_; rintro e w' ⟨rfl, rfl⟩) | (go_at_call 67; go_in) | (go_at_call 98; go_in) | (go_at_call 68; go_in))
  exact bodyPost_ret (v := .agg #[.float .f64 p, .float .f64 q, .float .f64 r, .float .f64 s]) (by simp [results, Try.results30, go_sem]) rfl ⟨rfl, (by repeat (first | exact Below.refl _ _ | refine bel_drew ?_ | refine bel_alloc _ ?_ | refine bel_trans (by assumption) ?_ | refine bel_set _ _ (by simp) ?_))⟩

set_option maxHeartbeats 800000 in
theorem cropped_walk (a b c d m : Nat) (w : World) :
    Calls Try.prog 6 #[.agg #[.float .f64 a, .float .f64 b, .float .f64 c, .float .f64 d], .float .f64 m] w fun e w' => e = .returned (.bool true) ∧ Below w.heap.size w w' := by
  cases hp : properB a b c d
  · have HP := Lib.hid hp
    clear hp
    go_enter Try.func6, Try.ntmps6
    go_wp2_with (go_at_call 28; refine (proper_any a b c d false _ HP.out).mono ?_; rintro e w' ⟨rfl, rfl⟩)
    go_ret
    exact ⟨rfl, (by repeat (first | exact Below.refl _ _ | refine bel_drew ?_ | refine bel_alloc _ ?_ | refine bel_trans (by assumption) ?_ | refine bel_set _ _ (by simp) ?_))⟩
  · have HP := Lib.hid hp
    obtain ⟨k, l, i, j, ha, hb, hc, hd, ⟨k1, k2⟩, ⟨l1, l2⟩, ⟨i1, i2⟩, ⟨j1, j2⟩, hki, hlj⟩ := properB_true hp
    clear hp
    cases hs : [m].all smallB
    · have HS := Lib.hid hs
      clear hs ha hb hc hd k1 k2 l1 l2 i1 i2 j1 j2 hki hlj
      go_enter Try.func6, Try.ntmps6
      go_wp2_with (first | (go_at_call 28; refine (proper_any a b c d true _ HP.out).mono ?_; rintro e w' ⟨rfl, rfl⟩) | (go_at_call 22; refine (small_at [m] false _ _ (by simp) HS.out (by simp)).mono ?_; rintro e w' ⟨rfl, rfl⟩))
      go_ret
      exact ⟨rfl, (by repeat (first | exact Below.refl _ _ | refine bel_drew ?_ | refine bel_alloc _ ?_ | refine bel_trans (by assumption) ?_ | refine bel_set _ _ (by simp) ?_))⟩
    · have HS := Lib.hid hs
      simp only [List.all_cons, List.all_nil, Bool.and_true] at hs
      obtain ⟨n, hm, n1, n2⟩ := smallB_true hs
      have c0 := i_lss hm zero64 rfl
      obtain ⟨dm, e1, r1⟩ := dbl64 hm (by omega)
      obtain ⟨wi, e2, r2⟩ := sub64 hc ha (by omega)
      obtain ⟨he, e3, r3⟩ := sub64 hd hb (by omega)
      have c1 := i_geq r1 r2 rfl
      have c2 := i_geq r1 r3 rfl
      obtain ⟨p, e4, r4⟩ := add64 ha hm (by omega)
      obtain ⟨q, e5, r5⟩ := add64 hb hm (by omega)
      obtain ⟨r, e6, r6⟩ := sub64 hc hm (by omega)
      obtain ⟨s, e7, r7⟩ := sub64 hd hm (by omega)
      have N := fun w => nearrect_b p q r s p q r s w (NearT.same (ap64 r4 10000000 (by omega) (by omega)) (by decide +kernel)) (NearT.same (ap64 r5 10000000 (by omega) (by omega)) (by decide +kernel)) (NearT.same (ap64 r6 10000000 (by omega) (by omega)) (by decide +kernel)) (NearT.same (ap64 r7 10000000 (by omega) (by omega)) (by decide +kernel))
      have HN := Lib.hid N
      have HC := Lib.hid (fun w => cropped_any (a := a) (b := b) (c := c) (d := d) (m := m) w e4 e5 e6 e7)
      have o1 := run_bin (P := Try.prog) .mul e1
      have o2 := run_bin (P := Try.prog) .sub e2
      have o3 := run_bin (P := Try.prog) .sub e3
      have o4 := run_bin (P := Try.prog) .add e4
      have o5 := run_bin (P := Try.prog) .add e5
      have o6 := run_bin (P := Try.prog) .sub e6
      have o7 := run_bin (P := Try.prog) .sub e7
      clear N hs hm ha hb hc hd e1 e2 e3 e4 e5 e6 e7 r1 r2 r3 r4 r5 r6 r7
      by_cases t0 : n < 0
      · rw [decide_eq_true t0] at c0
        clear c1 c2 t0 n1 n2 k1 k2 l1 l2 i1 i2 j1 j2 hki hlj
        go_enter Try.func6, Try.ntmps6
        go_wp2_with (first | (go_at_call 28; refine (proper_any a b c d true _ HP.out).mono ?_; rintro e w' ⟨rfl, rfl⟩) | (go_at_call 22; refine (small_at [m] true _ _ (by simp) HS.out (by simp)).mono ?_; rintro e w' ⟨rfl, rfl⟩))
        go_ret
        exact ⟨rfl, (by repeat (first | exact Below.refl _ _ | refine bel_drew ?_ | refine bel_alloc _ ?_ | refine bel_trans (by assumption) ?_ | refine bel_set _ _ (by simp) ?_))⟩
      rw [decide_eq_false t0] at c0
      by_cases t1 : i - k ≤ 2 * n
      · rw [decide_eq_true t1] at c1
        clear c2 t0 t1 n1 n2 k1 k2 l1 l2 i1 i2 j1 j2 hki hlj
        go_enter Try.func6, Try.ntmps6
        go_wp2_with (first | (go_at_call 28; refine (proper_any a b c d true _ HP.out).mono ?_; rintro e w' ⟨rfl, rfl⟩) | (go_at_call 22; refine (small_at [m] true _ _ (by simp) HS.out (by simp)).mono ?_; rintro e w' ⟨rfl, rfl⟩))
        go_ret
        exact ⟨rfl, (by repeat (first | exact Below.refl _ _ | refine bel_drew ?_ | refine bel_alloc _ ?_ | refine bel_trans (by assumption) ?_ | refine bel_set _ _ (by simp) ?_))⟩
      rw [decide_eq_false t1] at c1
      by_cases t2 : j - l ≤ 2 * n
      · rw [decide_eq_true t2] at c2
        clear t0 t1 t2 n1 n2 k1 k2 l1 l2 i1 i2 j1 j2 hki hlj
        go_enter Try.func6, Try.ntmps6
        go_wp2_with (first | (go_at_call 28; refine (proper_any a b c d true _ HP.out).mono ?_; rintro e w' ⟨rfl, rfl⟩) | (go_at_call 22; refine (small_at [m] true _ _ (by simp) HS.out (by simp)).mono ?_; rintro e w' ⟨rfl, rfl⟩))
        go_ret
        exact ⟨rfl, (by repeat (first | exact Below.refl _ _ | refine bel_drew ?_ | refine bel_alloc _ ?_ | refine bel_trans (by assumption) ?_ | refine bel_set _ _ (by simp) ?_))⟩
      rw [decide_eq_false t2] at c2
      clear t0 t1 t2 n1 n2 k1 k2 l1 l2 i1 i2 j1 j2 hki hlj
      go_enter Try.func6, Try.ntmps6
      go_wp2_with (first | (go_at_call 28; refine (proper_any a b c d true _ HP.out).mono ?_; rintro e w' ⟨rfl, rfl⟩) | (go_at_call 22; refine (small_at [m] true _ _ (by simp) HS.out (by simp)).mono ?_; rintro e w' ⟨rfl, rfl⟩))
      go_region_held3 (fun w' => Below w.heap.size w w' ∧ w.heap.size < w'.heap.size ∧ w'.cell? ⟨w.heap.size, 0, none⟩ = some (.float .f64 a) ∧ w'.cell? ⟨w.heap.size, 1, none⟩ = some (.float .f64 b) ∧ w'.cell? ⟨w.heap.size, 2, none⟩ = some (.float .f64 c) ∧ w'.cell? ⟨w.heap.size, 3, none⟩ = some (.float .f64 d)) (first | exact keep4 (by assumption) (by assumption) | (repeat (first | exact kept_base _ _ _ _ _ _ | refine kept_drew ?_ | refine kept_alloc _ ?_)))
        (first | (go_at_call 30; refine (HC.out _).mono ?_; rintro e w' ⟨rfl, hb⟩) | (go_at_call 29; refine (HN.out _).mono ?_; rintro e w' ⟨rfl, hb⟩))
      rename_i hh
      go_wp2
      go_ret
      exact ⟨rfl, hh.1⟩

end Go.Proofs.Ytooghncdhjdcpaa
