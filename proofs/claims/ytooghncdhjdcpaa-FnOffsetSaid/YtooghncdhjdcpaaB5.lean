/-
The law FnOffset, walked: it answers true. No condition.
-/
import Derived.Test.YtooghncdhjdcpaaA4
namespace Go.Proofs.Ytooghncdhjdcpaa
open Go.RowKit Fl

theorem offset_0 (x y : Nat) (w : World) :
    Calls Try.prog 27 #[.float .f64 x, .float .f64 y, .int .i64 0] w fun e w' => e = .returned (.agg #[.float .f64 x, .float .f64 y]) ∧ Below w.heap.size w w' := by
  have hneg := run_negf
  go_enter Try.func27, Try.ntmps27
  go_wp2_with (go_at_call 65; go_in)
  exact bodyPost_ret (v := .agg #[.float .f64 x, .float .f64 y]) (by simp [results, Try.results27, go_sem]) rfl ⟨rfl, (by repeat (first | exact Below.refl _ _ | refine bel_drew ?_ | refine bel_alloc _ ?_ | refine bel_trans (by assumption) ?_ | refine bel_set _ _ (by simp) ?_))⟩

theorem offset_1 (x y : Nat) (w : World) :
    Calls Try.prog 27 #[.float .f64 x, .float .f64 y, .int .i64 1] w fun e w' => e = .returned (.agg #[.float .f64 (Op.negFloat .f64 x), .float .f64 y]) ∧ Below w.heap.size w w' := by
  have hneg := run_negf
  go_enter Try.func27, Try.ntmps27
  go_wp2_with (go_at_call 65; go_in)
  exact bodyPost_ret (v := .agg #[.float .f64 (Op.negFloat .f64 x), .float .f64 y]) (by simp [results, Try.results27, go_sem]) rfl ⟨rfl, (by repeat (first | exact Below.refl _ _ | refine bel_drew ?_ | refine bel_alloc _ ?_ | refine bel_trans (by assumption) ?_ | refine bel_set _ _ (by simp) ?_))⟩

theorem offset_2 (x y : Nat) (w : World) :
    Calls Try.prog 27 #[.float .f64 x, .float .f64 y, .int .i64 2] w fun e w' => e = .returned (.agg #[.float .f64 x, .float .f64 (Op.negFloat .f64 y)]) ∧ Below w.heap.size w w' := by
  have hneg := run_negf
  go_enter Try.func27, Try.ntmps27
  go_wp2_with (go_at_call 65; go_in)
  exact bodyPost_ret (v := .agg #[.float .f64 x, .float .f64 (Op.negFloat .f64 y)]) (by simp [results, Try.results27, go_sem]) rfl ⟨rfl, (by repeat (first | exact Below.refl _ _ | refine bel_drew ?_ | refine bel_alloc _ ?_ | refine bel_trans (by assumption) ?_ | refine bel_set _ _ (by simp) ?_))⟩

theorem offset_3 (x y : Nat) (w : World) :
    Calls Try.prog 27 #[.float .f64 x, .float .f64 y, .int .i64 3] w fun e w' => e = .returned (.agg #[.float .f64 (Op.negFloat .f64 x), .float .f64 (Op.negFloat .f64 y)]) ∧ Below w.heap.size w w' := by
  have hneg := run_negf
  go_enter Try.func27, Try.ntmps27
  go_wp2_with (go_at_call 65; go_in)
  exact bodyPost_ret (v := .agg #[.float .f64 (Op.negFloat .f64 x), .float .f64 (Op.negFloat .f64 y)]) (by simp [results, Try.results27, go_sem]) rfl ⟨rfl, (by repeat (first | exact Below.refl _ _ | refine bel_drew ?_ | refine bel_alloc _ ?_ | refine bel_trans (by assumption) ?_ | refine bel_set _ _ (by simp) ?_))⟩

theorem ap_fit {x : Nat} {n : Int} (h : R x ((n : Rat) / 64)) (h1 : -640000 ≤ n) (h2 : n ≤ 640000) : Ap x ((n : Rat) / 64) 10000 0 := Ap.small h h1 h2

set_option maxHeartbeats 2000000 in
theorem offset_walk (x y : Nat) (o : Int) (w : World) (_wo : (Lit.int .i64 o).wf = true) :
    Calls Try.prog 5 #[.float .f64 x, .float .f64 y, .int .i64 o] w fun e w' => e = .returned (.bool true) ∧ Below w.heap.size w w' := by
  cases hs : [x, y].all smallB
  · have HS := Lib.hid hs
    clear hs
    go_enter Try.func5, Try.ntmps5
    go_wp2_with (go_at_call 22; refine (small_at [x, y] false _ _ (by simp) HS.out (by simp)).mono ?_; rintro e w' ⟨rfl, rfl⟩)
    go_ret
    exact ⟨rfl, (by repeat (first | exact Below.refl _ _ | refine bel_drew ?_ | refine bel_alloc _ ?_ | refine bel_trans (by assumption) ?_ | refine bel_set _ _ (by simp) ?_))⟩
  have HS := Lib.hid hs
  simp only [List.all_cons, List.all_nil, Bool.and_true, Bool.and_eq_true] at hs
  obtain ⟨n, hx, n1, n2⟩ := smallB_true hs.1
  obtain ⟨m, hy, m1, m2⟩ := smallB_true hs.2
  have ax := ap_fit hx n1 n2
  have ay := ap_fit hy m1 m2
  have HX := Lib.hid (NearT.same ax (by decide +kernel))
  have HY := Lib.hid (NearT.same ay (by decide +kernel))
  have HNX := Lib.hid (NearT.same ax.neg (by decide +kernel))
  have HNY := Lib.hid (NearT.same ay.neg (by decide +kernel))
  clear hs hx hy n1 n2 m1 m2 ax ay
  have hneg := run_negf
  by_cases h0 : o < 0
  · go_enter Try.func5, Try.ntmps5
    go_wp2_with (go_at_call 22; refine (small_at [x, y] true _ _ (by simp) HS.out (by simp)).mono ?_; rintro e w' ⟨rfl, rfl⟩)
    go_ret
    exact ⟨rfl, (by repeat (first | exact Below.refl _ _ | refine bel_drew ?_ | refine bel_alloc _ ?_ | refine bel_trans (by assumption) ?_ | refine bel_set _ _ (by simp) ?_))⟩
  by_cases h4 : 4 ≤ o
  · go_enter Try.func5, Try.ntmps5
    go_wp2_with (go_at_call 22; refine (small_at [x, y] true _ _ (by simp) HS.out (by simp)).mono ?_; rintro e w' ⟨rfl, rfl⟩)
    go_ret
    exact ⟨rfl, (by repeat (first | exact Below.refl _ _ | refine bel_drew ?_ | refine bel_alloc _ ?_ | refine bel_trans (by assumption) ?_ | refine bel_set _ _ (by simp) ?_))⟩
  obtain rfl | rfl | rfl | rfl : o = 0 ∨ o = 1 ∨ o = 2 ∨ o = 3 := by omega
  · clear h0 h4
    go_enter Try.func5, Try.ntmps5
    go_wp2_with (go_at_call 22; refine (small_at [x, y] true _ _ (by simp) HS.out (by simp)).mono ?_; rintro e w' ⟨rfl, rfl⟩)
    go_region_held3 (fun w' => Below w.heap.size w w' ∧ w.heap.size + 1 < w'.heap.size ∧ w'.cell? ⟨w.heap.size + 1, 0, none⟩ = some (.float .f64 x) ∧ w'.cell? ⟨w.heap.size + 1, 1, none⟩ = some (.float .f64 y)) (first | assumption | exact keep2 (by assumption) (by assumption) | (repeat (first | exact kept2_base _ _ _ _ _ _ (by repeat (first | exact Below.refl _ _ | refine bel_drew ?_ | refine bel_alloc _ ?_ | refine bel_trans (by assumption) ?_ | refine bel_set _ _ (by simp) ?_)) (by simp) | refine kept2_drew ?_ | refine kept2_alloc _ ?_ | refine keep2 ?_ (by assumption))))
      (first
        | (go_at_call 27; refine (offset_0 x y _).mono ?_; rintro e w' ⟨rfl, hb⟩)
        | (go_at_call 26; refine (nearpair_b _ _ _ _ _ HX.out HY.out).mono ?_; rintro e w' ⟨rfl, hb⟩))
    rename_i hh
    go_wp2
    go_ret
    exact ⟨rfl, hh.1⟩
  · clear h0 h4
    go_enter Try.func5, Try.ntmps5
    go_wp2_with (go_at_call 22; refine (small_at [x, y] true _ _ (by simp) HS.out (by simp)).mono ?_; rintro e w' ⟨rfl, rfl⟩)
    go_region_held3 (fun w' => Below w.heap.size w w' ∧ w.heap.size + 1 < w'.heap.size ∧ w'.cell? ⟨w.heap.size + 1, 0, none⟩ = some (.float .f64 (Op.negFloat .f64 x)) ∧ w'.cell? ⟨w.heap.size + 1, 1, none⟩ = some (.float .f64 y)) (first | assumption | exact keep2 (by assumption) (by assumption) | (repeat (first | exact kept2_base _ _ _ _ _ _ (by repeat (first | exact Below.refl _ _ | refine bel_drew ?_ | refine bel_alloc _ ?_ | refine bel_trans (by assumption) ?_ | refine bel_set _ _ (by simp) ?_)) (by simp) | refine kept2_drew ?_ | refine kept2_alloc _ ?_ | refine keep2 ?_ (by assumption))))
      (first
        | (go_at_call 27; refine (offset_1 x y _).mono ?_; rintro e w' ⟨rfl, hb⟩)
        | (go_at_call 26; refine (nearpair_b _ _ _ _ _ HNX.out HY.out).mono ?_; rintro e w' ⟨rfl, hb⟩))
    rename_i hh
    go_wp2
    go_ret
    exact ⟨rfl, hh.1⟩
  · clear h0 h4
    go_enter Try.func5, Try.ntmps5
    go_wp2_with (go_at_call 22; refine (small_at [x, y] true _ _ (by simp) HS.out (by simp)).mono ?_; rintro e w' ⟨rfl, rfl⟩)
    go_region_held3 (fun w' => Below w.heap.size w w' ∧ w.heap.size + 1 < w'.heap.size ∧ w'.cell? ⟨w.heap.size + 1, 0, none⟩ = some (.float .f64 x) ∧ w'.cell? ⟨w.heap.size + 1, 1, none⟩ = some (.float .f64 (Op.negFloat .f64 y))) (first | assumption | exact keep2 (by assumption) (by assumption) | (repeat (first | exact kept2_base _ _ _ _ _ _ (by repeat (first | exact Below.refl _ _ | refine bel_drew ?_ | refine bel_alloc _ ?_ | refine bel_trans (by assumption) ?_ | refine bel_set _ _ (by simp) ?_)) (by simp) | refine kept2_drew ?_ | refine kept2_alloc _ ?_ | refine keep2 ?_ (by assumption))))
      (first
        | (go_at_call 27; refine (offset_2 x y _).mono ?_; rintro e w' ⟨rfl, hb⟩)
        | (go_at_call 26; refine (nearpair_b _ _ _ _ _ HX.out HNY.out).mono ?_; rintro e w' ⟨rfl, hb⟩))
    rename_i hh
    go_wp2
    go_ret
    exact ⟨rfl, hh.1⟩
  · clear h0 h4
    go_enter Try.func5, Try.ntmps5
    go_wp2_with (go_at_call 22; refine (small_at [x, y] true _ _ (by simp) HS.out (by simp)).mono ?_; rintro e w' ⟨rfl, rfl⟩)
    go_region_held3 (fun w' => Below w.heap.size w w' ∧ w.heap.size + 1 < w'.heap.size ∧ w'.cell? ⟨w.heap.size + 1, 0, none⟩ = some (.float .f64 (Op.negFloat .f64 x)) ∧ w'.cell? ⟨w.heap.size + 1, 1, none⟩ = some (.float .f64 (Op.negFloat .f64 y))) (first | assumption | exact keep2 (by assumption) (by assumption) | (repeat (first | exact kept2_base _ _ _ _ _ _ (by repeat (first | exact Below.refl _ _ | refine bel_drew ?_ | refine bel_alloc _ ?_ | refine bel_trans (by assumption) ?_ | refine bel_set _ _ (by simp) ?_)) (by simp) | refine kept2_drew ?_ | refine kept2_alloc _ ?_ | refine keep2 ?_ (by assumption))))
      (first
        | (go_at_call 27; refine (offset_3 x y _).mono ?_; rintro e w' ⟨rfl, hb⟩)
        | (go_at_call 26; refine (nearpair_b _ _ _ _ _ HNX.out HNY.out).mono ?_; rintro e w' ⟨rfl, hb⟩))
    rename_i hh
    go_wp2
    go_ret
    exact ⟨rfl, hh.1⟩

end Go.Proofs.Ytooghncdhjdcpaa
