/-
The law FnGlyphs, walked: it answers true. No condition.
-/
import Derived.Test.YtooghncdhjdcpaaA1
namespace Go.Proofs.Ytooghncdhjdcpaa
open Go.RowKit Fl

theorem glyphs_walk (x y : Nat) (w : World) :
    Calls Try.prog 3 #[.float .f64 x, .float .f64 y] w fun e w' => e = .returned (.bool true) ∧ Below w.heap.size w w' := by
  cases hs : [x, y].all smallB
  · go_enter Try.func3, Try.ntmps3
    go_wp2_with (go_at_call 22; refine (small_new [x, y] false w hs (by simp)).mono ?_; rintro e w' ⟨rfl, rfl⟩)
    go_ret
    exact ⟨rfl, below1 _ _⟩
  · have HS := Lib.hid hs
    simp only [List.all_cons, List.all_nil, Bool.and_true, Bool.and_eq_true] at hs
    obtain ⟨n, hx, n1, n2⟩ := smallB_true hs.1
    obtain ⟨m, hy, m1, m2⟩ := smallB_true hs.2
    clear hs
    by_cases h0 : (m : Rat) / 64 ≤ 0
    · have c1 := f_leq hy R_zero (decide_eq_true h0)
      clear h0 hx hy
      go_enter Try.func3, Try.ntmps3
      go_wp2_with (go_at_call 22; refine (small_new [x, y] true w HS.out (by simp)).mono ?_; rintro e w' ⟨rfl, rfl⟩)
      go_ret
      exact ⟨rfl, below1 _ _⟩
    · have c1 := f_leq hy R_zero (decide_eq_false h0)
      have ax := Ap.small hx n1 n2
      have ay := Ap.small hy m1 m2
      have hm := (small_pos (n := m) (by grind)).2
      have hk : (n : Rat) / 64 / 1000 * ((m : Rat) / 64) = (n : Rat) / 64 * ((m : Rat) / 64) / 1000 := by grind
      clear hx hy h0
      obtain ⟨a1, e1, q1⟩ := ax.mul Ap.k1000 10000000 (1 / 100000000) (by decide +kernel)
      obtain ⟨a2, e2, q2⟩ := q1.div ay (1 / 64) hm 1000000000 (1 / 100000) (by decide +kernel)
      obtain ⟨b1, e3, q3⟩ := ax.div Ap.k1000 1000 (by decide +kernel) 10 (5 / 1000000000000000) (by decide +kernel)
      obtain ⟨b2, e4, q4⟩ := q3.mul ay 100000 (1 / 10000000000) (by decide +kernel)
      obtain ⟨b3, e5, q5⟩ := ax.mul ay 100000000 (3 / 100000000) (by decide +kernel)
      obtain ⟨b4, e6, q6⟩ := q5.div Ap.k1000 1000 (by decide +kernel) 100000 (1 / 10000000000) (by decide +kernel)
      have N1 := Lib.hid (fun w => near_same w q2 (by decide +kernel))
      have N2 := Lib.hid (fun w => near_ap w q4 q6 hk (by decide +kernel))
      have o1 := run_bin (P := Try.prog) .mul e1
      have o2 := run_bin (P := Try.prog) .quo e2
      have o3 := run_bin (P := Try.prog) .quo e3
      have o4 := run_bin (P := Try.prog) .mul e4
      have o5 := run_bin (P := Try.prog) .mul e5
      have o6 := run_bin (P := Try.prog) .quo e6
      clear e1 e2 e3 e4 e5 e6 q1 q2 q3 q4 q5 q6 ax ay hk hm n1 n2 m1 m2
      go_enter Try.func3, Try.ntmps3
      go_wp2_with (first | (go_at_call 22; refine (small_new [x, y] true w HS.out (by simp)).mono ?_; rintro e w' ⟨rfl, rfl⟩) | (go_at_call 23; go_in) | (go_at_call 60; go_in) | (go_at_call 61; go_in) | (go_at_call 24; (with_reducible refine (N1.out _).mono ?_); rintro e w' ⟨rfl, rfl⟩) | (go_at_call 24; (with_reducible refine (N2.out _).mono ?_); rintro e w' ⟨rfl, rfl⟩))
      go_ret
      exact ⟨rfl, below1 _ _⟩
end Go.Proofs.Ytooghncdhjdcpaa
