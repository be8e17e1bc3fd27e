/-
The law FnCoord: it answers true. No condition.
-/
import Derived.Test.YtooghncdhjdcpaaB15
namespace Go.Proofs.Ytooghncdhjdcpaa
open Go.RowKit Fl

set_option linter.unusedVariables false in
set_option maxHeartbeats 2000000 in
theorem coord_walk (x y a b c d : Nat) (k : Int) (q : Bool) (w : World) (wk : (Lit.int .i64 k).wf = true) :
    Calls Try.prog 15 #[.float .f64 x, .float .f64 y, .agg #[.float .f64 a, .float .f64 b, .float .f64 c, .float .f64 d], .int .i64 k, .bool q] w fun e w' => e = .returned (.bool true) ∧ Below w.heap.size w w' := by
  cases hs : [x, y].all smallB
  · -- not small
    have HS := Lib.hid hs
    clear hs
    go_enter Try.func15, Try.ntmps15
    go_wp2_with (first
      | (go_at_call 22; refine (small_at [x, y] false _ _ (by simp) HS.out (by simp)).mono ?_; rintro e w' ⟨rfl, rfl⟩))
    go_ret
    exact ⟨rfl, (by repeat (first | exact Below.refl _ _ | refine bel_drew ?_ | refine bel_alloc _ ?_ | refine bel_drewN _ ?_ | refine bel_trans (by assumption) ?_ | refine bel_set _ _ (by simp) ?_))⟩
  cases hp : properB a b c d
  · -- not proper
    have HS := Lib.hid hs
    have HP := Lib.hid hp
    clear hs hp
    go_enter Try.func15, Try.ntmps15
    go_wp2_with (first
      | (go_at_call 22; refine (small_at [x, y] true _ _ (by simp) HS.out (by simp)).mono ?_; rintro e w' ⟨rfl, rfl⟩)
      | (go_at_call 28; refine (proper_any a b c d false _ HP.out).mono ?_; rintro e w' ⟨rfl, rfl⟩))
    go_ret
    exact ⟨rfl, (by repeat (first | exact Below.refl _ _ | refine bel_drew ?_ | refine bel_alloc _ ?_ | refine bel_drewN _ ?_ | refine bel_trans (by assumption) ?_ | refine bel_set _ _ (by simp) ?_))⟩
  by_cases h0 : k < 0
  · -- no corner
    have HS := Lib.hid hs
    have HP := Lib.hid hp
    clear hs hp
    go_enter Try.func15, Try.ntmps15
    go_wp2_with (first
      | (go_at_call 22; refine (small_at [x, y] true _ _ (by simp) HS.out (by simp)).mono ?_; rintro e w' ⟨rfl, rfl⟩)
      | (go_at_call 28; refine (proper_any a b c d true _ HP.out).mono ?_; rintro e w' ⟨rfl, rfl⟩))
    go_ret
    exact ⟨rfl, (by repeat (first | exact Below.refl _ _ | refine bel_drew ?_ | refine bel_alloc _ ?_ | refine bel_drewN _ ?_ | refine bel_trans (by assumption) ?_ | refine bel_set _ _ (by simp) ?_))⟩
  by_cases h4 : 4 ≤ k
  · -- no corner
    have HS := Lib.hid hs
    have HP := Lib.hid hp
    clear hs hp
    go_enter Try.func15, Try.ntmps15
    go_wp2_with (first
      | (go_at_call 22; refine (small_at [x, y] true _ _ (by simp) HS.out (by simp)).mono ?_; rintro e w' ⟨rfl, rfl⟩)
      | (go_at_call 28; refine (proper_any a b c d true _ HP.out).mono ?_; rintro e w' ⟨rfl, rfl⟩))
    go_ret
    exact ⟨rfl, (by repeat (first | exact Below.refl _ _ | refine bel_drew ?_ | refine bel_alloc _ ?_ | refine bel_drewN _ ?_ | refine bel_trans (by assumption) ?_ | refine bel_set _ _ (by simp) ?_))⟩
  have hs' := hs
  simp only [List.all_cons, List.all_nil, Bool.and_true, Bool.and_eq_true] at hs'
  obtain ⟨ix, hx, x1, x2⟩ := smallB_true hs'.1
  obtain ⟨iy, hy, y1, y2⟩ := smallB_true hs'.2
  obtain ⟨k', l, i, j, ha, hb, hc, hd, ⟨k1, k2⟩, ⟨t1, t2⟩, ⟨i1, i2⟩, ⟨j1, j2⟩, hki, hlj⟩ := properB_true hp
  obtain ⟨W, e1, r1⟩ := sub64 hc ha (by omega)
  obtain ⟨H, e2, r2⟩ := sub64 hd hb (by omega)
  have o1 := run_bin (P := Try.prog) .sub e1
  have o2 := run_bin (P := Try.prog) .sub e2
  clear hs'
  by_cases gl1 : ix < 0
  · have l1 := i_lss hx zero64 (b := true) (by simpa using gl1)
    clear hx hy ha hb hc hd r1 r2 e1 e2
    have HS := Lib.hid hs
    have HP := Lib.hid hp
    clear hs hp
    go_enter Try.func15, Try.ntmps15
    go_wp2_with (first
      | (go_at_call 22; refine (small_at [x, y] true _ _ (by simp) HS.out (by simp)).mono ?_; rintro e w' ⟨rfl, rfl⟩)
      | (go_at_call 28; refine (proper_any a b c d true _ HP.out).mono ?_; rintro e w' ⟨rfl, rfl⟩))
    go_ret
    exact ⟨rfl, (by repeat (first | exact Below.refl _ _ | refine bel_drew ?_ | refine bel_alloc _ ?_ | refine bel_drewN _ ?_ | refine bel_trans (by assumption) ?_ | refine bel_set _ _ (by simp) ?_))⟩
  have l1 := i_lss hx zero64 (b := false) (by simpa using gl1)
  by_cases gl2 : iy < 0
  · have l2 := i_lss hy zero64 (b := true) (by simpa using gl2)
    clear hx hy ha hb hc hd r1 r2 e1 e2
    have HS := Lib.hid hs
    have HP := Lib.hid hp
    clear hs hp
    go_enter Try.func15, Try.ntmps15
    go_wp2_with (first
      | (go_at_call 22; refine (small_at [x, y] true _ _ (by simp) HS.out (by simp)).mono ?_; rintro e w' ⟨rfl, rfl⟩)
      | (go_at_call 28; refine (proper_any a b c d true _ HP.out).mono ?_; rintro e w' ⟨rfl, rfl⟩))
    go_ret
    exact ⟨rfl, (by repeat (first | exact Below.refl _ _ | refine bel_drew ?_ | refine bel_alloc _ ?_ | refine bel_drewN _ ?_ | refine bel_trans (by assumption) ?_ | refine bel_set _ _ (by simp) ?_))⟩
  have l2 := i_lss hy zero64 (b := false) (by simpa using gl2)
  by_cases gl3 : i - k' < ix
  · have l3 := i_gtr hx r1 (b := true) (by simpa using gl3)
    clear hx hy ha hb hc hd r1 r2 e1 e2
    have HS := Lib.hid hs
    have HP := Lib.hid hp
    clear hs hp
    go_enter Try.func15, Try.ntmps15
    go_wp2_with (first
      | (go_at_call 22; refine (small_at [x, y] true _ _ (by simp) HS.out (by simp)).mono ?_; rintro e w' ⟨rfl, rfl⟩)
      | (go_at_call 28; refine (proper_any a b c d true _ HP.out).mono ?_; rintro e w' ⟨rfl, rfl⟩))
    go_ret
    exact ⟨rfl, (by repeat (first | exact Below.refl _ _ | refine bel_drew ?_ | refine bel_alloc _ ?_ | refine bel_drewN _ ?_ | refine bel_trans (by assumption) ?_ | refine bel_set _ _ (by simp) ?_))⟩
  have l3 := i_gtr hx r1 (b := false) (by simpa using gl3)
  by_cases gl4 : j - l < iy
  · have l4 := i_gtr hy r2 (b := true) (by simpa using gl4)
    clear hx hy ha hb hc hd r1 r2 e1 e2
    have HS := Lib.hid hs
    have HP := Lib.hid hp
    clear hs hp
    go_enter Try.func15, Try.ntmps15
    go_wp2_with (first
      | (go_at_call 22; refine (small_at [x, y] true _ _ (by simp) HS.out (by simp)).mono ?_; rintro e w' ⟨rfl, rfl⟩)
      | (go_at_call 28; refine (proper_any a b c d true _ HP.out).mono ?_; rintro e w' ⟨rfl, rfl⟩))
    go_ret
    exact ⟨rfl, (by repeat (first | exact Below.refl _ _ | refine bel_drew ?_ | refine bel_alloc _ ?_ | refine bel_drewN _ ?_ | refine bel_trans (by assumption) ?_ | refine bel_set _ _ (by simp) ?_))⟩
  have l4 := i_gtr hy r2 (b := false) (by simpa using gl4)
  by_cases gl5 : k' < 0
  · have l5 := i_lss ha zero64 (b := true) (by simpa using gl5)
    clear hx hy ha hb hc hd r1 r2 e1 e2
    have HS := Lib.hid hs
    have HP := Lib.hid hp
    clear hs hp
    go_enter Try.func15, Try.ntmps15
    go_wp2_with (first
      | (go_at_call 22; refine (small_at [x, y] true _ _ (by simp) HS.out (by simp)).mono ?_; rintro e w' ⟨rfl, rfl⟩)
      | (go_at_call 28; refine (proper_any a b c d true _ HP.out).mono ?_; rintro e w' ⟨rfl, rfl⟩))
    go_ret
    exact ⟨rfl, (by repeat (first | exact Below.refl _ _ | refine bel_drew ?_ | refine bel_alloc _ ?_ | refine bel_drewN _ ?_ | refine bel_trans (by assumption) ?_ | refine bel_set _ _ (by simp) ?_))⟩
  have l5 := i_lss ha zero64 (b := false) (by simpa using gl5)
  by_cases gl6 : l < 0
  · have l6 := i_lss hb zero64 (b := true) (by simpa using gl6)
    clear hx hy ha hb hc hd r1 r2 e1 e2
    have HS := Lib.hid hs
    have HP := Lib.hid hp
    clear hs hp
    go_enter Try.func15, Try.ntmps15
    go_wp2_with (first
      | (go_at_call 22; refine (small_at [x, y] true _ _ (by simp) HS.out (by simp)).mono ?_; rintro e w' ⟨rfl, rfl⟩)
      | (go_at_call 28; refine (proper_any a b c d true _ HP.out).mono ?_; rintro e w' ⟨rfl, rfl⟩))
    go_ret
    exact ⟨rfl, (by repeat (first | exact Below.refl _ _ | refine bel_drew ?_ | refine bel_alloc _ ?_ | refine bel_drewN _ ?_ | refine bel_trans (by assumption) ?_ | refine bel_set _ _ (by simp) ?_))⟩
  have l6 := i_lss hb zero64 (b := false) (by simpa using gl6)
  clear o1 o2
  obtain ⟨X, e3, r3⟩ := sub64 r1 hx (by omega)
  obtain ⟨Y, e4, r4⟩ := sub64 r2 hy (by omega)
  have h : CF a b c d x y W H X Y := ⟨e1, e2, e3, e4, i_geq hx zero64 (by simp; omega), i_geq hy zero64 (by simp; omega), i_geq r3 zero64 (by simp; omega), i_geq r4 zero64 (by simp; omega), i_lss r3 zero64 (by simp; omega), i_lss r4 zero64 (by simp; omega)⟩
  have hg : CG a b x y W H := ⟨l1, l2, l3, l4, l5, l6⟩
  have nt : ∀ {z : Nat} {n : Int}, R z ((n : Rat) / 64) → -10000000 ≤ n → n ≤ 10000000 → NearT z z := fun hz h1 h2 => NearT.same (ap64 hz 10000000 h1 h2) (by decide +kernel)
  clear l1 l2 l3 l4 l5 l6
  obtain rfl | rfl | rfl | rfl : k = 0 ∨ k = 1 ∨ k = 2 ∨ k = 3 := by omega
  · cases q
    · exact clx_0_f w hp hs h hg (nt hx (by omega) (by omega)) (nt hy (by omega) (by omega))
    · obtain ⟨U, g1, u1⟩ := add64 hx ha (by omega)
      obtain ⟨V, g2, u2⟩ := add64 hy hb (by omega)
      exact clx_0_t w hp hs h hg g1 g2 (nt u1 (by omega) (by omega)) (nt u2 (by omega) (by omega))
  · cases q
    · exact clx_1_f w hp hs h hg (nt r3 (by omega) (by omega)) (nt hy (by omega) (by omega))
    · obtain ⟨U, g1, u1⟩ := add64 r3 ha (by omega)
      obtain ⟨V, g2, u2⟩ := add64 hy hb (by omega)
      exact clx_1_t w hp hs h hg g1 g2 (nt u1 (by omega) (by omega)) (nt u2 (by omega) (by omega))
  · cases q
    · exact clx_2_f w hp hs h hg (nt hx (by omega) (by omega)) (nt r4 (by omega) (by omega))
    · obtain ⟨U, g1, u1⟩ := add64 hx ha (by omega)
      obtain ⟨V, g2, u2⟩ := add64 r4 hb (by omega)
      exact clx_2_t w hp hs h hg g1 g2 (nt u1 (by omega) (by omega)) (nt u2 (by omega) (by omega))
  · cases q
    · exact clx_3_f w hp hs h hg (nt r3 (by omega) (by omega)) (nt r4 (by omega) (by omega))
    · obtain ⟨U, g1, u1⟩ := add64 r3 ha (by omega)
      obtain ⟨V, g2, u2⟩ := add64 r4 hb (by omega)
      exact clx_3_t w hp hs h hg g1 g2 (nt u1 (by omega) (by omega)) (nt u2 (by omega) (by omega))

end Go.Proofs.Ytooghncdhjdcpaa
