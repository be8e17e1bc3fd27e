/-
The law FnEnclosing, walked: it answers true. No condition.
-/
import Derived.Test.YtooghncdhjdcpaaA5
namespace Go.Proofs.Ytooghncdhjdcpaa
open Go.RowKit Fl

/-- A quad's pointer and what it leads to: the corners, the upper left one first. -/
theorem quad_any {g a b c d : Nat} (w : World) (h : RectAt w g a b c d) :
    Calls Try.prog 77 #[.pointer (some ⟨g, 0, none⟩)] w fun e w' => e = .returned (.pointer (some ⟨w.heap.size + 4, 0, none⟩)) ∧ ((((((((w.alloc (.cells #[.float .f64 a, .float .f64 b] 108)).alloc (.cells #[.float .f64 c, .float .f64 b] 108)).alloc (.cells #[.float .f64 c, .float .f64 d] 108)).alloc (.cells #[.float .f64 a, .float .f64 d] 108)).alloc (.cells #[.float .f64 a, .float .f64 d, .float .f64 c, .float .f64 d, .float .f64 a, .float .f64 b, .float .f64 c, .float .f64 b] 161)).drew).drew).drew).drew = w' := by
  obtain ⟨h0, h1, h2, h3, h4⟩ := h
  have k1 : g < w.heap.size + 1 := by omega
  have k2 : g < w.heap.size + 1 + 1 := by omega
  have k3 : g < w.heap.size + 1 + 1 + 1 := by omega
  go_enter Try.func77, Try.ntmps77
  go_wp2_with fail
  go_region
  go_wp2_with fail
  go_region
  go_wp2_with fail
  go_region
  go_wp2_with fail
  go_region
  go_wp2
  go_ret
  exact ⟨rfl, rfl⟩

/-- The comparisons that the quad of a proper rectangle comes to. -/
structure Cmp (a b c d : Nat) : Prop where
  ca : (FloatKind.f64.format.order c a == some Ordering.lt) = false
  gca : (FloatKind.f64.format.order c a == some Ordering.gt) = true
  dd : (FloatKind.f64.format.order d d == some Ordering.lt) = false
  gdd : (FloatKind.f64.format.order d d == some Ordering.gt) = false
  aa : (FloatKind.f64.format.order a a == some Ordering.lt) = false
  gac : (FloatKind.f64.format.order a c == some Ordering.gt) = false
  bd : (FloatKind.f64.format.order b d == some Ordering.lt) = true
  gcc : (FloatKind.f64.format.order c c == some Ordering.gt) = false
  bb : (FloatKind.f64.format.order b b == some Ordering.lt) = false
  gbd : (FloatKind.f64.format.order b d == some Ordering.gt) = false

set_option maxHeartbeats 2000000 in
theorem around_any {a b c d m p q r s : Nat} (w : World) (h : Cmp a b c d) (h1 : floatBits .sub .f64 a m = some p) (h2 : floatBits .sub .f64 b m = some q) (h3 : floatBits .add .f64 c m = some r) (h4 : floatBits .add .f64 d m = some s) :
    Calls Try.prog 78 #[.agg #[.float .f64 a, .float .f64 d, .float .f64 c, .float .f64 d, .float .f64 a, .float .f64 b, .float .f64 c, .float .f64 b], .float .f64 m] w fun e w' => ∃ g, e = .returned (.pointer (some ⟨g, 0, none⟩)) ∧ RectAt w' g p q r s ∧ Below w.heap.size w w' := by
  have o1 := run_bin (P := Try.prog) .sub h1
  have o2 := run_bin (P := Try.prog) .sub h2
  have o3 := run_bin (P := Try.prog) .add h3
  have o4 := run_bin (P := Try.prog) .add h4
  obtain ⟨ca, gca, dd, gdd, aa, gac, bd, gcc, bb, gbd⟩ := h
  clear h1 h2 h3 h4
  go_enter Try.func78, Try.ntmps78
  go_wp2_with fail
  go_region
  go_wp2_with fail
  go_region
  go_wp2_with fail
  refine wp_loop_rounds 4 ?_
  rw [rounds_succ]
  go_wp2_with (go_at_call 98; go_in)
  rw [rounds_succ]
  go_wp2_with (go_at_call 98; go_in)
  rw [rounds_succ]
  go_wp2_with (go_at_call 98; go_in)
  rw [rounds_succ]
  go_wp2_with (go_at_call 98; go_in)
  go_ret
  exact ⟨_, rfl, rectAt_new _ _ _ _ _ _ _ (by simp), (by repeat (first | exact Below.refl _ _ | refine bel_drew ?_ | refine bel_alloc _ ?_ | refine bel_drewN _ ?_ | refine bel_trans (by assumption) ?_ | refine bel_set _ _ (by simp) ?_))⟩

set_option maxHeartbeats 1000000 in
theorem enclosing_any {a b c d m p q r s : Nat} (w : World) (h : Cmp a b c d) (h1 : floatBits .sub .f64 a m = some p) (h2 : floatBits .sub .f64 b m = some q) (h3 : floatBits .add .f64 c m = some r) (h4 : floatBits .add .f64 d m = some s) :
    Calls Try.prog 44 #[.agg #[.float .f64 a, .float .f64 b, .float .f64 c, .float .f64 d], .float .f64 m] w fun e w' => e = .returned (.agg #[.float .f64 p, .float .f64 q, .float .f64 r, .float .f64 s]) ∧ Below w.heap.size w w' := by
  have H := Lib.hid (fun W => around_any W h h1 h2 h3 h4)
  clear h h1 h2 h3 h4
  go_enter Try.func44, Try.ntmps44
  go_wp2_with (first
    | (go_at_call 67; refine (rect_exact a b c d _).mono ?_; rintro e w' ⟨rfl, rfl⟩)
    | (go_at_call 77; refine (quad_any (a := a) (b := b) (c := c) (d := d) _ (rectAt_new _ _ _ _ _ _ _ (by simp))).mono ?_; rintro e w' ⟨rfl, rfl⟩)
    | (go_at_call 78; refine (H.out _).mono ?_; rintro e w' ⟨g, rfl, hr, hb⟩; have hB := (blank4_below (n := w.heap.size + 1) (v0 := .float .f64 0) (v1 := .float .f64 0) (v2 := .float .f64 0) (v3 := .float .f64 0) (by repeat (first | exact blank4_base _ _ _ _ _ _ _ (by simp) | refine blank4_drew ?_ | refine blank4_alloc _ ?_ | refine blank4_below ?_ (by assumption))) hb); have HR := Lib.hid hr; clear hr)
    | (go_at_call 66; refine (told_exact _ HR.out).mono ?_; rintro e w' ⟨rfl, rfl⟩))
  obtain ⟨z0, z1, z2, z3, z4, z5, z6, z7, z8⟩ := hB
  exact bodyPost_ret (v := .agg #[.float .f64 p, .float .f64 q, .float .f64 r, .float .f64 s]) (by simp [results, Try.results44, go_sem, z0, z1, z2, z3, z4]) rfl ⟨rfl, (by repeat (first | exact Below.refl _ _ | refine bel_drew ?_ | refine bel_alloc _ ?_ | refine bel_drewN _ ?_ | refine bel_trans (by assumption) ?_ | refine bel_set _ _ (by simp) ?_))⟩

set_option maxHeartbeats 1000000 in
theorem enclosing_walk (a b c d m : Nat) (w : World) :
    Calls Try.prog 13 #[.agg #[.float .f64 a, .float .f64 b, .float .f64 c, .float .f64 d], .float .f64 m] w fun e w' => e = .returned (.bool true) ∧ Below w.heap.size w w' := by
  cases hp : properB a b c d
  · have HP := Lib.hid hp
    clear hp
    go_enter Try.func13, Try.ntmps13
    go_wp2_with (go_at_call 28; refine (proper_any a b c d false _ HP.out).mono ?_; rintro e w' ⟨rfl, rfl⟩)
    go_ret
    exact ⟨rfl, (by repeat (first | exact Below.refl _ _ | refine bel_drew ?_ | refine bel_alloc _ ?_ | refine bel_drewN _ ?_ | refine bel_trans (by assumption) ?_ | refine bel_set _ _ (by simp) ?_))⟩
  have HP := Lib.hid hp
  cases hs : [m].all smallB
  · have HS := Lib.hid hs
    clear hp hs
    go_enter Try.func13, Try.ntmps13
    go_wp2_with (first | (go_at_call 28; refine (proper_any a b c d true _ HP.out).mono ?_; rintro e w' ⟨rfl, rfl⟩) | (go_at_call 22; refine (small_at [m] false _ _ (by simp) HS.out (by simp)).mono ?_; rintro e w' ⟨rfl, rfl⟩))
    go_ret
    exact ⟨rfl, (by repeat (first | exact Below.refl _ _ | refine bel_drew ?_ | refine bel_alloc _ ?_ | refine bel_drewN _ ?_ | refine bel_trans (by assumption) ?_ | refine bel_set _ _ (by simp) ?_))⟩
  have HS := Lib.hid hs
  obtain ⟨k, l, i, j, ha, hb, hc, hd, ⟨k1, k2⟩, ⟨l1, l2⟩, ⟨i1, i2⟩, ⟨j1, j2⟩, hki, hlj⟩ := properB_true hp
  simp only [List.all_cons, List.all_nil, Bool.and_true] at hs
  obtain ⟨n, hm, n1, n2⟩ := smallB_true hs
  have c0 := i_lss hm zero64 rfl
  by_cases t0 : n < 0
  · rw [decide_eq_true t0] at c0
    clear hp hs t0 ha hb hc hd hm n1 n2 k1 k2 l1 l2 i1 i2 j1 j2 hki hlj
    go_enter Try.func13, Try.ntmps13
    go_wp2_with (first | (go_at_call 28; refine (proper_any a b c d true _ HP.out).mono ?_; rintro e w' ⟨rfl, rfl⟩) | (go_at_call 22; refine (small_at [m] true _ _ (by simp) HS.out (by simp)).mono ?_; rintro e w' ⟨rfl, rfl⟩))
    go_ret
    exact ⟨rfl, (by repeat (first | exact Below.refl _ _ | refine bel_drew ?_ | refine bel_alloc _ ?_ | refine bel_drewN _ ?_ | refine bel_trans (by assumption) ?_ | refine bel_set _ _ (by simp) ?_))⟩
  rw [decide_eq_false t0] at c0
  have hC : Cmp a b c d := ⟨i_lss hc ha (decide_eq_false (by omega)), i_gtr hc ha (decide_eq_true hki), i_lss hd hd (decide_eq_false (by omega)), i_gtr hd hd (decide_eq_false (by omega)), i_lss ha ha (decide_eq_false (by omega)),
    i_gtr ha hc (decide_eq_false (by omega)), i_lss hb hd (decide_eq_true hlj), i_gtr hc hc (decide_eq_false (by omega)), i_lss hb hb (decide_eq_false (by omega)), i_gtr hb hd (decide_eq_false (by omega))⟩
  obtain ⟨p, e4, r4⟩ := sub64 ha hm (by omega)
  obtain ⟨q, e5, r5⟩ := sub64 hb hm (by omega)
  obtain ⟨r, e6, r6⟩ := add64 hc hm (by omega)
  obtain ⟨s, e7, r7⟩ := add64 hd hm (by omega)
  have HN := Lib.hid (fun w => nearrect_b p q r s p q r s w (NearT.same (ap64 r4 10000000 (by omega) (by omega)) (by decide +kernel)) (NearT.same (ap64 r5 10000000 (by omega) (by omega)) (by decide +kernel)) (NearT.same (ap64 r6 10000000 (by omega) (by omega)) (by decide +kernel)) (NearT.same (ap64 r7 10000000 (by omega) (by omega)) (by decide +kernel)))
  have HC := Lib.hid (fun w => enclosing_any w hC e4 e5 e6 e7)
  have o4 := run_bin (P := Try.prog) .sub e4
  have o5 := run_bin (P := Try.prog) .sub e5
  have o6 := run_bin (P := Try.prog) .add e6
  have o7 := run_bin (P := Try.prog) .add e7
  clear hC hp hs hm ha hb hc hd e4 e5 e6 e7 r4 r5 r6 r7 t0 n1 n2 k1 k2 l1 l2 i1 i2 j1 j2 hki hlj
  go_enter Try.func13, Try.ntmps13
  go_wp2_with (first | (go_at_call 28; refine (proper_any a b c d true _ HP.out).mono ?_; rintro e w' ⟨rfl, rfl⟩) | (go_at_call 22; refine (small_at [m] true _ _ (by simp) HS.out (by simp)).mono ?_; rintro e w' ⟨rfl, rfl⟩))
  go_region_held3 (fun w' => Below w.heap.size w w' ∧ w.heap.size < w'.heap.size ∧ w'.cell? ⟨w.heap.size, 0, none⟩ = some (.float .f64 a) ∧ w'.cell? ⟨w.heap.size, 1, none⟩ = some (.float .f64 b) ∧ w'.cell? ⟨w.heap.size, 2, none⟩ = some (.float .f64 c) ∧ w'.cell? ⟨w.heap.size, 3, none⟩ = some (.float .f64 d)) (first | assumption | exact keep4 (by assumption) (by assumption) | (repeat (first | exact kept_base _ _ _ _ _ _ | refine kept_drew ?_ | refine kept_alloc _ ?_ | refine keep4 ?_ (by assumption))))
    (first | (go_at_call 44; refine (HC.out _).mono ?_; rintro e w' ⟨rfl, hb⟩) | (go_at_call 29; refine (HN.out _).mono ?_; rintro e w' ⟨rfl, hb⟩))
  rename_i hh
  go_wp2
  go_ret
  exact ⟨rfl, hh.1⟩

end Go.Proofs.Ytooghncdhjdcpaa
