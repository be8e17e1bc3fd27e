/-
The law FnScaled, walked: it answers true. No condition.
-/
import Derived.Test.YtooghncdhjdcpaaA4
import Derived.Test.YtooghncdhjdcpaaFd
namespace Go.Proofs.Ytooghncdhjdcpaa
open Go.RowKit Fl

theorem sheight_any {a b c d x y r m s : Nat} (w : World) (h1 : floatBits .sub .f64 c a = some x) (h2 : floatBits .sub .f64 d b = some y) (h3 : floatBits .quo .f64 x y = some r) (h4 : floatBits .quo .f64 m r = some s) :
    Calls Try.prog 72 #[.agg #[.float .f64 a, .float .f64 b, .float .f64 c, .float .f64 d], .float .f64 m] w fun e w' => e = .returned (.float .f64 s) ∧ Below w.heap.size w w' := by
  have o := run_bin (P := Try.prog) .quo h4
  have H := Lib.hid (fun W => aspect_any W h1 h2 h3)
  clear h1 h2 h3 h4
  go_enter Try.func72, Try.ntmps72
  go_wp2_with (go_at_call 101; refine (H.out _).mono ?_; rintro e w' ⟨rfl, hb⟩)
  go_ret
  exact ⟨rfl, (by repeat (first | exact Below.refl _ _ | refine bel_drew ?_ | refine bel_alloc _ ?_ | refine bel_drewN _ ?_ | refine bel_trans (by assumption) ?_ | refine bel_set _ _ (by simp) ?_))⟩
theorem swidth_any {a b c d x y r m s : Nat} (w : World) (h1 : floatBits .sub .f64 c a = some x) (h2 : floatBits .sub .f64 d b = some y) (h3 : floatBits .quo .f64 x y = some r) (h4 : floatBits .mul .f64 r m = some s) :
    Calls Try.prog 73 #[.agg #[.float .f64 a, .float .f64 b, .float .f64 c, .float .f64 d], .float .f64 m] w fun e w' => e = .returned (.float .f64 s) ∧ Below w.heap.size w w' := by
  have o := run_bin (P := Try.prog) .mul h4
  have H := Lib.hid (fun W => aspect_any W h1 h2 h3)
  clear h1 h2 h3 h4
  go_enter Try.func73, Try.ntmps73
  go_wp2_with (go_at_call 101; refine (H.out _).mono ?_; rintro e w' ⟨rfl, hb⟩)
  go_ret
  exact ⟨rfl, (by repeat (first | exact Below.refl _ _ | refine bel_drew ?_ | refine bel_alloc _ ?_ | refine bel_drewN _ ?_ | refine bel_trans (by assumption) ?_ | refine bel_set _ _ (by simp) ?_))⟩

set_option linter.unusedSimpArgs false in
set_option maxHeartbeats 4000000 in
theorem scaled_any {a b c d x y r m s n t : Nat} (w : World) (h1 : floatBits .sub .f64 c a = some x) (h2 : floatBits .sub .f64 d b = some y) (h3 : floatBits .quo .f64 x y = some r) (h4 : floatBits .quo .f64 m r = some s) (h5 : floatBits .mul .f64 r n = some t) :
    Calls Try.prog 39 #[.agg #[.float .f64 a, .float .f64 b, .float .f64 c, .float .f64 d], .float .f64 m, .float .f64 n] w fun e w' => e = .returned (.tuple #[.float .f64 s, .float .f64 t]) ∧ Below w.heap.size w w' := by
  have H1 := Lib.hid (fun W => sheight_any W h1 h2 h3 h4)
  have H2 := Lib.hid (fun W => swidth_any W h1 h2 h3 h5)
  clear h1 h2 h3 h4 h5
  go_enter Try.func39, Try.ntmps39
  go_wp2_with fail
  refine wp_region_noPanic ?_
  refine wp_region_held_drew (S := (fun w' => Below w.heap.size w w' ∧ w.heap.size < w'.heap.size ∧ w'.cell? ⟨w.heap.size, 0, none⟩ = some (.float .f64 a) ∧ w'.cell? ⟨w.heap.size, 1, none⟩ = some (.float .f64 b) ∧ w'.cell? ⟨w.heap.size, 2, none⟩ = some (.float .f64 c) ∧ w'.cell? ⟨w.heap.size, 3, none⟩ = some (.float .f64 d))) (by kernel_rfl) ?_ (fun hHeld => ?_)
  · (try dsimp only); (first | assumption | exact keep4 (by assumption) (by assumption) | (repeat (first | exact kept_base _ _ _ _ _ _ | refine kept_drew ?_ | refine kept_alloc _ ?_ | refine keep4 ?_ (by assumption))))
  refine wpAnyH_take (i := 0) (v := ?v0) rfl (by kernel_rfl) (by kernel_rfl) (by kernel_rfl) (fun _ _ _ h => h) (Or.inl ⟨by rfl, ?y0⟩) (by assumption) ?r0
  case y0 => (intro w hSw; (try dsimp only at hSw); go_simp; try with_reducible rfl)
  try simp only [List.getElem_toArray, List.getElem_cons_zero, List.getElem_cons_succ, Act.put, List.setIfInBounds_toArray, List.set_cons_zero, List.set_cons_succ]
  refine wpAnyH_take (i := 4) (v := ?v4) rfl (by kernel_rfl) (by kernel_rfl) (by kernel_rfl) (fun _ _ _ h => h) (Or.inl ⟨by rfl, ?y4⟩) (by assumption) ?r4
  case y4 => (intro w hSw; (try dsimp only at hSw); go_simp; try with_reducible rfl)
  try simp only [List.getElem_toArray, List.getElem_cons_zero, List.getElem_cons_succ, Act.put, List.setIfInBounds_toArray, List.set_cons_zero, List.set_cons_succ]
  refine wpAnyH_take (i := 6) (v := ?v6) rfl (by kernel_rfl) (by kernel_rfl) (by kernel_rfl) (fun _ _ _ h => h) (Or.inl ⟨by rfl, ?y6⟩) (by assumption) ?r6
  case y6 => (intro w hSw; (try dsimp only at hSw); go_simp; try with_reducible rfl)
  try simp only [List.getElem_toArray, List.getElem_cons_zero, List.getElem_cons_succ, Act.put, List.setIfInBounds_toArray, List.set_cons_zero, List.set_cons_succ]
  refine wpAnyH_take (i := 10) (v := ?v10) rfl (by kernel_rfl) (by kernel_rfl) (by kernel_rfl) (fun _ _ _ h => h) (Or.inl ⟨by rfl, ?y10⟩) (by assumption) ?r10
  case y10 => (intro w hSw; (try dsimp only at hSw); go_simp; try with_reducible rfl)
  try simp only [List.getElem_toArray, List.getElem_cons_zero, List.getElem_cons_succ, Act.put, List.setIfInBounds_toArray, List.set_cons_zero, List.set_cons_succ]
  refine wpAnyH_ready (rs := [1]) (by kernel_rfl) (by simp) (AllReadyH.cons rfl (fun K hK => ?_) AllReadyH.nil)
  go_simp
  (go_at_call 67; refine (rect_any a b c d _).mono ?_; rintro e w' ⟨g, rfl, hr, hb⟩)
  refine hK.out _ _ ?_ (fun hHeld => ?_)
  · (try dsimp only); (first | assumption | exact keep4 (by assumption) (by assumption) | (repeat (first | exact kept_base _ _ _ _ _ _ | refine kept_drew ?_ | refine kept_alloc _ ?_ | refine keep4 ?_ (by assumption))))
  clear hK K
  try simp only [List.getElem_toArray, List.getElem_cons_zero, List.getElem_cons_succ, Act.put, List.setIfInBounds_toArray, List.set_cons_zero, List.set_cons_succ]
  have hR := And.intro hHeld hr
  clear hr
  refine held_mono (T := fun w' => Kept4 w w.heap.size (.float .f64 a) (.float .f64 b) (.float .f64 c) (.float .f64 d) w' ∧ RectAt w' g a b c d) (fun _ h => h.1) _ _ _ _ ?_
  clear hHeld
  refine wpAnyH_take (i := 2) (v := ?v2) rfl (by kernel_rfl) (by kernel_rfl) (by kernel_rfl) (fun _ _ _ h => h) (Or.inl ⟨by rfl, ?y2⟩) (by assumption) ?r2
  case y2 => (intro w hSw; (try dsimp only at hSw); go_simp; try with_reducible rfl)
  try simp only [List.getElem_toArray, List.getElem_cons_zero, List.getElem_cons_succ, Act.put, List.setIfInBounds_toArray, List.set_cons_zero, List.set_cons_succ]
  refine wpAnyH_take (i := 3) (v := ?v3) rfl (by kernel_rfl) (by kernel_rfl) (by kernel_rfl) (fun _ _ _ h => h) (Or.inl ⟨by rfl, ?y3⟩) (by assumption) ?r3
  case y3 => (intro w hSw; (try dsimp only at hSw); go_simp; try with_reducible rfl)
  try simp only [List.getElem_toArray, List.getElem_cons_zero, List.getElem_cons_succ, Act.put, List.setIfInBounds_toArray, List.set_cons_zero, List.set_cons_succ]
  refine wpAnyH_ready (rs := [5]) (by kernel_rfl) (by simp) (AllReadyH.cons rfl (fun K hK => ?_) AllReadyH.nil)
  go_simp
  (go_at_call 72; refine (H1.out _).mono ?_; rintro e w' ⟨rfl, hb1⟩)
  refine hK.out _ _ ?_ (fun hHeld => ?_)
  · (try dsimp only); (first | assumption | exact kept_and (by assumption) (fun h => keep4 h (by assumption)) (by assumption))
  clear hK K
  try simp only [List.getElem_toArray, List.getElem_cons_zero, List.getElem_cons_succ, Act.put, List.setIfInBounds_toArray, List.set_cons_zero, List.set_cons_succ]
  clear hR
  refine wpAnyH_ready (rs := [7]) (by kernel_rfl) (by simp) (AllReadyH.cons rfl (fun K hK => ?_) AllReadyH.nil)
  go_simp
  (go_at_call 67; refine (rect_any a b c d _).mono ?_; rintro e w' ⟨g', rfl, hr, hb2⟩)
  refine hK.out _ _ ?_ (fun hHeld => ?_)
  · (try dsimp only); (first | assumption | exact kept_and (by assumption) (fun h => keep4 h (by assumption)) (by assumption))
  clear hK K
  try simp only [List.getElem_toArray, List.getElem_cons_zero, List.getElem_cons_succ, Act.put, List.setIfInBounds_toArray, List.set_cons_zero, List.set_cons_succ]
  have hR := And.intro hHeld hr
  clear hr
  refine held_mono (T := fun w' => (Kept4 w w.heap.size (.float .f64 a) (.float .f64 b) (.float .f64 c) (.float .f64 d) w' ∧ RectAt w' g a b c d) ∧ RectAt w' g' a b c d) (fun _ h => h.1) _ _ _ _ ?_
  clear hHeld
  refine wpAnyH_take (i := 8) (v := ?v8) rfl (by kernel_rfl) (by kernel_rfl) (by kernel_rfl) (fun _ _ _ h => h) (Or.inl ⟨by rfl, ?y8⟩) (by assumption) ?r8
  case y8 => (intro w hSw; (try dsimp only at hSw); go_simp; try with_reducible rfl)
  try simp only [List.getElem_toArray, List.getElem_cons_zero, List.getElem_cons_succ, Act.put, List.setIfInBounds_toArray, List.set_cons_zero, List.set_cons_succ]
  refine wpAnyH_take (i := 9) (v := ?v9) rfl (by kernel_rfl) (by kernel_rfl) (by kernel_rfl) (fun _ _ _ h => h) (Or.inl ⟨by rfl, ?y9⟩) (by assumption) ?r9
  case y9 => (intro w hSw; (try dsimp only at hSw); go_simp; try with_reducible rfl)
  try simp only [List.getElem_toArray, List.getElem_cons_zero, List.getElem_cons_succ, Act.put, List.setIfInBounds_toArray, List.set_cons_zero, List.set_cons_succ]
  refine wpAnyH_ready (rs := [11]) (by kernel_rfl) (by simp) (AllReadyH.cons rfl (fun K hK => ?_) AllReadyH.nil)
  go_simp
  (go_at_call 73; refine (H2.out _).mono ?_; rintro e w' ⟨rfl, hb3⟩)
  refine hK.out _ _ ?_ (fun hHeld => ?_)
  · (try dsimp only); (first | assumption | exact kept_and (by assumption) (fun h => kept_and h (fun h => keep4 h (by assumption)) (by assumption)) (by assumption))
  clear hK K
  try simp only [List.getElem_toArray, List.getElem_cons_zero, List.getElem_cons_succ, Act.put, List.setIfInBounds_toArray, List.set_cons_zero, List.set_cons_succ]
  refine wpAnyH_take (i := 12) (v := ?v12) rfl (by kernel_rfl) (by kernel_rfl) (by kernel_rfl) (fun _ _ _ h => h) (Or.inl ⟨by rfl, ?y12⟩) (by assumption) ?r12
  case y12 => (intro w hSw; (try dsimp only at hSw); go_simp; try with_reducible rfl)
  try simp only [List.getElem_toArray, List.getElem_cons_zero, List.getElem_cons_succ, Act.put, List.setIfInBounds_toArray, List.set_cons_zero, List.set_cons_succ]
  refine wpAnyH_take (i := 13) (v := ?v13) rfl (by kernel_rfl) (by kernel_rfl) (by kernel_rfl) (fun _ _ _ h => h) (Or.inl ⟨by rfl, ?y13⟩) (by assumption) ?r13
  case y13 => (intro w hSw; (try dsimp only at hSw); go_simp; try with_reducible rfl)
  try simp only [List.getElem_toArray, List.getElem_cons_zero, List.getElem_cons_succ, Act.put, List.setIfInBounds_toArray, List.set_cons_zero, List.set_cons_succ]
  refine wpAnyH_done (by kernel_rfl) ?_ _
  refine NoPanic.normal ?_
  go_wp2
  go_ret2
  exact ⟨rfl, hHeld.1.1.1⟩

theorem product_comm (d d' : Ieee.Datum) : d.product d' = d'.product d := by
  cases d <;> cases d' <;> simp [Ieee.Datum.product, Bool.xor_comm, Nat.mul_comm, Int.add_comm]
theorem mul_comm_bits (x y : Nat) : floatBits .mul .f64 x y = floatBits .mul .f64 y x := by
  show ((Ieee.double.read x).product (Ieee.double.read y)).map Ieee.double.write = ((Ieee.double.read y).product (Ieee.double.read x)).map Ieee.double.write
  rw [product_comm]

set_option maxHeartbeats 2000000 in
theorem scaled_walk (a b c d m n : Nat) (w : World) :
    Calls Try.prog 9 #[.agg #[.float .f64 a, .float .f64 b, .float .f64 c, .float .f64 d], .float .f64 m, .float .f64 n] w fun e w' => e = .returned (.bool true) ∧ Below w.heap.size w w' := by
  cases hp : properB a b c d
  · have HP := Lib.hid hp
    clear hp
    go_enter Try.func9, Try.ntmps9
    go_wp2_with (go_at_call 28; refine (proper_any a b c d false _ HP.out).mono ?_; rintro e w' ⟨rfl, rfl⟩)
    go_ret
    exact ⟨rfl, (by repeat (first | exact Below.refl _ _ | refine bel_drew ?_ | refine bel_alloc _ ?_ | refine bel_drewN _ ?_ | refine bel_trans (by assumption) ?_ | refine bel_set _ _ (by simp) ?_))⟩
  have HP := Lib.hid hp
  cases hs : [m, n].all smallB
  · have HS := Lib.hid hs
    clear hp hs
    go_enter Try.func9, Try.ntmps9
    go_wp2_with (first | (go_at_call 28; refine (proper_any a b c d true _ HP.out).mono ?_; rintro e w' ⟨rfl, rfl⟩) | (go_at_call 22; refine (small_at [m, n] false _ _ (by simp) HS.out (by simp)).mono ?_; rintro e w' ⟨rfl, rfl⟩))
    go_ret
    exact ⟨rfl, (by repeat (first | exact Below.refl _ _ | refine bel_drew ?_ | refine bel_alloc _ ?_ | refine bel_drewN _ ?_ | refine bel_trans (by assumption) ?_ | refine bel_set _ _ (by simp) ?_))⟩
  have HS := Lib.hid hs
  obtain ⟨k, l, i, j, ha, hb, hc, hd, ⟨k1, k2⟩, ⟨l1, l2⟩, ⟨i1, i2⟩, ⟨j1, j2⟩, hki, hlj⟩ := properB_true hp
  simp only [List.all_cons, List.all_nil, Bool.and_true, Bool.and_eq_true] at hs
  obtain ⟨p, hm, p1, p2⟩ := smallB_true hs.1
  obtain ⟨q, hn, q1, q2⟩ := smallB_true hs.2
  clear hp hs
  have c1 := i_leq hm zero64 rfl
  have c2 := i_leq hn zero64 rfl
  by_cases t1 : p ≤ 0
  · rw [decide_eq_true t1] at c1
    clear c2 t1 ha hb hc hd hm hn k1 k2 l1 l2 i1 i2 j1 j2 hki hlj p1 p2 q1 q2
    go_enter Try.func9, Try.ntmps9
    go_wp2_with (first | (go_at_call 28; refine (proper_any a b c d true _ HP.out).mono ?_; rintro e w' ⟨rfl, rfl⟩) | (go_at_call 22; refine (small_at [m, n] true _ _ (by simp) HS.out (by simp)).mono ?_; rintro e w' ⟨rfl, rfl⟩))
    go_ret
    exact ⟨rfl, (by repeat (first | exact Below.refl _ _ | refine bel_drew ?_ | refine bel_alloc _ ?_ | refine bel_drewN _ ?_ | refine bel_trans (by assumption) ?_ | refine bel_set _ _ (by simp) ?_))⟩
  rw [decide_eq_false t1] at c1
  by_cases t2 : q ≤ 0
  · rw [decide_eq_true t2] at c2
    clear t1 t2 ha hb hc hd hm hn k1 k2 l1 l2 i1 i2 j1 j2 hki hlj p1 p2 q1 q2
    go_enter Try.func9, Try.ntmps9
    go_wp2_with (first | (go_at_call 28; refine (proper_any a b c d true _ HP.out).mono ?_; rintro e w' ⟨rfl, rfl⟩) | (go_at_call 22; refine (small_at [m, n] true _ _ (by simp) HS.out (by simp)).mono ?_; rintro e w' ⟨rfl, rfl⟩))
    go_ret
    exact ⟨rfl, (by repeat (first | exact Below.refl _ _ | refine bel_drew ?_ | refine bel_alloc _ ?_ | refine bel_drewN _ ?_ | refine bel_trans (by assumption) ?_ | refine bel_set _ _ (by simp) ?_))⟩
  rw [decide_eq_false t2] at c2
  obtain ⟨x, e1, r1⟩ := sub64 hc ha (by omega)
  obtain ⟨y, e2, r2⟩ := sub64 hd hb (by omega)
  obtain ⟨r, v, e3, hr, hv, _, _⟩ := ratio64 r1 r2 (by omega) (by omega) (by omega) (by omega)
  have hpos := pos64 (n := j - l) (by omega)
  have hxp := pos64 (n := i - k) (by omega)
  have hyb := nr64 (n := j - l) (B := 1280000) (by omega) (by omega)
  have ar : Ap r (((i - k : Int) : Rat) / 64 / (((j - l : Int) : Rat) / 64)) 1280000 (1 / 1000000000) :=
    ⟨v, hr, hv, ((nr64 (n := i - k) (B := 1280000) (by omega) (by omega)).div (show (0 : Rat) < 1 / 64 by decide +kernel) hpos).mono (by decide +kernel)⟩
  have hlow : (1 : Rat) / 1280001 ≤ ((i - k : Int) : Rat) / 64 / (((j - l : Int) : Rat) / 64) := by
    have hq0 : ((j - l : Int) : Rat) / 64 ≠ 0 := by grind
    have e := Rat.div_mul_cancel (a := ((i - k : Int) : Rat) / 64) hq0
    have hb20 : (((1280000 : Int) : Rat)) / 64 = 20000 := by decide +kernel
    rw [hb20] at hyb
    obtain ⟨hy1, hy2⟩ := hyb
    generalize ((i - k : Int) : Rat) / 64 / (((j - l : Int) : Rat) / 64) = t at *
    generalize ((j - l : Int) : Rat) / 64 = z at *
    generalize ((i - k : Int) : Rat) / 64 = u at *
    rcases Rat.le_total (a := 1 / 1280001) (b := t) with hh | hh
    · exact hh
    · have := Rat.mul_le_mul_of_nonneg_right hh (show (0 : Rat) ≤ z by grind)
      grind
  obtain ⟨s, e4, asx⟩ := (Ap.small hm p1 p2).div ar (1 / 1280001) hlow 12800010000 100000000 (by decide +kernel)
  obtain ⟨t, e5, at'⟩ := ar.mul (Ap.small hn q1 q2) 12800000000 1 (by decide +kernel)
  have HA := Lib.hid (fun W => scaled_any W e1 e2 e3 e4 e5)
  have N1 := Lib.hid (NearT.same asx (by decide +kernel))
  have N2 := Lib.hid (NearT.same at' (by decide +kernel))
  have o1 := run_bin (P := Try.prog) .sub e1
  have o2 := run_bin (P := Try.prog) .sub e2
  have o3 := run_bin (P := Try.prog) .quo e3
  have o4 := run_bin (P := Try.prog) .quo e4
  have o5 := run_bin (P := Try.prog) .mul ((mul_comm_bits n r).trans e5)
  clear e1 e2 e3 e4 e5 asx at' ar hlow hpos hxp hyb hr hv r1 r2 t1 t2 ha hb hc hd hm hn k1 k2 l1 l2 i1 i2 j1 j2 hki hlj p1 p2 q1 q2
  go_enter Try.func9, Try.ntmps9
  go_wp2_with (first | (go_at_call 28; refine (proper_any a b c d true _ HP.out).mono ?_; rintro e w' ⟨rfl, rfl⟩) | (go_at_call 22; refine (small_at [m, n] true _ _ (by simp) HS.out (by simp)).mono ?_; rintro e w' ⟨rfl, rfl⟩) | (go_at_call 39; refine (HA.out _).mono ?_; rintro e w' ⟨rfl, hb⟩) | (go_at_call 24; (with_reducible refine (N1.out _).mono ?_); rintro e w' ⟨rfl, rfl⟩) | (go_at_call 24; (with_reducible refine (N2.out _).mono ?_); rintro e w' ⟨rfl, rfl⟩))
  go_ret
  exact ⟨rfl, (by repeat (first | exact Below.refl _ _ | refine bel_drew ?_ | refine bel_alloc _ ?_ | refine bel_drewN _ ?_ | refine bel_trans (by assumption) ?_ | refine bel_set _ _ (by simp) ?_))⟩

end Go.Proofs.Ytooghncdhjdcpaa
