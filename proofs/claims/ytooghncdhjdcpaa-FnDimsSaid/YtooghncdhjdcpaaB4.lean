/-
The law FnDims, walked: it answers true. No condition.
-/
import Derived.Test.YtooghncdhjdcpaaA4
import Derived.Test.YtooghncdhjdcpaaFd
namespace Go.Proofs.Ytooghncdhjdcpaa
open Go.RowKit Fl

theorem daspect_any {x y r : Nat} (w : World) (h : floatBits .quo .f64 x y = some r) :
    Calls Try.prog 62 #[.agg #[.float .f64 x, .float .f64 y]] w fun e w' => e = .returned (.float .f64 r) ∧ Below w.heap.size w w' := by
  have o := run_bin (P := Try.prog) .quo h
  clear h
  go_enter Try.func62, Try.ntmps62
  go_wp2
  go_ret
  exact ⟨rfl, below1 _ _⟩
theorem dland_any {x y r : Nat} {b : Bool} (w : World) (h : floatBits .quo .f64 x y = some r) (c : (FloatKind.f64.format.order r 4607182418800017408 == some Ordering.gt) = b) :
    Calls Try.prog 63 #[.agg #[.float .f64 x, .float .f64 y]] w fun e w' => e = .returned (.bool b) ∧ Below w.heap.size w w' := by
  have o := run_bin (P := Try.prog) .quo h
  clear h
  go_enter Try.func63, Try.ntmps63
  go_wp2
  go_ret
  exact ⟨rfl, below2 _ _ _⟩
theorem dport_any {x y r : Nat} {b : Bool} (w : World) (h : floatBits .quo .f64 x y = some r) (c : (FloatKind.f64.format.order r 4607182418800017408 == some Ordering.lt) = b) :
    Calls Try.prog 64 #[.agg #[.float .f64 x, .float .f64 y]] w fun e w' => e = .returned (.bool b) ∧ Below w.heap.size w w' := by
  have o := run_bin (P := Try.prog) .quo h
  clear h
  go_enter Try.func64, Try.ntmps64
  go_wp2
  go_ret
  exact ⟨rfl, below2 _ _ _⟩

theorem facts_any {x y r : Nat} {b1 b2 : Bool} (w : World) (h : floatBits .quo .f64 x y = some r) (c1 : (FloatKind.f64.format.order r 4607182418800017408 == some Ordering.gt) = b1) (c2 : (FloatKind.f64.format.order r 4607182418800017408 == some Ordering.lt) = b2) :
    Calls Try.prog 25 #[.agg #[.float .f64 x, .float .f64 y]] w fun e w' => e = .returned (.tuple #[.float .f64 r, .bool b1, .bool b2]) ∧ Below w.heap.size w w' := by
  have H := Lib.hid h
  have C1 := Lib.hid c1
  have C2 := Lib.hid c2
  clear h c1 c2
  go_enter Try.func25, Try.ntmps25
  go_wp2_with fail
  go_region_held3 (fun w' => Below w.heap.size w w' ∧ w.heap.size + 1 < w'.heap.size ∧ w'.cell? ⟨w.heap.size + 1, 0, none⟩ = some (.float .f64 x) ∧ w'.cell? ⟨w.heap.size + 1, 1, none⟩ = some (.float .f64 y)) (first | assumption | exact keep2 (by assumption) (by assumption) | (repeat (first | exact kept2_base _ _ _ _ _ _ (by repeat (first | exact Below.refl _ _ | refine bel_drew ?_ | refine bel_alloc _ ?_ | refine bel_trans (by assumption) ?_ | refine bel_set _ _ (by simp) ?_)) (by simp) | refine kept2_drew ?_ | refine kept2_alloc _ ?_ | refine keep2 ?_ (by assumption))))
    (first
      | (go_at_call 62; refine (daspect_any _ H.out).mono ?_; rintro e w' ⟨rfl, hb⟩)
      | (go_at_call 63; refine (dland_any _ H.out C1.out).mono ?_; rintro e w' ⟨rfl, hb⟩)
      | (go_at_call 64; refine (dport_any _ H.out C2.out).mono ?_; rintro e w' ⟨rfl, hb⟩))
  rename_i hh
  go_wp2
  go_ret3
  exact ⟨rfl, hh.1⟩

set_option maxHeartbeats 1000000 in
theorem dims_walk (x y : Nat) (w : World) :
    Calls Try.prog 4 #[.agg #[.float .f64 x, .float .f64 y]] w fun e w' => e = .returned (.bool true) ∧ Below w.heap.size w w' := by
  cases hs : [x, y].all smallB
  · have HS := Lib.hid hs
    clear hs
    go_enter Try.func4, Try.ntmps4
    go_wp2_with (go_at_call 22; refine (small_at [x, y] false _ _ (by simp) HS.out (by simp)).mono ?_; rintro e w' ⟨rfl, rfl⟩)
    go_ret
    exact ⟨rfl, (by repeat (first | exact Below.refl _ _ | refine bel_drew ?_ | refine bel_alloc _ ?_ | refine bel_trans (by assumption) ?_ | refine bel_set _ _ (by simp) ?_))⟩
  have HS := Lib.hid hs
  simp only [List.all_cons, List.all_nil, Bool.and_true, Bool.and_eq_true] at hs
  obtain ⟨n, hx, n1, n2⟩ := smallB_true hs.1
  obtain ⟨m, hy, m1, m2⟩ := smallB_true hs.2
  clear hs
  have c1 := i_leq hx zero64 rfl
  have c2 := i_leq hy zero64 rfl
  have c3 := i_gtr hx hy rfl
  have c4 := i_gtr hy hx rfl
  by_cases h1 : n ≤ 0
  · rw [decide_eq_true h1] at c1
    clear c2 c3 c4 h1 hx hy n1 n2 m1 m2
    go_enter Try.func4, Try.ntmps4
    go_wp2_with (go_at_call 22; refine (small_at [x, y] true _ _ (by simp) HS.out (by simp)).mono ?_; rintro e w' ⟨rfl, rfl⟩)
    go_ret
    exact ⟨rfl, (by repeat (first | exact Below.refl _ _ | refine bel_drew ?_ | refine bel_alloc _ ?_ | refine bel_trans (by assumption) ?_ | refine bel_set _ _ (by simp) ?_))⟩
  rw [decide_eq_false h1] at c1
  by_cases h2 : m ≤ 0
  · rw [decide_eq_true h2] at c2
    clear c3 c4 h1 h2 hx hy n1 n2 m1 m2
    go_enter Try.func4, Try.ntmps4
    go_wp2_with (go_at_call 22; refine (small_at [x, y] true _ _ (by simp) HS.out (by simp)).mono ?_; rintro e w' ⟨rfl, rfl⟩)
    go_ret
    exact ⟨rfl, (by repeat (first | exact Below.refl _ _ | refine bel_drew ?_ | refine bel_alloc _ ?_ | refine bel_trans (by assumption) ?_ | refine bel_set _ _ (by simp) ?_))⟩
  rw [decide_eq_false h2] at c2
  obtain ⟨r, v, e, hr, hv, d1, d2⟩ := ratio64 hx hy (by omega) (by omega) (by omega) (by omega)
  have f1 := f_gtr hr R_one d1
  have f2 := f_lss hr R_one d2
  have hN : NearT r r := NearT.same (M := 1280001) (E := 1) ⟨v, hr, hv.mono (by decide +kernel), ((nr64 (n := n) (B := 640000) (by omega) (by omega)).mono (by decide +kernel) |>.div (show (0 : Rat) < 1 / 64 by decide +kernel) (pos64 (n := m) (by omega))).mono (show (10000 : Rat) / (1 / 64) ≤ 1280001 by decide +kernel)⟩ (by decide +kernel)
  have HN := Lib.hid hN
  have HF := Lib.hid (fun W => facts_any W e f1 f2)
  have o := run_bin (P := Try.prog) .quo e
  clear e hr hv d1 d2 f1 f2 hN hx hy h1 h2 n1 n2 m1 m2
  rcases Int.lt_trichotomy n m with h | h | h
  · rw [decide_eq_false (by omega)] at c3
    rw [decide_eq_true h] at c4
    rw [decide_eq_false (by omega), decide_eq_true h] at HF
    clear h
    go_enter Try.func4, Try.ntmps4
    go_wp2_with (first | (go_at_call 22; refine (small_at [x, y] true _ _ (by simp) HS.out (by simp)).mono ?_; rintro e w' ⟨rfl, rfl⟩) | (go_at_call 25; refine (HF.out _).mono ?_; rintro e w' ⟨rfl, hb⟩; obtain ⟨hq, hf⟩ := bcell hb) | (go_at_call 24; refine (HN.out _).mono ?_; rintro e w' ⟨rfl, rfl⟩))
    go_ret
    exact ⟨rfl, (by repeat (first | exact Below.refl _ _ | refine bel_drew ?_ | refine bel_alloc _ ?_ | refine bel_trans (by assumption) ?_ | refine bel_set _ _ (by simp) ?_))⟩
  · rw [decide_eq_false (by omega)] at c3
    rw [decide_eq_false (by omega)] at c4
    rw [decide_eq_false (by omega), decide_eq_false (by omega)] at HF
    clear h
    go_enter Try.func4, Try.ntmps4
    go_wp2_with (first | (go_at_call 22; refine (small_at [x, y] true _ _ (by simp) HS.out (by simp)).mono ?_; rintro e w' ⟨rfl, rfl⟩) | (go_at_call 25; refine (HF.out _).mono ?_; rintro e w' ⟨rfl, hb⟩; obtain ⟨hq, hf⟩ := bcell hb) | (go_at_call 24; refine (HN.out _).mono ?_; rintro e w' ⟨rfl, rfl⟩))
    go_ret
    exact ⟨rfl, (by repeat (first | exact Below.refl _ _ | refine bel_drew ?_ | refine bel_alloc _ ?_ | refine bel_trans (by assumption) ?_ | refine bel_set _ _ (by simp) ?_))⟩
  · rw [decide_eq_true h] at c3
    rw [decide_eq_false (by omega)] at c4
    rw [decide_eq_true h, decide_eq_false (by omega)] at HF
    clear h
    go_enter Try.func4, Try.ntmps4
    go_wp2_with (first | (go_at_call 22; refine (small_at [x, y] true _ _ (by simp) HS.out (by simp)).mono ?_; rintro e w' ⟨rfl, rfl⟩) | (go_at_call 25; refine (HF.out _).mono ?_; rintro e w' ⟨rfl, hb⟩; obtain ⟨hq, hf⟩ := bcell hb) | (go_at_call 24; refine (HN.out _).mono ?_; rintro e w' ⟨rfl, rfl⟩))
    go_ret
    exact ⟨rfl, (by repeat (first | exact Below.refl _ _ | refine bel_drew ?_ | refine bel_alloc _ ?_ | refine bel_trans (by assumption) ?_ | refine bel_set _ _ (by simp) ?_))⟩

end Go.Proofs.Ytooghncdhjdcpaa
