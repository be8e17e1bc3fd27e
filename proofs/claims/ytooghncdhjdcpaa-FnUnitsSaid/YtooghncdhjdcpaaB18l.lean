/-
The law FnUnits: it answers true. No condition.
-/
import Derived.Test.YtooghncdhjdcpaaB18
namespace Go.Proofs.Ytooghncdhjdcpaa
open Go.RowKit Fl

theorem R_per1 : R 4634766966517661696 (5066549580791808 / 70368744177664) := R_lit (s := false) (m := 5066549580791808) (e := -46) (by decide +kernel) (by decide +kernel)
theorem R_inv1 : R 4579160021118600988 (8006399337547548 / 576460752303423488) := R_lit (s := false) (m := 8006399337547548) (e := -59) (by decide +kernel) (by decide +kernel)
theorem ap_per1 : Ap 4634766966517661696 (5066549580791808 / 70368744177664) 72 0 := Ap.of R_per1 ⟨by decide +kernel, by decide +kernel⟩
theorem ap_inv1 : Ap 4579160021118600988 (1 / (5066549580791808 / 70368744177664)) (2/5) (1/9007199254740992) := ⟨_, R_inv1, ⟨by decide +kernel, by decide +kernel⟩, ⟨by decide +kernel, by decide +kernel⟩⟩
/-- A length in a unit, by the two roads. -/
theorem unit_1 {x : Nat} {v : Rat} (h : Ap x v 10000 0) : ∃ x1 x2, floatBits .mul .f64 x 4579160021118600988 = some x1 ∧ floatBits .quo .f64 x 4634766966517661696 = some x2 ∧ NearT x1 x2 := by
  obtain ⟨x1, e1, a1⟩ := h.mul ap_inv1 4000 (1/100000000000) (by decide +kernel)
  obtain ⟨x2, e2, a2⟩ := h.div ap_per1 2 (by decide +kernel) 5000 (1/100000000000) (by decide +kernel)
  exact ⟨x1, x2, e1, e2, NearT.of a1 a2 (by grind) (by decide +kernel)⟩
theorem times_1 {x : Nat} {v : Rat} (h : Ap x v 10000 0) : ∃ p, floatBits .mul .f64 x 4634766966517661696 = some p ∧ NearT p p := by
  obtain ⟨x1, e1, a1⟩ := h.mul ap_per1 720000 (1/1000000000) (by decide +kernel)
  exact ⟨x1, e1, NearT.same a1 (by decide +kernel)⟩
theorem R_per2 : R 4628672035919596310 (7978818237467414 / 281474976710656) := R_lit (s := false) (m := 7978818237467414) (e := -48) (by decide +kernel) (by decide +kernel)
theorem R_inv2 : R 4585244884615137125 (5084063579342693 / 144115188075855872) := R_lit (s := false) (m := 5084063579342693) (e := -57) (by decide +kernel) (by decide +kernel)
theorem ap_per2 : Ap 4628672035919596310 (7978818237467414 / 281474976710656) 72 0 := Ap.of R_per2 ⟨by decide +kernel, by decide +kernel⟩
theorem ap_inv2 : Ap 4585244884615137125 (1 / (7978818237467414 / 281474976710656)) (2/5) (1/9007199254740992) := ⟨_, R_inv2, ⟨by decide +kernel, by decide +kernel⟩, ⟨by decide +kernel, by decide +kernel⟩⟩
/-- A length in a unit, by the two roads. -/
theorem unit_2 {x : Nat} {v : Rat} (h : Ap x v 10000 0) : ∃ x1 x2, floatBits .mul .f64 x 4585244884615137125 = some x1 ∧ floatBits .quo .f64 x 4628672035919596310 = some x2 ∧ NearT x1 x2 := by
  obtain ⟨x1, e1, a1⟩ := h.mul ap_inv2 4000 (1/100000000000) (by decide +kernel)
  obtain ⟨x2, e2, a2⟩ := h.div ap_per2 2 (by decide +kernel) 5000 (1/100000000000) (by decide +kernel)
  exact ⟨x1, x2, e1, e2, NearT.of a1 a2 (by grind) (by decide +kernel)⟩
theorem times_2 {x : Nat} {v : Rat} (h : Ap x v 10000 0) : ∃ p, floatBits .mul .f64 x 4628672035919596310 = some p ∧ NearT p p := by
  obtain ⟨x1, e1, a1⟩ := h.mul ap_per2 720000 (1/1000000000) (by decide +kernel)
  exact ⟨x1, e1, NearT.same a1 (by decide +kernel)⟩
theorem R_per3 : R 4613565473389991339 (6383054589973931 / 2251799813685248) := R_lit (s := false) (m := 6383054589973931) (e := -51) (by decide +kernel) (by decide +kernel)
theorem R_inv3 : R 4600026699392084287 (6355079474178367 / 18014398509481984) := R_lit (s := false) (m := 6355079474178367) (e := -54) (by decide +kernel) (by decide +kernel)
theorem ap_per3 : Ap 4613565473389991339 (6383054589973931 / 2251799813685248) 72 0 := Ap.of R_per3 ⟨by decide +kernel, by decide +kernel⟩
theorem ap_inv3 : Ap 4600026699392084287 (1 / (6383054589973931 / 2251799813685248)) (2/5) (1/9007199254740992) := ⟨_, R_inv3, ⟨by decide +kernel, by decide +kernel⟩, ⟨by decide +kernel, by decide +kernel⟩⟩
/-- A length in a unit, by the two roads. -/
theorem unit_3 {x : Nat} {v : Rat} (h : Ap x v 10000 0) : ∃ x1 x2, floatBits .mul .f64 x 4600026699392084287 = some x1 ∧ floatBits .quo .f64 x 4613565473389991339 = some x2 ∧ NearT x1 x2 := by
  obtain ⟨x1, e1, a1⟩ := h.mul ap_inv3 4000 (1/100000000000) (by decide +kernel)
  obtain ⟨x2, e2, a2⟩ := h.div ap_per3 2 (by decide +kernel) 5000 (1/100000000000) (by decide +kernel)
  exact ⟨x1, x2, e1, e2, NearT.of a1 a2 (by grind) (by decide +kernel)⟩
theorem times_3 {x : Nat} {v : Rat} (h : Ap x v 10000 0) : ∃ p, floatBits .mul .f64 x 4613565473389991339 = some p ∧ NearT p p := by
  obtain ⟨x1, e1, a1⟩ := h.mul ap_per3 720000 (1/1000000000) (by decide +kernel)
  exact ⟨x1, e1, NearT.same a1 (by decide +kernel)⟩
theorem unit_0 {x : Nat} {v : Rat} (h : Ap x v 10000 0) : ∃ x2, floatBits .quo .f64 x 4607182418800017408 = some x2 ∧ NearT x x2 := by
  obtain ⟨x2, e2, a2⟩ := h.div Ap.one 1 (by decide +kernel) 10000 (1/10000000000) (by decide +kernel)
  exact ⟨x2, e2, NearT.of h a2 (by grind) (by decide +kernel)⟩
theorem times_0 {x : Nat} {v : Rat} (h : Ap x v 10000 0) : ∃ p, floatBits .mul .f64 x 4607182418800017408 = some p ∧ NearT x p := by
  obtain ⟨x1, e1, a1⟩ := h.mul Ap.one 10000 (1/10000000000) (by decide +kernel)
  exact ⟨x1, e1, NearT.of h a1 (by grind) (by decide +kernel)⟩

set_option linter.unusedVariables false in
set_option maxHeartbeats 2000000 in
theorem units_walk (f x y a b c d : Nat) (k : Int) (w : World) (wk : (Lit.int .i64 k).wf = true) :
    Calls Try.prog 18 #[.float .f64 f, .agg #[.float .f64 x, .float .f64 y], .agg #[.float .f64 a, .float .f64 b, .float .f64 c, .float .f64 d], .int .i64 k] w fun e w' => e = .returned (.bool true) ∧ Below w.heap.size w w' := by
  cases hs : [f, x, y].all smallB
  · -- not small
    have HS := Lib.hid hs
    clear hs
    go_enter Try.func18, Try.ntmps18
    go_wp2_with (first
      | (go_at_call 22; refine (small_at [f, x, y] false _ _ (by simp) HS.out (by simp)).mono ?_; rintro e w' ⟨rfl, rfl⟩))
    go_ret
    exact ⟨rfl, (by repeat (first | exact Below.refl _ _ | refine bel_drew ?_ | refine bel_alloc _ ?_ | refine bel_drewN _ ?_ | refine bel_trans (by assumption) ?_ | refine bel_set _ _ (by simp) ?_))⟩
  cases hp : properB a b c d
  · -- not proper
    have HS := Lib.hid hs
    have HP := Lib.hid hp
    clear hs hp
    go_enter Try.func18, Try.ntmps18
    go_wp2_with (first
      | (go_at_call 22; refine (small_at [f, x, y] true _ _ (by simp) HS.out (by simp)).mono ?_; rintro e w' ⟨rfl, rfl⟩)
      | (go_at_call 28; refine (proper_any a b c d false _ HP.out).mono ?_; rintro e w' ⟨rfl, rfl⟩))
    go_ret
    exact ⟨rfl, (by repeat (first | exact Below.refl _ _ | refine bel_drew ?_ | refine bel_alloc _ ?_ | refine bel_drewN _ ?_ | refine bel_trans (by assumption) ?_ | refine bel_set _ _ (by simp) ?_))⟩
  by_cases h0 : k < 0
  · -- no unit
    have HS := Lib.hid hs
    have HP := Lib.hid hp
    clear hs hp
    go_enter Try.func18, Try.ntmps18
    go_wp2_with (first
      | (go_at_call 22; refine (small_at [f, x, y] true _ _ (by simp) HS.out (by simp)).mono ?_; rintro e w' ⟨rfl, rfl⟩)
      | (go_at_call 28; refine (proper_any a b c d true _ HP.out).mono ?_; rintro e w' ⟨rfl, rfl⟩))
    go_ret
    exact ⟨rfl, (by repeat (first | exact Below.refl _ _ | refine bel_drew ?_ | refine bel_alloc _ ?_ | refine bel_drewN _ ?_ | refine bel_trans (by assumption) ?_ | refine bel_set _ _ (by simp) ?_))⟩
  by_cases h4 : 4 ≤ k
  · -- no unit
    have HS := Lib.hid hs
    have HP := Lib.hid hp
    clear hs hp
    go_enter Try.func18, Try.ntmps18
    go_wp2_with (first
      | (go_at_call 22; refine (small_at [f, x, y] true _ _ (by simp) HS.out (by simp)).mono ?_; rintro e w' ⟨rfl, rfl⟩)
      | (go_at_call 28; refine (proper_any a b c d true _ HP.out).mono ?_; rintro e w' ⟨rfl, rfl⟩))
    go_ret
    exact ⟨rfl, (by repeat (first | exact Below.refl _ _ | refine bel_drew ?_ | refine bel_alloc _ ?_ | refine bel_drewN _ ?_ | refine bel_trans (by assumption) ?_ | refine bel_set _ _ (by simp) ?_))⟩
  have hs' := hs
  simp only [List.all_cons, List.all_nil, Bool.and_true, Bool.and_eq_true] at hs'
  obtain ⟨nf, hf, f1, f2⟩ := smallB_true hs'.1
  obtain ⟨nx, hx, x1, x2⟩ := smallB_true hs'.2.1
  obtain ⟨ny, hy, y1, y2⟩ := smallB_true hs'.2.2
  obtain ⟨k', l, i, j, ha, hb, hc, hd, ⟨k1, k2⟩, ⟨t1, t2⟩, ⟨i1, i2⟩, ⟨j1, j2⟩, hki, hlj⟩ := properB_true hp
  have af := Ap.small hf f1 f2
  have ax := Ap.small hx x1 x2
  have ay := Ap.small hy y1 y2
  have aa := Ap.small ha k1 k2
  have ab := Ap.small hb t1 t2
  have ac := Ap.small hc i1 i2
  have ad := Ap.small hd j1 j2
  obtain rfl | rfl | rfl | rfl : k = 0 ∨ k = 1 ∨ k = 2 ∨ k = 3 := by omega
  · obtain ⟨fp, g0, N0⟩ := times_0 af
    obtain ⟨x3, qx, Nx⟩ := unit_0 ax
    obtain ⟨y3, qy, Ny⟩ := unit_0 ay
    obtain ⟨a2, qa, Na⟩ := unit_0 aa
    obtain ⟨b2, qb, Nb⟩ := unit_0 ab
    obtain ⟨c2, qc, Nc⟩ := unit_0 ac
    obtain ⟨d2, qd, Nd⟩ := unit_0 ad
    exact units_law_0 w hp hs g0 qx qy qa qb qc qd N0 Nx Ny Na Nb Nc Nd
  · obtain ⟨fp, g0, N0⟩ := times_1 af
    obtain ⟨_, _, mx, qx, Nx⟩ := unit_1 ax
    obtain ⟨_, _, my, qy, Ny⟩ := unit_1 ay
    obtain ⟨_, _, ma, qa, Na⟩ := unit_1 aa
    obtain ⟨_, _, mb, qb, Nb⟩ := unit_1 ab
    obtain ⟨_, _, mc, qc, Nc⟩ := unit_1 ac
    obtain ⟨_, _, md, qd, Nd⟩ := unit_1 ad
    exact units_law_1 w hp hs g0 mx my ma mb mc md qx qy qa qb qc qd N0 Nx Ny Na Nb Nc Nd
  · obtain ⟨fp, g0, N0⟩ := times_2 af
    obtain ⟨_, _, mx, qx, Nx⟩ := unit_2 ax
    obtain ⟨_, _, my, qy, Ny⟩ := unit_2 ay
    obtain ⟨_, _, ma, qa, Na⟩ := unit_2 aa
    obtain ⟨_, _, mb, qb, Nb⟩ := unit_2 ab
    obtain ⟨_, _, mc, qc, Nc⟩ := unit_2 ac
    obtain ⟨_, _, md, qd, Nd⟩ := unit_2 ad
    exact units_law_2 w hp hs g0 mx my ma mb mc md qx qy qa qb qc qd N0 Nx Ny Na Nb Nc Nd
  · obtain ⟨fp, g0, N0⟩ := times_3 af
    obtain ⟨_, _, mx, qx, Nx⟩ := unit_3 ax
    obtain ⟨_, _, my, qy, Ny⟩ := unit_3 ay
    obtain ⟨_, _, ma, qa, Na⟩ := unit_3 aa
    obtain ⟨_, _, mb, qb, Nb⟩ := unit_3 ab
    obtain ⟨_, _, mc, qc, Nc⟩ := unit_3 ac
    obtain ⟨_, _, md, qd, Nd⟩ := unit_3 ad
    exact units_law_3 w hp hs g0 mx my ma mb mc md qx qy qa qb qc qd N0 Nx Ny Na Nb Nc Nd

end Go.Proofs.Ytooghncdhjdcpaa
