/-
The law FnUnits: its functions walked. Conditions: the operations' answers are given.
-/
import Derived.Test.YtooghncdhjdcpaaA6
import Derived.Test.YtooghncdhjdcpaaFx
namespace Go.Proofs.Ytooghncdhjdcpaa
open Go.RowKit Fl

theorem kept42_pre (w : World) (v0 v1 v2 v3 u0 u1 : Value) (t t' : TypeId) : Kept42 w (w.heap.size + 1) v0 v1 v2 v3 w.heap.size u0 u1 ((w.alloc (.cells #[u0, u1] t)).alloc (.cells #[v0, v1, v2, v3] t')) := by
  have hp := pair2_below (pair2_base w w.heap.size u0 u1 t rfl) (below1 (w.alloc (.cells #[u0, u1] t)) (.cells #[v0, v1, v2, v3] t'))
  have hs : (w.alloc (.cells #[u0, u1] t)).heap.size = w.heap.size + 1 := by simp
  refine ⟨⟨below2 w _ _, by simp, ?_, ?_, ?_, ?_⟩, hp⟩
  all_goals rw [← hs, cell_alloc_at]; rfl

theorem points_0 {f : Nat} (w : World) :
    Calls Try.prog 52 #[.float .f64 f, .int .i64 0] w fun e w' => e = .returned (.float .f64 f) ∧ w = w' := by
  go_enter Try.func52, Try.ntmps52
  go_wp2_with (go_at_call 89; go_in)
  go_ret
  exact ⟨rfl, rfl⟩

set_option maxHeartbeats 1000000 in
theorem dimin_0 {x y : Nat} (w : World)  :
    Calls Try.prog 53 #[.agg #[.float .f64 x, .float .f64 y], .int .i64 0] w fun e w' => e = .returned (.agg #[.float .f64 x, .float .f64 y]) ∧ Below w.heap.size w w' := by
  go_enter Try.func53, Try.ntmps53
  go_wp2_with (first | (go_at_call 90; go_in))
  exact bodyPost_ret (v := .agg #[.float .f64 x, .float .f64 y]) (by simp [results, Try.results53, go_sem]) rfl ⟨rfl, (by repeat (first | exact Below.refl _ _ | refine bel_drew ?_ | refine bel_alloc _ ?_ | refine bel_drewN _ ?_ | refine bel_trans (by assumption) ?_ | refine bel_set _ _ (by simp) ?_))⟩

set_option maxHeartbeats 1000000 in
theorem rectin_0 {a b c d : Nat} (w : World)  :
    Calls Try.prog 54 #[.agg #[.float .f64 a, .float .f64 b, .float .f64 c, .float .f64 d], .int .i64 0] w fun e w' => e = .returned (.agg #[.float .f64 a, .float .f64 b, .float .f64 c, .float .f64 d]) ∧ Below w.heap.size w w' := by
  go_enter Try.func54, Try.ntmps54
  go_wp2_with (first
    | (go_at_call 67; refine (rect_exact a b c d _).mono ?_; rintro e w' ⟨rfl, rfl⟩)
    | (go_at_call 91; go_in)
    | (go_at_call 66; refine (told_exact _ (by first | exact rectAt_new _ _ _ _ _ _ _ (by simp) | exact (rectAt_new _ _ _ _ _ _ _ (by simp)).below (by repeat (first | exact Below.refl _ _ | refine bel_drew ?_ | refine bel_alloc _ ?_ | refine bel_drewN _ ?_ | refine bel_trans (by assumption) ?_ | refine bel_set _ _ (by simp) ?_)))).mono ?_; rintro e w' ⟨rfl, rfl⟩))
  exact bodyPost_ret (v := .agg #[.float .f64 a, .float .f64 b, .float .f64 c, .float .f64 d]) (by simp [results, Try.results54, go_sem]) rfl ⟨rfl, (by repeat (first | exact Below.refl _ _ | refine bel_drew ?_ | refine bel_alloc _ ?_ | refine bel_drewN _ ?_ | refine bel_trans (by assumption) ?_ | refine bel_set _ _ (by simp) ?_))⟩

theorem points_1 {f fp : Nat} (w : World) (h : floatBits .mul .f64 f 4634766966517661696 = some fp) :
    Calls Try.prog 52 #[.float .f64 f, .int .i64 1] w fun e w' => e = .returned (.float .f64 fp) ∧ w = w' := by
  have r := run_bin (P := Try.prog) .mul h
  clear h
  go_enter Try.func52, Try.ntmps52
  go_wp2_with (go_at_call 89; go_in)
  go_ret
  exact ⟨rfl, rfl⟩

set_option maxHeartbeats 1000000 in
theorem dimin_1 {x y x1 y1 : Nat} (w : World) (mx : floatBits .mul .f64 x 4579160021118600988 = some x1) (my : floatBits .mul .f64 y 4579160021118600988 = some y1) :
    Calls Try.prog 53 #[.agg #[.float .f64 x, .float .f64 y], .int .i64 1] w fun e w' => e = .returned (.agg #[.float .f64 x1, .float .f64 y1]) ∧ Below w.heap.size w w' := by
  have rx := run_bin (P := Try.prog) .mul mx
  have ry := run_bin (P := Try.prog) .mul my
  clear mx my
  go_enter Try.func53, Try.ntmps53
  go_wp2_with (first | (go_at_call 90; go_in) | (go_at_call 106; go_in))
  exact bodyPost_ret (v := .agg #[.float .f64 x1, .float .f64 y1]) (by simp [results, Try.results53, go_sem]) rfl ⟨rfl, (by repeat (first | exact Below.refl _ _ | refine bel_drew ?_ | refine bel_alloc _ ?_ | refine bel_drewN _ ?_ | refine bel_trans (by assumption) ?_ | refine bel_set _ _ (by simp) ?_))⟩

set_option maxHeartbeats 1000000 in
theorem rectin_1 {a b c d a1 b1 c1 d1 : Nat} (w : World) (ma : floatBits .mul .f64 a 4579160021118600988 = some a1) (mb : floatBits .mul .f64 b 4579160021118600988 = some b1) (mc : floatBits .mul .f64 c 4579160021118600988 = some c1) (md : floatBits .mul .f64 d 4579160021118600988 = some d1) :
    Calls Try.prog 54 #[.agg #[.float .f64 a, .float .f64 b, .float .f64 c, .float .f64 d], .int .i64 1] w fun e w' => e = .returned (.agg #[.float .f64 a1, .float .f64 b1, .float .f64 c1, .float .f64 d1]) ∧ Below w.heap.size w w' := by
  have ra := run_bin (P := Try.prog) .mul ma
  have rb := run_bin (P := Try.prog) .mul mb
  have rc := run_bin (P := Try.prog) .mul mc
  have rd := run_bin (P := Try.prog) .mul md
  clear ma mb mc md
  go_enter Try.func54, Try.ntmps54
  go_wp2_with (first
    | (go_at_call 67; refine (rect_exact a b c d _).mono ?_; rintro e w' ⟨rfl, rfl⟩)
    | (go_at_call 91; go_in)
    | (go_at_call 109; go_in)
    | (go_at_call 98; go_in)
    | (go_at_call 66; refine (told_exact _ (by first | exact rectAt_new _ _ _ _ _ _ _ (by simp) | exact (rectAt_new _ _ _ _ _ _ _ (by simp)).below (by repeat (first | exact Below.refl _ _ | refine bel_drew ?_ | refine bel_alloc _ ?_ | refine bel_drewN _ ?_ | refine bel_trans (by assumption) ?_ | refine bel_set _ _ (by simp) ?_)))).mono ?_; rintro e w' ⟨rfl, rfl⟩))
  exact bodyPost_ret (v := .agg #[.float .f64 a1, .float .f64 b1, .float .f64 c1, .float .f64 d1]) (by simp [results, Try.results54, go_sem]) rfl ⟨rfl, (by repeat (first | exact Below.refl _ _ | refine bel_drew ?_ | refine bel_alloc _ ?_ | refine bel_drewN _ ?_ | refine bel_trans (by assumption) ?_ | refine bel_set _ _ (by simp) ?_))⟩

theorem points_2 {f fp : Nat} (w : World) (h : floatBits .mul .f64 f 4628672035919596310 = some fp) :
    Calls Try.prog 52 #[.float .f64 f, .int .i64 2] w fun e w' => e = .returned (.float .f64 fp) ∧ w = w' := by
  have r := run_bin (P := Try.prog) .mul h
  clear h
  go_enter Try.func52, Try.ntmps52
  go_wp2_with (go_at_call 89; go_in)
  go_ret
  exact ⟨rfl, rfl⟩

set_option maxHeartbeats 1000000 in
theorem dimin_2 {x y x1 y1 : Nat} (w : World) (mx : floatBits .mul .f64 x 4585244884615137125 = some x1) (my : floatBits .mul .f64 y 4585244884615137125 = some y1) :
    Calls Try.prog 53 #[.agg #[.float .f64 x, .float .f64 y], .int .i64 2] w fun e w' => e = .returned (.agg #[.float .f64 x1, .float .f64 y1]) ∧ Below w.heap.size w w' := by
  have rx := run_bin (P := Try.prog) .mul mx
  have ry := run_bin (P := Try.prog) .mul my
  clear mx my
  go_enter Try.func53, Try.ntmps53
  go_wp2_with (first | (go_at_call 90; go_in) | (go_at_call 107; go_in))
  exact bodyPost_ret (v := .agg #[.float .f64 x1, .float .f64 y1]) (by simp [results, Try.results53, go_sem]) rfl ⟨rfl, (by repeat (first | exact Below.refl _ _ | refine bel_drew ?_ | refine bel_alloc _ ?_ | refine bel_drewN _ ?_ | refine bel_trans (by assumption) ?_ | refine bel_set _ _ (by simp) ?_))⟩

set_option maxHeartbeats 1000000 in
theorem rectin_2 {a b c d a1 b1 c1 d1 : Nat} (w : World) (ma : floatBits .mul .f64 a 4585244884615137125 = some a1) (mb : floatBits .mul .f64 b 4585244884615137125 = some b1) (mc : floatBits .mul .f64 c 4585244884615137125 = some c1) (md : floatBits .mul .f64 d 4585244884615137125 = some d1) :
    Calls Try.prog 54 #[.agg #[.float .f64 a, .float .f64 b, .float .f64 c, .float .f64 d], .int .i64 2] w fun e w' => e = .returned (.agg #[.float .f64 a1, .float .f64 b1, .float .f64 c1, .float .f64 d1]) ∧ Below w.heap.size w w' := by
  have ra := run_bin (P := Try.prog) .mul ma
  have rb := run_bin (P := Try.prog) .mul mb
  have rc := run_bin (P := Try.prog) .mul mc
  have rd := run_bin (P := Try.prog) .mul md
  clear ma mb mc md
  go_enter Try.func54, Try.ntmps54
  go_wp2_with (first
    | (go_at_call 67; refine (rect_exact a b c d _).mono ?_; rintro e w' ⟨rfl, rfl⟩)
    | (go_at_call 91; go_in)
    | (go_at_call 110; go_in)
    | (go_at_call 98; go_in)
    | (go_at_call 66; refine (told_exact _ (by first | exact rectAt_new _ _ _ _ _ _ _ (by simp) | exact (rectAt_new _ _ _ _ _ _ _ (by simp)).below (by repeat (first | exact Below.refl _ _ | refine bel_drew ?_ | refine bel_alloc _ ?_ | refine bel_drewN _ ?_ | refine bel_trans (by assumption) ?_ | refine bel_set _ _ (by simp) ?_)))).mono ?_; rintro e w' ⟨rfl, rfl⟩))
  exact bodyPost_ret (v := .agg #[.float .f64 a1, .float .f64 b1, .float .f64 c1, .float .f64 d1]) (by simp [results, Try.results54, go_sem]) rfl ⟨rfl, (by repeat (first | exact Below.refl _ _ | refine bel_drew ?_ | refine bel_alloc _ ?_ | refine bel_drewN _ ?_ | refine bel_trans (by assumption) ?_ | refine bel_set _ _ (by simp) ?_))⟩

theorem points_3 {f fp : Nat} (w : World) (h : floatBits .mul .f64 f 4613565473389991339 = some fp) :
    Calls Try.prog 52 #[.float .f64 f, .int .i64 3] w fun e w' => e = .returned (.float .f64 fp) ∧ w = w' := by
  have r := run_bin (P := Try.prog) .mul h
  clear h
  go_enter Try.func52, Try.ntmps52
  go_wp2_with (go_at_call 89; go_in)
  go_ret
  exact ⟨rfl, rfl⟩

set_option maxHeartbeats 1000000 in
theorem dimin_3 {x y x1 y1 : Nat} (w : World) (mx : floatBits .mul .f64 x 4600026699392084287 = some x1) (my : floatBits .mul .f64 y 4600026699392084287 = some y1) :
    Calls Try.prog 53 #[.agg #[.float .f64 x, .float .f64 y], .int .i64 3] w fun e w' => e = .returned (.agg #[.float .f64 x1, .float .f64 y1]) ∧ Below w.heap.size w w' := by
  have rx := run_bin (P := Try.prog) .mul mx
  have ry := run_bin (P := Try.prog) .mul my
  clear mx my
  go_enter Try.func53, Try.ntmps53
  go_wp2_with (first | (go_at_call 90; go_in) | (go_at_call 108; go_in))
  exact bodyPost_ret (v := .agg #[.float .f64 x1, .float .f64 y1]) (by simp [results, Try.results53, go_sem]) rfl ⟨rfl, (by repeat (first | exact Below.refl _ _ | refine bel_drew ?_ | refine bel_alloc _ ?_ | refine bel_drewN _ ?_ | refine bel_trans (by assumption) ?_ | refine bel_set _ _ (by simp) ?_))⟩

set_option maxHeartbeats 1000000 in
theorem rectin_3 {a b c d a1 b1 c1 d1 : Nat} (w : World) (ma : floatBits .mul .f64 a 4600026699392084287 = some a1) (mb : floatBits .mul .f64 b 4600026699392084287 = some b1) (mc : floatBits .mul .f64 c 4600026699392084287 = some c1) (md : floatBits .mul .f64 d 4600026699392084287 = some d1) :
    Calls Try.prog 54 #[.agg #[.float .f64 a, .float .f64 b, .float .f64 c, .float .f64 d], .int .i64 3] w fun e w' => e = .returned (.agg #[.float .f64 a1, .float .f64 b1, .float .f64 c1, .float .f64 d1]) ∧ Below w.heap.size w w' := by
  have ra := run_bin (P := Try.prog) .mul ma
  have rb := run_bin (P := Try.prog) .mul mb
  have rc := run_bin (P := Try.prog) .mul mc
  have rd := run_bin (P := Try.prog) .mul md
  clear ma mb mc md
  go_enter Try.func54, Try.ntmps54
  go_wp2_with (first
    | (go_at_call 67; refine (rect_exact a b c d _).mono ?_; rintro e w' ⟨rfl, rfl⟩)
    | (go_at_call 91; go_in)
    | (go_at_call 111; go_in)
    | (go_at_call 98; go_in)
    | (go_at_call 66; refine (told_exact _ (by first | exact rectAt_new _ _ _ _ _ _ _ (by simp) | exact (rectAt_new _ _ _ _ _ _ _ (by simp)).below (by repeat (first | exact Below.refl _ _ | refine bel_drew ?_ | refine bel_alloc _ ?_ | refine bel_drewN _ ?_ | refine bel_trans (by assumption) ?_ | refine bel_set _ _ (by simp) ?_)))).mono ?_; rintro e w' ⟨rfl, rfl⟩))
  exact bodyPost_ret (v := .agg #[.float .f64 a1, .float .f64 b1, .float .f64 c1, .float .f64 d1]) (by simp [results, Try.results54, go_sem]) rfl ⟨rfl, (by repeat (first | exact Below.refl _ _ | refine bel_drew ?_ | refine bel_alloc _ ?_ | refine bel_drewN _ ?_ | refine bel_trans (by assumption) ?_ | refine bel_set _ _ (by simp) ?_))⟩

set_option maxHeartbeats 4000000 in
theorem units_law_0 {f fp x y a b c d x2 y2 a2 b2 c2 d2 : Nat} (w : World) (hp : properB a b c d = true) (hs : [f, x, y].all smallB = true) (g0 : floatBits .mul .f64 f 4607182418800017408 = some fp)
     (qx : floatBits .quo .f64 x 4607182418800017408 = some x2) (qy : floatBits .quo .f64 y 4607182418800017408 = some y2) (qa : floatBits .quo .f64 a 4607182418800017408 = some a2) (qb : floatBits .quo .f64 b 4607182418800017408 = some b2) (qc : floatBits .quo .f64 c 4607182418800017408 = some c2) (qd : floatBits .quo .f64 d 4607182418800017408 = some d2)
    (N0 : NearT f fp) (Nx : NearT x x2) (Ny : NearT y y2) (Na : NearT a a2) (Nb : NearT b b2) (Nc : NearT c c2) (Nd : NearT d d2) :
    Calls Try.prog 18 #[.float .f64 f, .agg #[.float .f64 x, .float .f64 y], .agg #[.float .f64 a, .float .f64 b, .float .f64 c, .float .f64 d], .int .i64 0] w fun e w' => e = .returned (.bool true) ∧ Below w.heap.size w w' := by
  have HP := Lib.hid hp
  have HS := Lib.hid hs
  have C0 := Lib.hid (fun W => points_0 (f := f) W )
  have C1 := Lib.hid (fun W => dimin_0 (x := x) (y := y) W )
  have C2 := Lib.hid (fun W => rectin_0 (a := a) (b := b) (c := c) (d := d) W )
  have HN := Lib.hid N0
  have HX := Lib.hid Nx
  have HY := Lib.hid Ny
  have HA := Lib.hid Na
  have HB := Lib.hid Nb
  have HC := Lib.hid Nc
  have HD := Lib.hid Nd
  have r0 := run_bin (P := Try.prog) .mul g0
  have rx := run_bin (P := Try.prog) .quo qx
  have ry := run_bin (P := Try.prog) .quo qy
  have ra := run_bin (P := Try.prog) .quo qa
  have rb := run_bin (P := Try.prog) .quo qb
  have rc := run_bin (P := Try.prog) .quo qc
  have rd := run_bin (P := Try.prog) .quo qd
  clear hp hs g0 qx qy qa qb qc qd N0 Nx Ny Na Nb Nc Nd
  go_enter Try.func18, Try.ntmps18
  go_wp2_with (first
    | (go_at_call 22; refine (small_at [f, x, y] true _ _ (by simp) HS.out (by simp)).mono ?_; rintro e w' ⟨rfl, rfl⟩)
    | (go_at_call 28; refine (proper_any a b c d true _ HP.out).mono ?_; rintro e w' ⟨rfl, rfl⟩)
    | (go_at_call 51; go_in))
  go_region_held3 (fun w' => (Below w.heap.size w w' ∧ w.heap.size + 1 < w'.heap.size ∧ w'.cell? ⟨w.heap.size + 1, 0, none⟩ = some (.float .f64 a) ∧ w'.cell? ⟨w.heap.size + 1, 1, none⟩ = some (.float .f64 b) ∧ w'.cell? ⟨w.heap.size + 1, 2, none⟩ = some (.float .f64 c) ∧ w'.cell? ⟨w.heap.size + 1, 3, none⟩ = some (.float .f64 d)) ∧ (w.heap.size < w'.heap.size ∧ w'.cell? ⟨w.heap.size, 0, none⟩ = some (.float .f64 x) ∧ w'.cell? ⟨w.heap.size, 1, none⟩ = some (.float .f64 y)))
    (first | assumption | exact keep42 (by assumption) (by assumption) | (repeat (first | exact kept42_pre _ _ _ _ _ _ _ _ _ | refine kept42_drew ?_ | refine kept42_alloc _ ?_)))
    (first
      | (go_at_call 52; refine (C0.out _).mono ?_; rintro e w' ⟨rfl, rfl⟩)
      | (go_at_call 24; refine (HN.out _).mono ?_; rintro e w' ⟨rfl, rfl⟩)
      | (go_at_call 53; refine (C1.out _).mono ?_; rintro e w' ⟨rfl, hb⟩)
      | (go_at_call 26; refine (nearpair_b _ _ _ _ _ HX.out HY.out).mono ?_; rintro e w' ⟨rfl, hb⟩)
      | (go_at_call 54; refine (C2.out _).mono ?_; rintro e w' ⟨rfl, hb⟩)
      | (go_at_call 29; refine (nearrect_b _ _ _ _ _ _ _ _ _ HA.out HB.out HC.out HD.out).mono ?_; rintro e w' ⟨rfl, hb⟩))
  rename_i hh
  go_wp2
  go_ret
  exact ⟨rfl, hh.1.1⟩

set_option maxHeartbeats 4000000 in
theorem units_law_1 {f fp x y a b c d x2 y2 a2 b2 c2 d2 x1 y1 a1 b1 c1 d1 : Nat} (w : World) (hp : properB a b c d = true) (hs : [f, x, y].all smallB = true) (g0 : floatBits .mul .f64 f 4634766966517661696 = some fp)
    (mx : floatBits .mul .f64 x 4579160021118600988 = some x1) (my : floatBits .mul .f64 y 4579160021118600988 = some y1) (ma : floatBits .mul .f64 a 4579160021118600988 = some a1) (mb : floatBits .mul .f64 b 4579160021118600988 = some b1) (mc : floatBits .mul .f64 c 4579160021118600988 = some c1) (md : floatBits .mul .f64 d 4579160021118600988 = some d1) (qx : floatBits .quo .f64 x 4634766966517661696 = some x2) (qy : floatBits .quo .f64 y 4634766966517661696 = some y2) (qa : floatBits .quo .f64 a 4634766966517661696 = some a2) (qb : floatBits .quo .f64 b 4634766966517661696 = some b2) (qc : floatBits .quo .f64 c 4634766966517661696 = some c2) (qd : floatBits .quo .f64 d 4634766966517661696 = some d2)
    (N0 : NearT fp fp) (Nx : NearT x1 x2) (Ny : NearT y1 y2) (Na : NearT a1 a2) (Nb : NearT b1 b2) (Nc : NearT c1 c2) (Nd : NearT d1 d2) :
    Calls Try.prog 18 #[.float .f64 f, .agg #[.float .f64 x, .float .f64 y], .agg #[.float .f64 a, .float .f64 b, .float .f64 c, .float .f64 d], .int .i64 1] w fun e w' => e = .returned (.bool true) ∧ Below w.heap.size w w' := by
  have HP := Lib.hid hp
  have HS := Lib.hid hs
  have C0 := Lib.hid (fun W => points_1  W g0)
  have C1 := Lib.hid (fun W => dimin_1  W mx my)
  have C2 := Lib.hid (fun W => rectin_1  W ma mb mc md)
  have HN := Lib.hid N0
  have HX := Lib.hid Nx
  have HY := Lib.hid Ny
  have HA := Lib.hid Na
  have HB := Lib.hid Nb
  have HC := Lib.hid Nc
  have HD := Lib.hid Nd
  have r0 := run_bin (P := Try.prog) .mul g0
  have rx := run_bin (P := Try.prog) .quo qx
  have ry := run_bin (P := Try.prog) .quo qy
  have ra := run_bin (P := Try.prog) .quo qa
  have rb := run_bin (P := Try.prog) .quo qb
  have rc := run_bin (P := Try.prog) .quo qc
  have rd := run_bin (P := Try.prog) .quo qd
  clear hp hs g0 qx qy qa qb qc qd N0 Nx Ny Na Nb Nc Nd mx my ma mb mc md
  go_enter Try.func18, Try.ntmps18
  go_wp2_with (first
    | (go_at_call 22; refine (small_at [f, x, y] true _ _ (by simp) HS.out (by simp)).mono ?_; rintro e w' ⟨rfl, rfl⟩)
    | (go_at_call 28; refine (proper_any a b c d true _ HP.out).mono ?_; rintro e w' ⟨rfl, rfl⟩)
    | (go_at_call 51; go_in))
  go_region_held3 (fun w' => (Below w.heap.size w w' ∧ w.heap.size + 1 < w'.heap.size ∧ w'.cell? ⟨w.heap.size + 1, 0, none⟩ = some (.float .f64 a) ∧ w'.cell? ⟨w.heap.size + 1, 1, none⟩ = some (.float .f64 b) ∧ w'.cell? ⟨w.heap.size + 1, 2, none⟩ = some (.float .f64 c) ∧ w'.cell? ⟨w.heap.size + 1, 3, none⟩ = some (.float .f64 d)) ∧ (w.heap.size < w'.heap.size ∧ w'.cell? ⟨w.heap.size, 0, none⟩ = some (.float .f64 x) ∧ w'.cell? ⟨w.heap.size, 1, none⟩ = some (.float .f64 y)))
    (first | assumption | exact keep42 (by assumption) (by assumption) | (repeat (first | exact kept42_pre _ _ _ _ _ _ _ _ _ | refine kept42_drew ?_ | refine kept42_alloc _ ?_)))
    (first
      | (go_at_call 52; refine (C0.out _).mono ?_; rintro e w' ⟨rfl, rfl⟩)
      | (go_at_call 24; refine (HN.out _).mono ?_; rintro e w' ⟨rfl, rfl⟩)
      | (go_at_call 53; refine (C1.out _).mono ?_; rintro e w' ⟨rfl, hb⟩)
      | (go_at_call 26; refine (nearpair_b _ _ _ _ _ HX.out HY.out).mono ?_; rintro e w' ⟨rfl, hb⟩)
      | (go_at_call 54; refine (C2.out _).mono ?_; rintro e w' ⟨rfl, hb⟩)
      | (go_at_call 29; refine (nearrect_b _ _ _ _ _ _ _ _ _ HA.out HB.out HC.out HD.out).mono ?_; rintro e w' ⟨rfl, hb⟩))
  rename_i hh
  go_wp2
  go_ret
  exact ⟨rfl, hh.1.1⟩

set_option maxHeartbeats 4000000 in
theorem units_law_2 {f fp x y a b c d x2 y2 a2 b2 c2 d2 x1 y1 a1 b1 c1 d1 : Nat} (w : World) (hp : properB a b c d = true) (hs : [f, x, y].all smallB = true) (g0 : floatBits .mul .f64 f 4628672035919596310 = some fp)
    (mx : floatBits .mul .f64 x 4585244884615137125 = some x1) (my : floatBits .mul .f64 y 4585244884615137125 = some y1) (ma : floatBits .mul .f64 a 4585244884615137125 = some a1) (mb : floatBits .mul .f64 b 4585244884615137125 = some b1) (mc : floatBits .mul .f64 c 4585244884615137125 = some c1) (md : floatBits .mul .f64 d 4585244884615137125 = some d1) (qx : floatBits .quo .f64 x 4628672035919596310 = some x2) (qy : floatBits .quo .f64 y 4628672035919596310 = some y2) (qa : floatBits .quo .f64 a 4628672035919596310 = some a2) (qb : floatBits .quo .f64 b 4628672035919596310 = some b2) (qc : floatBits .quo .f64 c 4628672035919596310 = some c2) (qd : floatBits .quo .f64 d 4628672035919596310 = some d2)
    (N0 : NearT fp fp) (Nx : NearT x1 x2) (Ny : NearT y1 y2) (Na : NearT a1 a2) (Nb : NearT b1 b2) (Nc : NearT c1 c2) (Nd : NearT d1 d2) :
    Calls Try.prog 18 #[.float .f64 f, .agg #[.float .f64 x, .float .f64 y], .agg #[.float .f64 a, .float .f64 b, .float .f64 c, .float .f64 d], .int .i64 2] w fun e w' => e = .returned (.bool true) ∧ Below w.heap.size w w' := by
  have HP := Lib.hid hp
  have HS := Lib.hid hs
  have C0 := Lib.hid (fun W => points_2  W g0)
  have C1 := Lib.hid (fun W => dimin_2  W mx my)
  have C2 := Lib.hid (fun W => rectin_2  W ma mb mc md)
  have HN := Lib.hid N0
  have HX := Lib.hid Nx
  have HY := Lib.hid Ny
  have HA := Lib.hid Na
  have HB := Lib.hid Nb
  have HC := Lib.hid Nc
  have HD := Lib.hid Nd
  have r0 := run_bin (P := Try.prog) .mul g0
  have rx := run_bin (P := Try.prog) .quo qx
  have ry := run_bin (P := Try.prog) .quo qy
  have ra := run_bin (P := Try.prog) .quo qa
  have rb := run_bin (P := Try.prog) .quo qb
  have rc := run_bin (P := Try.prog) .quo qc
  have rd := run_bin (P := Try.prog) .quo qd
  clear hp hs g0 qx qy qa qb qc qd N0 Nx Ny Na Nb Nc Nd mx my ma mb mc md
  go_enter Try.func18, Try.ntmps18
  go_wp2_with (first
    | (go_at_call 22; refine (small_at [f, x, y] true _ _ (by simp) HS.out (by simp)).mono ?_; rintro e w' ⟨rfl, rfl⟩)
    | (go_at_call 28; refine (proper_any a b c d true _ HP.out).mono ?_; rintro e w' ⟨rfl, rfl⟩)
    | (go_at_call 51; go_in))
  go_region_held3 (fun w' => (Below w.heap.size w w' ∧ w.heap.size + 1 < w'.heap.size ∧ w'.cell? ⟨w.heap.size + 1, 0, none⟩ = some (.float .f64 a) ∧ w'.cell? ⟨w.heap.size + 1, 1, none⟩ = some (.float .f64 b) ∧ w'.cell? ⟨w.heap.size + 1, 2, none⟩ = some (.float .f64 c) ∧ w'.cell? ⟨w.heap.size + 1, 3, none⟩ = some (.float .f64 d)) ∧ (w.heap.size < w'.heap.size ∧ w'.cell? ⟨w.heap.size, 0, none⟩ = some (.float .f64 x) ∧ w'.cell? ⟨w.heap.size, 1, none⟩ = some (.float .f64 y)))
    (first | assumption | exact keep42 (by assumption) (by assumption) | (repeat (first | exact kept42_pre _ _ _ _ _ _ _ _ _ | refine kept42_drew ?_ | refine kept42_alloc _ ?_)))
    (first
      | (go_at_call 52; refine (C0.out _).mono ?_; rintro e w' ⟨rfl, rfl⟩)
      | (go_at_call 24; refine (HN.out _).mono ?_; rintro e w' ⟨rfl, rfl⟩)
      | (go_at_call 53; refine (C1.out _).mono ?_; rintro e w' ⟨rfl, hb⟩)
      | (go_at_call 26; refine (nearpair_b _ _ _ _ _ HX.out HY.out).mono ?_; rintro e w' ⟨rfl, hb⟩)
      | (go_at_call 54; refine (C2.out _).mono ?_; rintro e w' ⟨rfl, hb⟩)
      | (go_at_call 29; refine (nearrect_b _ _ _ _ _ _ _ _ _ HA.out HB.out HC.out HD.out).mono ?_; rintro e w' ⟨rfl, hb⟩))
  rename_i hh
  go_wp2
  go_ret
  exact ⟨rfl, hh.1.1⟩

set_option maxHeartbeats 4000000 in
theorem units_law_3 {f fp x y a b c d x2 y2 a2 b2 c2 d2 x1 y1 a1 b1 c1 d1 : Nat} (w : World) (hp : properB a b c d = true) (hs : [f, x, y].all smallB = true) (g0 : floatBits .mul .f64 f 4613565473389991339 = some fp)
    (mx : floatBits .mul .f64 x 4600026699392084287 = some x1) (my : floatBits .mul .f64 y 4600026699392084287 = some y1) (ma : floatBits .mul .f64 a 4600026699392084287 = some a1) (mb : floatBits .mul .f64 b 4600026699392084287 = some b1) (mc : floatBits .mul .f64 c 4600026699392084287 = some c1) (md : floatBits .mul .f64 d 4600026699392084287 = some d1) (qx : floatBits .quo .f64 x 4613565473389991339 = some x2) (qy : floatBits .quo .f64 y 4613565473389991339 = some y2) (qa : floatBits .quo .f64 a 4613565473389991339 = some a2) (qb : floatBits .quo .f64 b 4613565473389991339 = some b2) (qc : floatBits .quo .f64 c 4613565473389991339 = some c2) (qd : floatBits .quo .f64 d 4613565473389991339 = some d2)
    (N0 : NearT fp fp) (Nx : NearT x1 x2) (Ny : NearT y1 y2) (Na : NearT a1 a2) (Nb : NearT b1 b2) (Nc : NearT c1 c2) (Nd : NearT d1 d2) :
    Calls Try.prog 18 #[.float .f64 f, .agg #[.float .f64 x, .float .f64 y], .agg #[.float .f64 a, .float .f64 b, .float .f64 c, .float .f64 d], .int .i64 3] w fun e w' => e = .returned (.bool true) ∧ Below w.heap.size w w' := by
  have HP := Lib.hid hp
  have HS := Lib.hid hs
  have C0 := Lib.hid (fun W => points_3  W g0)
  have C1 := Lib.hid (fun W => dimin_3  W mx my)
  have C2 := Lib.hid (fun W => rectin_3  W ma mb mc md)
  have HN := Lib.hid N0
  have HX := Lib.hid Nx
  have HY := Lib.hid Ny
  have HA := Lib.hid Na
  have HB := Lib.hid Nb
  have HC := Lib.hid Nc
  have HD := Lib.hid Nd
  have r0 := run_bin (P := Try.prog) .mul g0
  have rx := run_bin (P := Try.prog) .quo qx
  have ry := run_bin (P := Try.prog) .quo qy
  have ra := run_bin (P := Try.prog) .quo qa
  have rb := run_bin (P := Try.prog) .quo qb
  have rc := run_bin (P := Try.prog) .quo qc
  have rd := run_bin (P := Try.prog) .quo qd
  clear hp hs g0 qx qy qa qb qc qd N0 Nx Ny Na Nb Nc Nd mx my ma mb mc md
  go_enter Try.func18, Try.ntmps18
  go_wp2_with (first
    | (go_at_call 22; refine (small_at [f, x, y] true _ _ (by simp) HS.out (by simp)).mono ?_; rintro e w' ⟨rfl, rfl⟩)
    | (go_at_call 28; refine (proper_any a b c d true _ HP.out).mono ?_; rintro e w' ⟨rfl, rfl⟩)
    | (go_at_call 51; go_in))
  go_region_held3 (fun w' => (Below w.heap.size w w' ∧ w.heap.size + 1 < w'.heap.size ∧ w'.cell? ⟨w.heap.size + 1, 0, none⟩ = some (.float .f64 a) ∧ w'.cell? ⟨w.heap.size + 1, 1, none⟩ = some (.float .f64 b) ∧ w'.cell? ⟨w.heap.size + 1, 2, none⟩ = some (.float .f64 c) ∧ w'.cell? ⟨w.heap.size + 1, 3, none⟩ = some (.float .f64 d)) ∧ (w.heap.size < w'.heap.size ∧ w'.cell? ⟨w.heap.size, 0, none⟩ = some (.float .f64 x) ∧ w'.cell? ⟨w.heap.size, 1, none⟩ = some (.float .f64 y)))
    (first | assumption | exact keep42 (by assumption) (by assumption) | (repeat (first | exact kept42_pre _ _ _ _ _ _ _ _ _ | refine kept42_drew ?_ | refine kept42_alloc _ ?_)))
    (first
      | (go_at_call 52; refine (C0.out _).mono ?_; rintro e w' ⟨rfl, rfl⟩)
      | (go_at_call 24; refine (HN.out _).mono ?_; rintro e w' ⟨rfl, rfl⟩)
      | (go_at_call 53; refine (C1.out _).mono ?_; rintro e w' ⟨rfl, hb⟩)
      | (go_at_call 26; refine (nearpair_b _ _ _ _ _ HX.out HY.out).mono ?_; rintro e w' ⟨rfl, hb⟩)
      | (go_at_call 54; refine (C2.out _).mono ?_; rintro e w' ⟨rfl, hb⟩)
      | (go_at_call 29; refine (nearrect_b _ _ _ _ _ _ _ _ _ HA.out HB.out HC.out HD.out).mono ?_; rintro e w' ⟨rfl, hb⟩))
  rename_i hh
  go_wp2
  go_ret
  exact ⟨rfl, hh.1.1⟩

end Go.Proofs.Ytooghncdhjdcpaa
