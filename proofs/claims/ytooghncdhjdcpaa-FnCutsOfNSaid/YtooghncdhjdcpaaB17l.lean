/-
The law FnCutsOfN: the functions of its way, and its own, walked. Conditions: the words of the page's ratio.
-/
import Derived.Test.YtooghncdhjdcpaaB17
import Derived.Test.YtooghncdhjdcpaaB17s
import Derived.BigQuiet
import Derived.Deep.QuietTactic
namespace Go.Proofs.Ytooghncdhjdcpaa
open Go.RowKit Fl

theorem cell_first (w : World) (cs : Array Value) (t : TypeId) (o2 o3 : Obj) (i : Nat) (v : Value) (h : cs[i]? = some v) : (((w.alloc (.cells cs t)).alloc o2).alloc o3).cell? ⟨w.heap.size, i, none⟩ = some v := by
  rw [(below1 _ o3).cell (p := ⟨w.heap.size, i, none⟩) (by simp <;> omega), (below1 _ o2).cell (p := ⟨w.heap.size, i, none⟩) (by simp), cell_alloc_at]
  exact h
theorem cell_second (w : World) (cs : Array Value) (t : TypeId) (o1 o3 : Obj) (i : Nat) (v : Value) (h : cs[i]? = some v) : (((w.alloc o1).alloc (.cells cs t)).alloc o3).cell? ⟨w.heap.size + 1, i, none⟩ = some v := by
  rw [(below1 _ o3).cell (p := ⟨w.heap.size + 1, i, none⟩) (by simp), show w.heap.size + 1 = (w.alloc o1).heap.size by simp, cell_alloc_at]
  exact h
/-- What createNDownCuts does at a page. -/
def Does (n : Int) (x y : Nat) (L1 L2 : List Nat) : Prop := ∀ (W : World) (g : Nat), RectAt W g 0 0 x y → Calls Try.prog 105 #[.int .i64 n, .pointer (some ⟨g, 0, none⟩)] W (Cuts L1 L2 W .nilIface)

theorem zz_any {n : Int} {x y : Nat} {L1 L2 : List Nat} (h : Does n x y L1 L2) (g : Nat) (w : World) (hr : RectAt w g 0 0 x y) : Calls Try.prog 87 #[.int .i64 n, .pointer (some ⟨g, 0, none⟩)] w (Cuts L1 L2 w .nilIface) := by
  have H := Lib.hid h
  have HR := Lib.hid hr
  clear h hr
  go_enter Try.func87, Try.ntmps87
  go_wp2_with (go_at_call 105; refine (H.out _ g HR.out).mono ?_; rintro e w1 ⟨p, q, c1, c2, rfl, hp, hq, hb⟩; have HP := Lib.hid hp; have HQ := Lib.hid hq; clear hp hq)
  exact bodyPost_ret (v := .tuple #[.slice (some ⟨p, 0, none⟩) L1.length c1, .slice (some ⟨q, 0, none⟩) L2.length c2, .nilIface]) (by simp [results, Try.results87, go_sem]) rfl ⟨_, _, _, _, rfl, HP.out, HQ.out, hb⟩

theorem cuts_any {n : Int} {x y : Nat} {L1 L2 : List Nat} (h : Does n x y L1 L2) (w : World) : Calls Try.prog 49 #[.int .i64 n, .float .f64 x, .float .f64 y] w (Cuts L1 L2 w (.bool true)) := by
  have H := Lib.hid h
  have HR := Lib.hid (rectAt_new w w.heap.size 0 0 x y 157 rfl)
  clear h
  go_enter Try.func49, Try.ntmps49
  go_wp2_with (first | (go_at_call 88; go_in) | (go_at_call 98; go_in) | (go_at_call 87; refine (zz_any H.out _ _ HR.out).mono ?_; rintro e w1 ⟨p, q, c1, c2, rfl, hp, hq, hb⟩; have HP := Lib.hid hp; have HQ := Lib.hid hq; have HB : Hid (Below w.heap.size w w1) := Lib.hid ((below1 w _).trans (hb.mono (by simp))); clear hp hq hb))
  go_quiet (fail)
  go_wp2_with fail
  have hd : Below w1.heap.size w1 (w1.drewN nq) := Joins.below_draws _ _ _
  exact bodyPost_ret (v := .tuple #[.slice (some ⟨p, 0, none⟩) L1.length c1, .slice (some ⟨q, 0, none⟩) L2.length c2, .bool true]) (by simp [results, Try.results49, go_sem]) rfl ⟨_, _, _, _, rfl, HP.out.below hd, HQ.out.below hd, bel_trans hd HB.out⟩

set_option maxHeartbeats 4000000 in
/-- Where the law does not ask. -/
theorem cutsn_far (k : Int) (x y : Nat) (w : World) (h : k < 0 ∨ 8 ≤ k ∨ [x, y].all smallB = false ∨ (FloatKind.f64.format.order x 4607182418800017408 == some Ordering.lt) = true ∨ (FloatKind.f64.format.order y 4607182418800017408 == some Ordering.lt) = true ∨ (FloatKind.f64.format.order x y == some Ordering.eq) = true) :
    Calls Try.prog 17 #[.int .i64 k, .float .f64 x, .float .f64 y] w fun e w' => e = .returned (.bool true) ∧ Below w.heap.size w w' := by
  by_cases h1 : k < 0
  · have d1 : decide (k < 0) = true := by simpa using h1
    clear h
    go_enter Try.func17, Try.ntmps17
    go_wp2_with fail
    go_ret
    exact ⟨rfl, below2 _ _ _⟩
  have d1 : decide (k < 0) = false := by simpa using h1
  by_cases h2 : 8 ≤ k
  · have d2 : decide (8 ≤ k) = true := by simpa using h2
    clear h
    go_enter Try.func17, Try.ntmps17
    go_wp2_with fail
    go_ret
    exact ⟨rfl, below2 _ _ _⟩
  have d2 : decide (8 ≤ k) = false := by simpa using h2
  cases h3 : [x, y].all smallB
  · have HS := Lib.hid h3
    clear h h3
    go_enter Try.func17, Try.ntmps17
    go_wp2_with (go_at_call 22; refine (small_at [x, y] false _ _ (by simp) HS.out (by simp)).mono ?_; rintro e w' ⟨rfl, rfl⟩)
    go_ret
    exact ⟨rfl, below3 _ _ _ _⟩
  have HS := Lib.hid h3
  rw [h3] at h
  clear h3
  have h : (FloatKind.f64.format.order x 4607182418800017408 == some Ordering.lt) = true ∨ (FloatKind.f64.format.order y 4607182418800017408 == some Ordering.lt) = true ∨ (FloatKind.f64.format.order x y == some Ordering.eq) = true := by
    rcases h with h | h | h | h
    · exact absurd h h1
    · exact absurd h h2
    · cases h
    · exact h
  rcases Bool.eq_false_or_eq_true (FloatKind.f64.format.order x 4607182418800017408 == some Ordering.lt) with f1 | f1
  · clear h
    go_enter Try.func17, Try.ntmps17
    go_wp2_with (go_at_call 22; refine (small_at [x, y] true _ _ (by simp) HS.out (by simp)).mono ?_; rintro e w' ⟨rfl, rfl⟩)
    go_ret
    exact ⟨rfl, below3 _ _ _ _⟩
  rcases Bool.eq_false_or_eq_true (FloatKind.f64.format.order y 4607182418800017408 == some Ordering.lt) with f2 | f2
  · clear h
    go_enter Try.func17, Try.ntmps17
    go_wp2_with (go_at_call 22; refine (small_at [x, y] true _ _ (by simp) HS.out (by simp)).mono ?_; rintro e w' ⟨rfl, rfl⟩)
    go_ret
    exact ⟨rfl, below3 _ _ _ _⟩
  have f3 : (FloatKind.f64.format.order x y == some Ordering.eq) = true := by
    rcases h with h | h | h
    · rw [f1] at h; cases h
    · rw [f2] at h; cases h
    · exact h
  clear h
  go_enter Try.func17, Try.ntmps17
  go_wp2_with (go_at_call 22; refine (small_at [x, y] true _ _ (by simp) HS.out (by simp)).mono ?_; rintro e w' ⟨rfl, rfl⟩)
  go_ret
  exact ⟨rfl, below3 _ _ _ _⟩

set_option maxRecDepth 100000 in
set_option maxHeartbeats 2000000 in
theorem cutsn_2_t (x y : Nat) (w : World) (hd : Does 2 x y [0, 4602678819172646912] [0]) (h3 : [x, y].all smallB = true) (f1 : (FloatKind.f64.format.order x 4607182418800017408 == some Ordering.lt) = false) (f2 : (FloatKind.f64.format.order y 4607182418800017408 == some Ordering.lt) = false) (f3 : (FloatKind.f64.format.order x y == some Ordering.eq) = false) (f4 : (FloatKind.f64.format.order x y == some Ordering.gt) = false) :
    Calls Try.prog 17 #[.int .i64 0, .float .f64 x, .float .f64 y] w fun e w' => e = .returned (.bool true) ∧ Below w.heap.size w w' := by
  have HS := Lib.hid h3
  have HD := Lib.hid hd
  clear h3 hd
  go_enter Try.func17, Try.ntmps17
  go_wp2_with (first | (go_at_call 22; refine (small_at [x, y] true _ _ (by simp) HS.out (by simp)).mono ?_; rintro e w' ⟨rfl, rfl⟩) | (go_at_call 49; refine (cuts_any HD.out _).mono ?_; rintro e w1 ⟨p, q, c1, c2, rfl, hp, hq, hb⟩; have HP := Lib.hid hp; have HQ := Lib.hid hq; have HB : Hid (Below w.heap.size w w1) := Lib.hid ((below3 w _ _ _).trans (hb.mono (by simp <;> omega))); obtain ⟨bc, bf⟩ := bcell hb; clear hp hq hb))
  have k7 : w1.cell? ⟨w.heap.size, 0, none⟩ = some (.int .i64 2) := by rw [bc _ _ (by simp <;> omega)]; exact cell_first _ _ _ _ _ _ _ rfl
  have k8 : w1.cell? ⟨w.heap.size + 1, 0, none⟩ = some (.int .i64 2) := by rw [bc _ _ (by simp <;> omega)]; exact cell_second _ _ _ _ _ _ _ rfl
  clear bc bf
  go_quiet (fail)
  have hdr : Below w1.heap.size w1 (w1.drewN nq) := Joins.below_draws _ _ _
  have P2 := Lib.hid (HP.out.below hdr)
  have Q2 := Lib.hid (HQ.out.below hdr)
  have B2 : Hid (Below w.heap.size w (w1.drewN nq)) := Lib.hid (bel_trans hdr HB.out)
  have S1 := Lib.hid (steps_at [0, 4602678819172646912] 2 2 rfl rfl p c1 _ (by decide) P2.out.2 step2)
  have S2 := Lib.hid (steps_at [0] 1 1 rfl rfl q c2 _ (by decide) Q2.out.2 step1)
  clear hdr HP HQ HB k7 k8
  go_wp2_with (first | (go_at_call 50; (with_reducible refine S1.out.mono ?_); rintro e w' ⟨rfl, rfl⟩) | (go_at_call 50; (with_reducible refine S2.out.mono ?_); rintro e w' ⟨rfl, rfl⟩))
  go_ret
  exact ⟨rfl, B2.out⟩

set_option maxRecDepth 100000 in
set_option maxHeartbeats 2000000 in
theorem cutsn_2_f (x y : Nat) (w : World) (hd : Does 2 x y [0] [0, 4602678819172646912]) (h3 : [x, y].all smallB = true) (f1 : (FloatKind.f64.format.order x 4607182418800017408 == some Ordering.lt) = false) (f2 : (FloatKind.f64.format.order y 4607182418800017408 == some Ordering.lt) = false) (f3 : (FloatKind.f64.format.order x y == some Ordering.eq) = false) (f4 : (FloatKind.f64.format.order x y == some Ordering.gt) = true) :
    Calls Try.prog 17 #[.int .i64 0, .float .f64 x, .float .f64 y] w fun e w' => e = .returned (.bool true) ∧ Below w.heap.size w w' := by
  have HS := Lib.hid h3
  have HD := Lib.hid hd
  clear h3 hd
  go_enter Try.func17, Try.ntmps17
  go_wp2_with (first | (go_at_call 22; refine (small_at [x, y] true _ _ (by simp) HS.out (by simp)).mono ?_; rintro e w' ⟨rfl, rfl⟩) | (go_at_call 49; refine (cuts_any HD.out _).mono ?_; rintro e w1 ⟨p, q, c1, c2, rfl, hp, hq, hb⟩; have HP := Lib.hid hp; have HQ := Lib.hid hq; have HB : Hid (Below w.heap.size w w1) := Lib.hid ((below3 w _ _ _).trans (hb.mono (by simp <;> omega))); obtain ⟨bc, bf⟩ := bcell hb; clear hp hq hb))
  have k7 : w1.cell? ⟨w.heap.size, 0, none⟩ = some (.int .i64 2) := by rw [bc _ _ (by simp <;> omega)]; exact cell_first _ _ _ _ _ _ _ rfl
  have k8 : w1.cell? ⟨w.heap.size + 1, 0, none⟩ = some (.int .i64 2) := by rw [bc _ _ (by simp <;> omega)]; exact cell_second _ _ _ _ _ _ _ rfl
  clear bc bf
  go_quiet (fail)
  have hdr : Below w1.heap.size w1 (w1.drewN nq) := Joins.below_draws _ _ _
  have P2 := Lib.hid (HP.out.below hdr)
  have Q2 := Lib.hid (HQ.out.below hdr)
  have B2 : Hid (Below w.heap.size w (w1.drewN nq)) := Lib.hid (bel_trans hdr HB.out)
  have S1 := Lib.hid (steps_at [0] 1 1 rfl rfl p c1 _ (by decide) P2.out.2 step1)
  have S2 := Lib.hid (steps_at [0, 4602678819172646912] 2 2 rfl rfl q c2 _ (by decide) Q2.out.2 step2)
  clear hdr HP HQ HB k7 k8
  go_wp2_with (first | (go_at_call 50; (with_reducible refine S1.out.mono ?_); rintro e w' ⟨rfl, rfl⟩) | (go_at_call 50; (with_reducible refine S2.out.mono ?_); rintro e w' ⟨rfl, rfl⟩))
  go_ret
  exact ⟨rfl, B2.out⟩

set_option maxRecDepth 100000 in
set_option maxHeartbeats 2000000 in
theorem cutsn_3_t (x y : Nat) (w : World) (hd : Does 3 x y [0, 4599676359373071550, 4604179959000442046] [0]) (h3 : [x, y].all smallB = true) (f1 : (FloatKind.f64.format.order x 4607182418800017408 == some Ordering.lt) = false) (f2 : (FloatKind.f64.format.order y 4607182418800017408 == some Ordering.lt) = false) (f3 : (FloatKind.f64.format.order x y == some Ordering.eq) = false) (f4 : (FloatKind.f64.format.order x y == some Ordering.gt) = false) :
    Calls Try.prog 17 #[.int .i64 1, .float .f64 x, .float .f64 y] w fun e w' => e = .returned (.bool true) ∧ Below w.heap.size w w' := by
  have HS := Lib.hid h3
  have HD := Lib.hid hd
  clear h3 hd
  go_enter Try.func17, Try.ntmps17
  go_wp2_with (first | (go_at_call 22; refine (small_at [x, y] true _ _ (by simp) HS.out (by simp)).mono ?_; rintro e w' ⟨rfl, rfl⟩) | (go_at_call 49; refine (cuts_any HD.out _).mono ?_; rintro e w1 ⟨p, q, c1, c2, rfl, hp, hq, hb⟩; have HP := Lib.hid hp; have HQ := Lib.hid hq; have HB : Hid (Below w.heap.size w w1) := Lib.hid ((below3 w _ _ _).trans (hb.mono (by simp <;> omega))); obtain ⟨bc, bf⟩ := bcell hb; clear hp hq hb))
  have k7 : w1.cell? ⟨w.heap.size, 1, none⟩ = some (.int .i64 3) := by rw [bc _ _ (by simp <;> omega)]; exact cell_first _ _ _ _ _ _ _ rfl
  have k8 : w1.cell? ⟨w.heap.size + 1, 1, none⟩ = some (.int .i64 3) := by rw [bc _ _ (by simp <;> omega)]; exact cell_second _ _ _ _ _ _ _ rfl
  clear bc bf
  go_quiet (fail)
  have hdr : Below w1.heap.size w1 (w1.drewN nq) := Joins.below_draws _ _ _
  have P2 := Lib.hid (HP.out.below hdr)
  have Q2 := Lib.hid (HQ.out.below hdr)
  have B2 : Hid (Below w.heap.size w (w1.drewN nq)) := Lib.hid (bel_trans hdr HB.out)
  have S1 := Lib.hid (steps_at [0, 4599676359373071550, 4604179959000442046] 3 3 rfl rfl p c1 _ (by decide) P2.out.2 step3)
  have S2 := Lib.hid (steps_at [0] 1 1 rfl rfl q c2 _ (by decide) Q2.out.2 step1)
  clear hdr HP HQ HB k7 k8
  go_wp2_with (first | (go_at_call 50; (with_reducible refine S1.out.mono ?_); rintro e w' ⟨rfl, rfl⟩) | (go_at_call 50; (with_reducible refine S2.out.mono ?_); rintro e w' ⟨rfl, rfl⟩))
  go_ret
  exact ⟨rfl, B2.out⟩

set_option maxRecDepth 100000 in
set_option maxHeartbeats 2000000 in
theorem cutsn_3_f (x y : Nat) (w : World) (hd : Does 3 x y [0] [0, 4599676359373071550, 4604179959000442046]) (h3 : [x, y].all smallB = true) (f1 : (FloatKind.f64.format.order x 4607182418800017408 == some Ordering.lt) = false) (f2 : (FloatKind.f64.format.order y 4607182418800017408 == some Ordering.lt) = false) (f3 : (FloatKind.f64.format.order x y == some Ordering.eq) = false) (f4 : (FloatKind.f64.format.order x y == some Ordering.gt) = true) :
    Calls Try.prog 17 #[.int .i64 1, .float .f64 x, .float .f64 y] w fun e w' => e = .returned (.bool true) ∧ Below w.heap.size w w' := by
  have HS := Lib.hid h3
  have HD := Lib.hid hd
  clear h3 hd
  go_enter Try.func17, Try.ntmps17
  go_wp2_with (first | (go_at_call 22; refine (small_at [x, y] true _ _ (by simp) HS.out (by simp)).mono ?_; rintro e w' ⟨rfl, rfl⟩) | (go_at_call 49; refine (cuts_any HD.out _).mono ?_; rintro e w1 ⟨p, q, c1, c2, rfl, hp, hq, hb⟩; have HP := Lib.hid hp; have HQ := Lib.hid hq; have HB : Hid (Below w.heap.size w w1) := Lib.hid ((below3 w _ _ _).trans (hb.mono (by simp <;> omega))); obtain ⟨bc, bf⟩ := bcell hb; clear hp hq hb))
  have k7 : w1.cell? ⟨w.heap.size, 1, none⟩ = some (.int .i64 3) := by rw [bc _ _ (by simp <;> omega)]; exact cell_first _ _ _ _ _ _ _ rfl
  have k8 : w1.cell? ⟨w.heap.size + 1, 1, none⟩ = some (.int .i64 3) := by rw [bc _ _ (by simp <;> omega)]; exact cell_second _ _ _ _ _ _ _ rfl
  clear bc bf
  go_quiet (fail)
  have hdr : Below w1.heap.size w1 (w1.drewN nq) := Joins.below_draws _ _ _
  have P2 := Lib.hid (HP.out.below hdr)
  have Q2 := Lib.hid (HQ.out.below hdr)
  have B2 : Hid (Below w.heap.size w (w1.drewN nq)) := Lib.hid (bel_trans hdr HB.out)
  have S1 := Lib.hid (steps_at [0] 1 1 rfl rfl p c1 _ (by decide) P2.out.2 step1)
  have S2 := Lib.hid (steps_at [0, 4599676359373071550, 4604179959000442046] 3 3 rfl rfl q c2 _ (by decide) Q2.out.2 step3)
  clear hdr HP HQ HB k7 k8
  go_wp2_with (first | (go_at_call 50; (with_reducible refine S1.out.mono ?_); rintro e w' ⟨rfl, rfl⟩) | (go_at_call 50; (with_reducible refine S2.out.mono ?_); rintro e w' ⟨rfl, rfl⟩))
  go_ret
  exact ⟨rfl, B2.out⟩

set_option maxRecDepth 100000 in
set_option maxHeartbeats 2000000 in
theorem cutsn_4_t (x y : Nat) (w : World) (hd : Does 4 x y [0, 4602678819172646912] [0, 4602678819172646912]) (h3 : [x, y].all smallB = true) (f1 : (FloatKind.f64.format.order x 4607182418800017408 == some Ordering.lt) = false) (f2 : (FloatKind.f64.format.order y 4607182418800017408 == some Ordering.lt) = false) (f3 : (FloatKind.f64.format.order x y == some Ordering.eq) = false) (f4 : (FloatKind.f64.format.order x y == some Ordering.gt) = false) :
    Calls Try.prog 17 #[.int .i64 2, .float .f64 x, .float .f64 y] w fun e w' => e = .returned (.bool true) ∧ Below w.heap.size w w' := by
  have HS := Lib.hid h3
  have HD := Lib.hid hd
  clear h3 hd
  go_enter Try.func17, Try.ntmps17
  go_wp2_with (first | (go_at_call 22; refine (small_at [x, y] true _ _ (by simp) HS.out (by simp)).mono ?_; rintro e w' ⟨rfl, rfl⟩) | (go_at_call 49; refine (cuts_any HD.out _).mono ?_; rintro e w1 ⟨p, q, c1, c2, rfl, hp, hq, hb⟩; have HP := Lib.hid hp; have HQ := Lib.hid hq; have HB : Hid (Below w.heap.size w w1) := Lib.hid ((below3 w _ _ _).trans (hb.mono (by simp <;> omega))); obtain ⟨bc, bf⟩ := bcell hb; clear hp hq hb))
  have k7 : w1.cell? ⟨w.heap.size, 2, none⟩ = some (.int .i64 4) := by rw [bc _ _ (by simp <;> omega)]; exact cell_first _ _ _ _ _ _ _ rfl
  have k8 : w1.cell? ⟨w.heap.size + 1, 2, none⟩ = some (.int .i64 2) := by rw [bc _ _ (by simp <;> omega)]; exact cell_second _ _ _ _ _ _ _ rfl
  clear bc bf
  go_quiet (fail)
  have hdr : Below w1.heap.size w1 (w1.drewN nq) := Joins.below_draws _ _ _
  have P2 := Lib.hid (HP.out.below hdr)
  have Q2 := Lib.hid (HQ.out.below hdr)
  have B2 : Hid (Below w.heap.size w (w1.drewN nq)) := Lib.hid (bel_trans hdr HB.out)
  have S1 := Lib.hid (steps_at [0, 4602678819172646912] 2 2 rfl rfl p c1 _ (by decide) P2.out.2 step2)
  have S2 := Lib.hid (steps_at [0, 4602678819172646912] 2 2 rfl rfl q c2 _ (by decide) Q2.out.2 step2)
  clear hdr HP HQ HB k7 k8
  go_wp2_with (first | (go_at_call 50; (with_reducible refine S1.out.mono ?_); rintro e w' ⟨rfl, rfl⟩) | (go_at_call 50; (with_reducible refine S2.out.mono ?_); rintro e w' ⟨rfl, rfl⟩))
  go_ret
  exact ⟨rfl, B2.out⟩

set_option maxRecDepth 100000 in
set_option maxHeartbeats 2000000 in
theorem cutsn_4_f (x y : Nat) (w : World) (hd : Does 4 x y [0, 4602678819172646912] [0, 4602678819172646912]) (h3 : [x, y].all smallB = true) (f1 : (FloatKind.f64.format.order x 4607182418800017408 == some Ordering.lt) = false) (f2 : (FloatKind.f64.format.order y 4607182418800017408 == some Ordering.lt) = false) (f3 : (FloatKind.f64.format.order x y == some Ordering.eq) = false) (f4 : (FloatKind.f64.format.order x y == some Ordering.gt) = true) :
    Calls Try.prog 17 #[.int .i64 2, .float .f64 x, .float .f64 y] w fun e w' => e = .returned (.bool true) ∧ Below w.heap.size w w' := by
  have HS := Lib.hid h3
  have HD := Lib.hid hd
  clear h3 hd
  go_enter Try.func17, Try.ntmps17
  go_wp2_with (first | (go_at_call 22; refine (small_at [x, y] true _ _ (by simp) HS.out (by simp)).mono ?_; rintro e w' ⟨rfl, rfl⟩) | (go_at_call 49; refine (cuts_any HD.out _).mono ?_; rintro e w1 ⟨p, q, c1, c2, rfl, hp, hq, hb⟩; have HP := Lib.hid hp; have HQ := Lib.hid hq; have HB : Hid (Below w.heap.size w w1) := Lib.hid ((below3 w _ _ _).trans (hb.mono (by simp <;> omega))); obtain ⟨bc, bf⟩ := bcell hb; clear hp hq hb))
  have k7 : w1.cell? ⟨w.heap.size, 2, none⟩ = some (.int .i64 4) := by rw [bc _ _ (by simp <;> omega)]; exact cell_first _ _ _ _ _ _ _ rfl
  have k8 : w1.cell? ⟨w.heap.size + 1, 2, none⟩ = some (.int .i64 2) := by rw [bc _ _ (by simp <;> omega)]; exact cell_second _ _ _ _ _ _ _ rfl
  clear bc bf
  go_quiet (fail)
  have hdr : Below w1.heap.size w1 (w1.drewN nq) := Joins.below_draws _ _ _
  have P2 := Lib.hid (HP.out.below hdr)
  have Q2 := Lib.hid (HQ.out.below hdr)
  have B2 : Hid (Below w.heap.size w (w1.drewN nq)) := Lib.hid (bel_trans hdr HB.out)
  have S1 := Lib.hid (steps_at [0, 4602678819172646912] 2 2 rfl rfl p c1 _ (by decide) P2.out.2 step2)
  have S2 := Lib.hid (steps_at [0, 4602678819172646912] 2 2 rfl rfl q c2 _ (by decide) Q2.out.2 step2)
  clear hdr HP HQ HB k7 k8
  go_wp2_with (first | (go_at_call 50; (with_reducible refine S1.out.mono ?_); rintro e w' ⟨rfl, rfl⟩) | (go_at_call 50; (with_reducible refine S2.out.mono ?_); rintro e w' ⟨rfl, rfl⟩))
  go_ret
  exact ⟨rfl, B2.out⟩

set_option maxRecDepth 100000 in
set_option maxHeartbeats 2000000 in
theorem cutsn_6_t (x y : Nat) (w : World) (hd : Does 6 x y [0, 4599676359373071550, 4604179959000442046] [0, 4602678819172646912]) (h3 : [x, y].all smallB = true) (f1 : (FloatKind.f64.format.order x 4607182418800017408 == some Ordering.lt) = false) (f2 : (FloatKind.f64.format.order y 4607182418800017408 == some Ordering.lt) = false) (f3 : (FloatKind.f64.format.order x y == some Ordering.eq) = false) (f4 : (FloatKind.f64.format.order x y == some Ordering.gt) = false) :
    Calls Try.prog 17 #[.int .i64 3, .float .f64 x, .float .f64 y] w fun e w' => e = .returned (.bool true) ∧ Below w.heap.size w w' := by
  have HS := Lib.hid h3
  have HD := Lib.hid hd
  clear h3 hd
  go_enter Try.func17, Try.ntmps17
  go_wp2_with (first | (go_at_call 22; refine (small_at [x, y] true _ _ (by simp) HS.out (by simp)).mono ?_; rintro e w' ⟨rfl, rfl⟩) | (go_at_call 49; refine (cuts_any HD.out _).mono ?_; rintro e w1 ⟨p, q, c1, c2, rfl, hp, hq, hb⟩; have HP := Lib.hid hp; have HQ := Lib.hid hq; have HB : Hid (Below w.heap.size w w1) := Lib.hid ((below3 w _ _ _).trans (hb.mono (by simp <;> omega))); obtain ⟨bc, bf⟩ := bcell hb; clear hp hq hb))
  have k7 : w1.cell? ⟨w.heap.size, 3, none⟩ = some (.int .i64 6) := by rw [bc _ _ (by simp <;> omega)]; exact cell_first _ _ _ _ _ _ _ rfl
  have k8 : w1.cell? ⟨w.heap.size + 1, 3, none⟩ = some (.int .i64 3) := by rw [bc _ _ (by simp <;> omega)]; exact cell_second _ _ _ _ _ _ _ rfl
  clear bc bf
  go_quiet (fail)
  have hdr : Below w1.heap.size w1 (w1.drewN nq) := Joins.below_draws _ _ _
  have P2 := Lib.hid (HP.out.below hdr)
  have Q2 := Lib.hid (HQ.out.below hdr)
  have B2 : Hid (Below w.heap.size w (w1.drewN nq)) := Lib.hid (bel_trans hdr HB.out)
  have S1 := Lib.hid (steps_at [0, 4599676359373071550, 4604179959000442046] 3 3 rfl rfl p c1 _ (by decide) P2.out.2 step3)
  have S2 := Lib.hid (steps_at [0, 4602678819172646912] 2 2 rfl rfl q c2 _ (by decide) Q2.out.2 step2)
  clear hdr HP HQ HB k7 k8
  go_wp2_with (first | (go_at_call 50; (with_reducible refine S1.out.mono ?_); rintro e w' ⟨rfl, rfl⟩) | (go_at_call 50; (with_reducible refine S2.out.mono ?_); rintro e w' ⟨rfl, rfl⟩))
  go_ret
  exact ⟨rfl, B2.out⟩

set_option maxRecDepth 100000 in
set_option maxHeartbeats 2000000 in
theorem cutsn_6_f (x y : Nat) (w : World) (hd : Does 6 x y [0, 4602678819172646912] [0, 4599676359373071550, 4604179959000442046]) (h3 : [x, y].all smallB = true) (f1 : (FloatKind.f64.format.order x 4607182418800017408 == some Ordering.lt) = false) (f2 : (FloatKind.f64.format.order y 4607182418800017408 == some Ordering.lt) = false) (f3 : (FloatKind.f64.format.order x y == some Ordering.eq) = false) (f4 : (FloatKind.f64.format.order x y == some Ordering.gt) = true) :
    Calls Try.prog 17 #[.int .i64 3, .float .f64 x, .float .f64 y] w fun e w' => e = .returned (.bool true) ∧ Below w.heap.size w w' := by
  have HS := Lib.hid h3
  have HD := Lib.hid hd
  clear h3 hd
  go_enter Try.func17, Try.ntmps17
  go_wp2_with (first | (go_at_call 22; refine (small_at [x, y] true _ _ (by simp) HS.out (by simp)).mono ?_; rintro e w' ⟨rfl, rfl⟩) | (go_at_call 49; refine (cuts_any HD.out _).mono ?_; rintro e w1 ⟨p, q, c1, c2, rfl, hp, hq, hb⟩; have HP := Lib.hid hp; have HQ := Lib.hid hq; have HB : Hid (Below w.heap.size w w1) := Lib.hid ((below3 w _ _ _).trans (hb.mono (by simp <;> omega))); obtain ⟨bc, bf⟩ := bcell hb; clear hp hq hb))
  have k7 : w1.cell? ⟨w.heap.size, 3, none⟩ = some (.int .i64 6) := by rw [bc _ _ (by simp <;> omega)]; exact cell_first _ _ _ _ _ _ _ rfl
  have k8 : w1.cell? ⟨w.heap.size + 1, 3, none⟩ = some (.int .i64 3) := by rw [bc _ _ (by simp <;> omega)]; exact cell_second _ _ _ _ _ _ _ rfl
  clear bc bf
  go_quiet (fail)
  have hdr : Below w1.heap.size w1 (w1.drewN nq) := Joins.below_draws _ _ _
  have P2 := Lib.hid (HP.out.below hdr)
  have Q2 := Lib.hid (HQ.out.below hdr)
  have B2 : Hid (Below w.heap.size w (w1.drewN nq)) := Lib.hid (bel_trans hdr HB.out)
  have S1 := Lib.hid (steps_at [0, 4602678819172646912] 2 2 rfl rfl p c1 _ (by decide) P2.out.2 step2)
  have S2 := Lib.hid (steps_at [0, 4599676359373071550, 4604179959000442046] 3 3 rfl rfl q c2 _ (by decide) Q2.out.2 step3)
  clear hdr HP HQ HB k7 k8
  go_wp2_with (first | (go_at_call 50; (with_reducible refine S1.out.mono ?_); rintro e w' ⟨rfl, rfl⟩) | (go_at_call 50; (with_reducible refine S2.out.mono ?_); rintro e w' ⟨rfl, rfl⟩))
  go_ret
  exact ⟨rfl, B2.out⟩

set_option maxRecDepth 100000 in
set_option maxHeartbeats 2000000 in
theorem cutsn_8_t (x y : Nat) (w : World) (hd : Does 8 x y [0, 4598175219545276416, 4602678819172646912, 4604930618986332160] [0, 4602678819172646912]) (h3 : [x, y].all smallB = true) (f1 : (FloatKind.f64.format.order x 4607182418800017408 == some Ordering.lt) = false) (f2 : (FloatKind.f64.format.order y 4607182418800017408 == some Ordering.lt) = false) (f3 : (FloatKind.f64.format.order x y == some Ordering.eq) = false) (f4 : (FloatKind.f64.format.order x y == some Ordering.gt) = false) :
    Calls Try.prog 17 #[.int .i64 4, .float .f64 x, .float .f64 y] w fun e w' => e = .returned (.bool true) ∧ Below w.heap.size w w' := by
  have HS := Lib.hid h3
  have HD := Lib.hid hd
  clear h3 hd
  go_enter Try.func17, Try.ntmps17
  go_wp2_with (first | (go_at_call 22; refine (small_at [x, y] true _ _ (by simp) HS.out (by simp)).mono ?_; rintro e w' ⟨rfl, rfl⟩) | (go_at_call 49; refine (cuts_any HD.out _).mono ?_; rintro e w1 ⟨p, q, c1, c2, rfl, hp, hq, hb⟩; have HP := Lib.hid hp; have HQ := Lib.hid hq; have HB : Hid (Below w.heap.size w w1) := Lib.hid ((below3 w _ _ _).trans (hb.mono (by simp <;> omega))); obtain ⟨bc, bf⟩ := bcell hb; clear hp hq hb))
  have k7 : w1.cell? ⟨w.heap.size, 4, none⟩ = some (.int .i64 8) := by rw [bc _ _ (by simp <;> omega)]; exact cell_first _ _ _ _ _ _ _ rfl
  have k8 : w1.cell? ⟨w.heap.size + 1, 4, none⟩ = some (.int .i64 4) := by rw [bc _ _ (by simp <;> omega)]; exact cell_second _ _ _ _ _ _ _ rfl
  clear bc bf
  go_quiet (fail)
  have hdr : Below w1.heap.size w1 (w1.drewN nq) := Joins.below_draws _ _ _
  have P2 := Lib.hid (HP.out.below hdr)
  have Q2 := Lib.hid (HQ.out.below hdr)
  have B2 : Hid (Below w.heap.size w (w1.drewN nq)) := Lib.hid (bel_trans hdr HB.out)
  have S1 := Lib.hid (steps_at [0, 4598175219545276416, 4602678819172646912, 4604930618986332160] 4 4 rfl rfl p c1 _ (by decide) P2.out.2 step4)
  have S2 := Lib.hid (steps_at [0, 4602678819172646912] 2 2 rfl rfl q c2 _ (by decide) Q2.out.2 step2)
  clear hdr HP HQ HB k7 k8
  go_wp2_with (first | (go_at_call 50; (with_reducible refine S1.out.mono ?_); rintro e w' ⟨rfl, rfl⟩) | (go_at_call 50; (with_reducible refine S2.out.mono ?_); rintro e w' ⟨rfl, rfl⟩))
  go_ret
  exact ⟨rfl, B2.out⟩

set_option maxRecDepth 100000 in
set_option maxHeartbeats 2000000 in
theorem cutsn_8_f (x y : Nat) (w : World) (hd : Does 8 x y [0, 4602678819172646912] [0, 4598175219545276416, 4602678819172646912, 4604930618986332160]) (h3 : [x, y].all smallB = true) (f1 : (FloatKind.f64.format.order x 4607182418800017408 == some Ordering.lt) = false) (f2 : (FloatKind.f64.format.order y 4607182418800017408 == some Ordering.lt) = false) (f3 : (FloatKind.f64.format.order x y == some Ordering.eq) = false) (f4 : (FloatKind.f64.format.order x y == some Ordering.gt) = true) :
    Calls Try.prog 17 #[.int .i64 4, .float .f64 x, .float .f64 y] w fun e w' => e = .returned (.bool true) ∧ Below w.heap.size w w' := by
  have HS := Lib.hid h3
  have HD := Lib.hid hd
  clear h3 hd
  go_enter Try.func17, Try.ntmps17
  go_wp2_with (first | (go_at_call 22; refine (small_at [x, y] true _ _ (by simp) HS.out (by simp)).mono ?_; rintro e w' ⟨rfl, rfl⟩) | (go_at_call 49; refine (cuts_any HD.out _).mono ?_; rintro e w1 ⟨p, q, c1, c2, rfl, hp, hq, hb⟩; have HP := Lib.hid hp; have HQ := Lib.hid hq; have HB : Hid (Below w.heap.size w w1) := Lib.hid ((below3 w _ _ _).trans (hb.mono (by simp <;> omega))); obtain ⟨bc, bf⟩ := bcell hb; clear hp hq hb))
  have k7 : w1.cell? ⟨w.heap.size, 4, none⟩ = some (.int .i64 8) := by rw [bc _ _ (by simp <;> omega)]; exact cell_first _ _ _ _ _ _ _ rfl
  have k8 : w1.cell? ⟨w.heap.size + 1, 4, none⟩ = some (.int .i64 4) := by rw [bc _ _ (by simp <;> omega)]; exact cell_second _ _ _ _ _ _ _ rfl
  clear bc bf
  go_quiet (fail)
  have hdr : Below w1.heap.size w1 (w1.drewN nq) := Joins.below_draws _ _ _
  have P2 := Lib.hid (HP.out.below hdr)
  have Q2 := Lib.hid (HQ.out.below hdr)
  have B2 : Hid (Below w.heap.size w (w1.drewN nq)) := Lib.hid (bel_trans hdr HB.out)
  have S1 := Lib.hid (steps_at [0, 4602678819172646912] 2 2 rfl rfl p c1 _ (by decide) P2.out.2 step2)
  have S2 := Lib.hid (steps_at [0, 4598175219545276416, 4602678819172646912, 4604930618986332160] 4 4 rfl rfl q c2 _ (by decide) Q2.out.2 step4)
  clear hdr HP HQ HB k7 k8
  go_wp2_with (first | (go_at_call 50; (with_reducible refine S1.out.mono ?_); rintro e w' ⟨rfl, rfl⟩) | (go_at_call 50; (with_reducible refine S2.out.mono ?_); rintro e w' ⟨rfl, rfl⟩))
  go_ret
  exact ⟨rfl, B2.out⟩

set_option maxRecDepth 100000 in
set_option maxHeartbeats 2000000 in
theorem cutsn_9_t (x y : Nat) (w : World) (hd : Does 9 x y [0, 4599676359373071550, 4604179959000442046] [0, 4599676359373071550, 4604179959000442046]) (h3 : [x, y].all smallB = true) (f1 : (FloatKind.f64.format.order x 4607182418800017408 == some Ordering.lt) = false) (f2 : (FloatKind.f64.format.order y 4607182418800017408 == some Ordering.lt) = false) (f3 : (FloatKind.f64.format.order x y == some Ordering.eq) = false) (f4 : (FloatKind.f64.format.order x y == some Ordering.gt) = false) :
    Calls Try.prog 17 #[.int .i64 5, .float .f64 x, .float .f64 y] w fun e w' => e = .returned (.bool true) ∧ Below w.heap.size w w' := by
  have HS := Lib.hid h3
  have HD := Lib.hid hd
  clear h3 hd
  go_enter Try.func17, Try.ntmps17
  go_wp2_with (first | (go_at_call 22; refine (small_at [x, y] true _ _ (by simp) HS.out (by simp)).mono ?_; rintro e w' ⟨rfl, rfl⟩) | (go_at_call 49; refine (cuts_any HD.out _).mono ?_; rintro e w1 ⟨p, q, c1, c2, rfl, hp, hq, hb⟩; have HP := Lib.hid hp; have HQ := Lib.hid hq; have HB : Hid (Below w.heap.size w w1) := Lib.hid ((below3 w _ _ _).trans (hb.mono (by simp <;> omega))); obtain ⟨bc, bf⟩ := bcell hb; clear hp hq hb))
  have k7 : w1.cell? ⟨w.heap.size, 5, none⟩ = some (.int .i64 9) := by rw [bc _ _ (by simp <;> omega)]; exact cell_first _ _ _ _ _ _ _ rfl
  have k8 : w1.cell? ⟨w.heap.size + 1, 5, none⟩ = some (.int .i64 3) := by rw [bc _ _ (by simp <;> omega)]; exact cell_second _ _ _ _ _ _ _ rfl
  clear bc bf
  go_quiet (fail)
  have hdr : Below w1.heap.size w1 (w1.drewN nq) := Joins.below_draws _ _ _
  have P2 := Lib.hid (HP.out.below hdr)
  have Q2 := Lib.hid (HQ.out.below hdr)
  have B2 : Hid (Below w.heap.size w (w1.drewN nq)) := Lib.hid (bel_trans hdr HB.out)
  have S1 := Lib.hid (steps_at [0, 4599676359373071550, 4604179959000442046] 3 3 rfl rfl p c1 _ (by decide) P2.out.2 step3)
  have S2 := Lib.hid (steps_at [0, 4599676359373071550, 4604179959000442046] 3 3 rfl rfl q c2 _ (by decide) Q2.out.2 step3)
  clear hdr HP HQ HB k7 k8
  go_wp2_with (first | (go_at_call 50; (with_reducible refine S1.out.mono ?_); rintro e w' ⟨rfl, rfl⟩) | (go_at_call 50; (with_reducible refine S2.out.mono ?_); rintro e w' ⟨rfl, rfl⟩))
  go_ret
  exact ⟨rfl, B2.out⟩

set_option maxRecDepth 100000 in
set_option maxHeartbeats 2000000 in
theorem cutsn_9_f (x y : Nat) (w : World) (hd : Does 9 x y [0, 4599676359373071550, 4604179959000442046] [0, 4599676359373071550, 4604179959000442046]) (h3 : [x, y].all smallB = true) (f1 : (FloatKind.f64.format.order x 4607182418800017408 == some Ordering.lt) = false) (f2 : (FloatKind.f64.format.order y 4607182418800017408 == some Ordering.lt) = false) (f3 : (FloatKind.f64.format.order x y == some Ordering.eq) = false) (f4 : (FloatKind.f64.format.order x y == some Ordering.gt) = true) :
    Calls Try.prog 17 #[.int .i64 5, .float .f64 x, .float .f64 y] w fun e w' => e = .returned (.bool true) ∧ Below w.heap.size w w' := by
  have HS := Lib.hid h3
  have HD := Lib.hid hd
  clear h3 hd
  go_enter Try.func17, Try.ntmps17
  go_wp2_with (first | (go_at_call 22; refine (small_at [x, y] true _ _ (by simp) HS.out (by simp)).mono ?_; rintro e w' ⟨rfl, rfl⟩) | (go_at_call 49; refine (cuts_any HD.out _).mono ?_; rintro e w1 ⟨p, q, c1, c2, rfl, hp, hq, hb⟩; have HP := Lib.hid hp; have HQ := Lib.hid hq; have HB : Hid (Below w.heap.size w w1) := Lib.hid ((below3 w _ _ _).trans (hb.mono (by simp <;> omega))); obtain ⟨bc, bf⟩ := bcell hb; clear hp hq hb))
  have k7 : w1.cell? ⟨w.heap.size, 5, none⟩ = some (.int .i64 9) := by rw [bc _ _ (by simp <;> omega)]; exact cell_first _ _ _ _ _ _ _ rfl
  have k8 : w1.cell? ⟨w.heap.size + 1, 5, none⟩ = some (.int .i64 3) := by rw [bc _ _ (by simp <;> omega)]; exact cell_second _ _ _ _ _ _ _ rfl
  clear bc bf
  go_quiet (fail)
  have hdr : Below w1.heap.size w1 (w1.drewN nq) := Joins.below_draws _ _ _
  have P2 := Lib.hid (HP.out.below hdr)
  have Q2 := Lib.hid (HQ.out.below hdr)
  have B2 : Hid (Below w.heap.size w (w1.drewN nq)) := Lib.hid (bel_trans hdr HB.out)
  have S1 := Lib.hid (steps_at [0, 4599676359373071550, 4604179959000442046] 3 3 rfl rfl p c1 _ (by decide) P2.out.2 step3)
  have S2 := Lib.hid (steps_at [0, 4599676359373071550, 4604179959000442046] 3 3 rfl rfl q c2 _ (by decide) Q2.out.2 step3)
  clear hdr HP HQ HB k7 k8
  go_wp2_with (first | (go_at_call 50; (with_reducible refine S1.out.mono ?_); rintro e w' ⟨rfl, rfl⟩) | (go_at_call 50; (with_reducible refine S2.out.mono ?_); rintro e w' ⟨rfl, rfl⟩))
  go_ret
  exact ⟨rfl, B2.out⟩

set_option maxRecDepth 100000 in
set_option maxHeartbeats 2000000 in
theorem cutsn_12_t (x y : Nat) (w : World) (hd : Does 12 x y [0, 4598175219545276416, 4602678819172646912, 4604930618986332160] [0, 4599676359373071550, 4604179959000442046]) (h3 : [x, y].all smallB = true) (f1 : (FloatKind.f64.format.order x 4607182418800017408 == some Ordering.lt) = false) (f2 : (FloatKind.f64.format.order y 4607182418800017408 == some Ordering.lt) = false) (f3 : (FloatKind.f64.format.order x y == some Ordering.eq) = false) (f4 : (FloatKind.f64.format.order x y == some Ordering.gt) = false) :
    Calls Try.prog 17 #[.int .i64 6, .float .f64 x, .float .f64 y] w fun e w' => e = .returned (.bool true) ∧ Below w.heap.size w w' := by
  have HS := Lib.hid h3
  have HD := Lib.hid hd
  clear h3 hd
  go_enter Try.func17, Try.ntmps17
  go_wp2_with (first | (go_at_call 22; refine (small_at [x, y] true _ _ (by simp) HS.out (by simp)).mono ?_; rintro e w' ⟨rfl, rfl⟩) | (go_at_call 49; refine (cuts_any HD.out _).mono ?_; rintro e w1 ⟨p, q, c1, c2, rfl, hp, hq, hb⟩; have HP := Lib.hid hp; have HQ := Lib.hid hq; have HB : Hid (Below w.heap.size w w1) := Lib.hid ((below3 w _ _ _).trans (hb.mono (by simp <;> omega))); obtain ⟨bc, bf⟩ := bcell hb; clear hp hq hb))
  have k7 : w1.cell? ⟨w.heap.size, 6, none⟩ = some (.int .i64 12) := by rw [bc _ _ (by simp <;> omega)]; exact cell_first _ _ _ _ _ _ _ rfl
  have k8 : w1.cell? ⟨w.heap.size + 1, 6, none⟩ = some (.int .i64 4) := by rw [bc _ _ (by simp <;> omega)]; exact cell_second _ _ _ _ _ _ _ rfl
  clear bc bf
  go_quiet (fail)
  have hdr : Below w1.heap.size w1 (w1.drewN nq) := Joins.below_draws _ _ _
  have P2 := Lib.hid (HP.out.below hdr)
  have Q2 := Lib.hid (HQ.out.below hdr)
  have B2 : Hid (Below w.heap.size w (w1.drewN nq)) := Lib.hid (bel_trans hdr HB.out)
  have S1 := Lib.hid (steps_at [0, 4598175219545276416, 4602678819172646912, 4604930618986332160] 4 4 rfl rfl p c1 _ (by decide) P2.out.2 step4)
  have S2 := Lib.hid (steps_at [0, 4599676359373071550, 4604179959000442046] 3 3 rfl rfl q c2 _ (by decide) Q2.out.2 step3)
  clear hdr HP HQ HB k7 k8
  go_wp2_with (first | (go_at_call 50; (with_reducible refine S1.out.mono ?_); rintro e w' ⟨rfl, rfl⟩) | (go_at_call 50; (with_reducible refine S2.out.mono ?_); rintro e w' ⟨rfl, rfl⟩))
  go_ret
  exact ⟨rfl, B2.out⟩

set_option maxRecDepth 100000 in
set_option maxHeartbeats 2000000 in
theorem cutsn_12_f (x y : Nat) (w : World) (hd : Does 12 x y [0, 4599676359373071550, 4604179959000442046] [0, 4598175219545276416, 4602678819172646912, 4604930618986332160]) (h3 : [x, y].all smallB = true) (f1 : (FloatKind.f64.format.order x 4607182418800017408 == some Ordering.lt) = false) (f2 : (FloatKind.f64.format.order y 4607182418800017408 == some Ordering.lt) = false) (f3 : (FloatKind.f64.format.order x y == some Ordering.eq) = false) (f4 : (FloatKind.f64.format.order x y == some Ordering.gt) = true) :
    Calls Try.prog 17 #[.int .i64 6, .float .f64 x, .float .f64 y] w fun e w' => e = .returned (.bool true) ∧ Below w.heap.size w w' := by
  have HS := Lib.hid h3
  have HD := Lib.hid hd
  clear h3 hd
  go_enter Try.func17, Try.ntmps17
  go_wp2_with (first | (go_at_call 22; refine (small_at [x, y] true _ _ (by simp) HS.out (by simp)).mono ?_; rintro e w' ⟨rfl, rfl⟩) | (go_at_call 49; refine (cuts_any HD.out _).mono ?_; rintro e w1 ⟨p, q, c1, c2, rfl, hp, hq, hb⟩; have HP := Lib.hid hp; have HQ := Lib.hid hq; have HB : Hid (Below w.heap.size w w1) := Lib.hid ((below3 w _ _ _).trans (hb.mono (by simp <;> omega))); obtain ⟨bc, bf⟩ := bcell hb; clear hp hq hb))
  have k7 : w1.cell? ⟨w.heap.size, 6, none⟩ = some (.int .i64 12) := by rw [bc _ _ (by simp <;> omega)]; exact cell_first _ _ _ _ _ _ _ rfl
  have k8 : w1.cell? ⟨w.heap.size + 1, 6, none⟩ = some (.int .i64 4) := by rw [bc _ _ (by simp <;> omega)]; exact cell_second _ _ _ _ _ _ _ rfl
  clear bc bf
  go_quiet (fail)
  have hdr : Below w1.heap.size w1 (w1.drewN nq) := Joins.below_draws _ _ _
  have P2 := Lib.hid (HP.out.below hdr)
  have Q2 := Lib.hid (HQ.out.below hdr)
  have B2 : Hid (Below w.heap.size w (w1.drewN nq)) := Lib.hid (bel_trans hdr HB.out)
  have S1 := Lib.hid (steps_at [0, 4599676359373071550, 4604179959000442046] 3 3 rfl rfl p c1 _ (by decide) P2.out.2 step3)
  have S2 := Lib.hid (steps_at [0, 4598175219545276416, 4602678819172646912, 4604930618986332160] 4 4 rfl rfl q c2 _ (by decide) Q2.out.2 step4)
  clear hdr HP HQ HB k7 k8
  go_wp2_with (first | (go_at_call 50; (with_reducible refine S1.out.mono ?_); rintro e w' ⟨rfl, rfl⟩) | (go_at_call 50; (with_reducible refine S2.out.mono ?_); rintro e w' ⟨rfl, rfl⟩))
  go_ret
  exact ⟨rfl, B2.out⟩

set_option maxRecDepth 100000 in
set_option maxHeartbeats 2000000 in
theorem cutsn_16_t (x y : Nat) (w : World) (hd : Does 16 x y [0, 4598175219545276416, 4602678819172646912, 4604930618986332160] [0, 4598175219545276416, 4602678819172646912, 4604930618986332160]) (h3 : [x, y].all smallB = true) (f1 : (FloatKind.f64.format.order x 4607182418800017408 == some Ordering.lt) = false) (f2 : (FloatKind.f64.format.order y 4607182418800017408 == some Ordering.lt) = false) (f3 : (FloatKind.f64.format.order x y == some Ordering.eq) = false) (f4 : (FloatKind.f64.format.order x y == some Ordering.gt) = false) :
    Calls Try.prog 17 #[.int .i64 7, .float .f64 x, .float .f64 y] w fun e w' => e = .returned (.bool true) ∧ Below w.heap.size w w' := by
  have HS := Lib.hid h3
  have HD := Lib.hid hd
  clear h3 hd
  go_enter Try.func17, Try.ntmps17
  go_wp2_with (first | (go_at_call 22; refine (small_at [x, y] true _ _ (by simp) HS.out (by simp)).mono ?_; rintro e w' ⟨rfl, rfl⟩) | (go_at_call 49; refine (cuts_any HD.out _).mono ?_; rintro e w1 ⟨p, q, c1, c2, rfl, hp, hq, hb⟩; have HP := Lib.hid hp; have HQ := Lib.hid hq; have HB : Hid (Below w.heap.size w w1) := Lib.hid ((below3 w _ _ _).trans (hb.mono (by simp <;> omega))); obtain ⟨bc, bf⟩ := bcell hb; clear hp hq hb))
  have k7 : w1.cell? ⟨w.heap.size, 7, none⟩ = some (.int .i64 16) := by rw [bc _ _ (by simp <;> omega)]; exact cell_first _ _ _ _ _ _ _ rfl
  have k8 : w1.cell? ⟨w.heap.size + 1, 7, none⟩ = some (.int .i64 4) := by rw [bc _ _ (by simp <;> omega)]; exact cell_second _ _ _ _ _ _ _ rfl
  clear bc bf
  go_quiet (fail)
  have hdr : Below w1.heap.size w1 (w1.drewN nq) := Joins.below_draws _ _ _
  have P2 := Lib.hid (HP.out.below hdr)
  have Q2 := Lib.hid (HQ.out.below hdr)
  have B2 : Hid (Below w.heap.size w (w1.drewN nq)) := Lib.hid (bel_trans hdr HB.out)
  have S1 := Lib.hid (steps_at [0, 4598175219545276416, 4602678819172646912, 4604930618986332160] 4 4 rfl rfl p c1 _ (by decide) P2.out.2 step4)
  have S2 := Lib.hid (steps_at [0, 4598175219545276416, 4602678819172646912, 4604930618986332160] 4 4 rfl rfl q c2 _ (by decide) Q2.out.2 step4)
  clear hdr HP HQ HB k7 k8
  go_wp2_with (first | (go_at_call 50; (with_reducible refine S1.out.mono ?_); rintro e w' ⟨rfl, rfl⟩) | (go_at_call 50; (with_reducible refine S2.out.mono ?_); rintro e w' ⟨rfl, rfl⟩))
  go_ret
  exact ⟨rfl, B2.out⟩

set_option maxRecDepth 100000 in
set_option maxHeartbeats 2000000 in
theorem cutsn_16_f (x y : Nat) (w : World) (hd : Does 16 x y [0, 4598175219545276416, 4602678819172646912, 4604930618986332160] [0, 4598175219545276416, 4602678819172646912, 4604930618986332160]) (h3 : [x, y].all smallB = true) (f1 : (FloatKind.f64.format.order x 4607182418800017408 == some Ordering.lt) = false) (f2 : (FloatKind.f64.format.order y 4607182418800017408 == some Ordering.lt) = false) (f3 : (FloatKind.f64.format.order x y == some Ordering.eq) = false) (f4 : (FloatKind.f64.format.order x y == some Ordering.gt) = true) :
    Calls Try.prog 17 #[.int .i64 7, .float .f64 x, .float .f64 y] w fun e w' => e = .returned (.bool true) ∧ Below w.heap.size w w' := by
  have HS := Lib.hid h3
  have HD := Lib.hid hd
  clear h3 hd
  go_enter Try.func17, Try.ntmps17
  go_wp2_with (first | (go_at_call 22; refine (small_at [x, y] true _ _ (by simp) HS.out (by simp)).mono ?_; rintro e w' ⟨rfl, rfl⟩) | (go_at_call 49; refine (cuts_any HD.out _).mono ?_; rintro e w1 ⟨p, q, c1, c2, rfl, hp, hq, hb⟩; have HP := Lib.hid hp; have HQ := Lib.hid hq; have HB : Hid (Below w.heap.size w w1) := Lib.hid ((below3 w _ _ _).trans (hb.mono (by simp <;> omega))); obtain ⟨bc, bf⟩ := bcell hb; clear hp hq hb))
  have k7 : w1.cell? ⟨w.heap.size, 7, none⟩ = some (.int .i64 16) := by rw [bc _ _ (by simp <;> omega)]; exact cell_first _ _ _ _ _ _ _ rfl
  have k8 : w1.cell? ⟨w.heap.size + 1, 7, none⟩ = some (.int .i64 4) := by rw [bc _ _ (by simp <;> omega)]; exact cell_second _ _ _ _ _ _ _ rfl
  clear bc bf
  go_quiet (fail)
  have hdr : Below w1.heap.size w1 (w1.drewN nq) := Joins.below_draws _ _ _
  have P2 := Lib.hid (HP.out.below hdr)
  have Q2 := Lib.hid (HQ.out.below hdr)
  have B2 : Hid (Below w.heap.size w (w1.drewN nq)) := Lib.hid (bel_trans hdr HB.out)
  have S1 := Lib.hid (steps_at [0, 4598175219545276416, 4602678819172646912, 4604930618986332160] 4 4 rfl rfl p c1 _ (by decide) P2.out.2 step4)
  have S2 := Lib.hid (steps_at [0, 4598175219545276416, 4602678819172646912, 4604930618986332160] 4 4 rfl rfl q c2 _ (by decide) Q2.out.2 step4)
  clear hdr HP HQ HB k7 k8
  go_wp2_with (first | (go_at_call 50; (with_reducible refine S1.out.mono ?_); rintro e w' ⟨rfl, rfl⟩) | (go_at_call 50; (with_reducible refine S2.out.mono ?_); rintro e w' ⟨rfl, rfl⟩))
  go_ret
  exact ⟨rfl, B2.out⟩

end Go.Proofs.Ytooghncdhjdcpaa
