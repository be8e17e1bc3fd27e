-- PRINTED BY print.sh 35421559b90ae4d0a3588c463048766b98c2df88dd9212a6774a882060cdf62d: not written by this session
import Derived.Test.YthfihamhkhnckaaDoorPFnCollectedx0
namespace Go.Proofs.YthfihamhkhnckaaDoor.PFnCollected
open Go.RowKit Go.Proofs.YthfihamhkhnckaaDoorW.PrintWords Go.Proofs.YthfihamhkhnckaaDoorW.PrintLast Go.Proofs.YthfihamhkhnckaaDoorW.PrintMore
attribute [local go_sem] max2_int min2_int max_two min_two max_three min_three max_four min_four   -- for this text's walks alone
set_option linter.unusedVariables false
set_option linter.unusedSimpArgs false

/-! ### spec_token_reach: function 15 -/
def spec_token_reach.j0 : Nat → Int → Int → Bool → Int → Int → Int → Bool → Option (Int × Int)
  | 0, _, _, _, _, _, _, _ => none
  | k + 1, x1, x7, x14, x123000, x123001, x123002, x123003 => if x14 = true then (some (x123001, x1)) else (if x7 = 4 then (some (x123001, x123002)) else (if x7 = 5 then (some (1, x123001)) else (if x7 = 6 then (some (1, x1)) else (if x7 = 7 then (some (1, wrap64 (x1 - x123001))) else (if x7 = 9 then (some (x123001, wrap64 (x1 - x123002))) else (if x7 = 10 then (some (x1, x1)) else (if x7 = 11 then (some (wrap64 (x1 - x123001), wrap64 (x1 - x123001))) else (some (wrap64 (x1 - x123001), x1)))))))))
def spec_token_reach.f (k : Nat) (a0_0 : Int) (a0_1 : Int) (a0_2 : Int) (a0_3 : Bool) (a1 : Int) : Option (Int × Int) := if a0_0 = 2 then (some (a0_1, a0_1)) else (if a0_0 = 3 then (spec_token_reach.j0 k a1 a0_0 (a0_0 == 3) a0_0 a0_1 a0_2 a0_3) else (spec_token_reach.j0 k a1 a0_0 (a0_0 == 8) a0_0 a0_1 a0_2 a0_3))
theorem spec_token_reach.mono_l : ∀ k, (∀ y0 y1 y2 y3 y4 y5 y6, LeO (spec_token_reach.j0 k y0 y1 y2 y3 y4 y5 y6) (spec_token_reach.j0 (k + 1) y0 y1 y2 y3 y4 y5 y6))
  | 0 => fun _ _ _ _ _ _ _ r h => by simp [spec_token_reach.j0] at h
  | k + 1 => by
    have ih0 := spec_token_reach.mono_l k
    · intro y0 y1 y2 y3 y4 y5 y6
      unfold spec_token_reach.j0
      repeat' first
      | (with_reducible exact ih0 _ _ _ _ _ _ _)
      | (with_reducible exact LeO.refl _)
      | (with_reducible exact LeO.none _)
      | (with_reducible refine LeO.ite ?_ ?_)
      | (with_reducible refine LeO.bind ?_ (fun _ => ?_))
      | exact ih0 _ _ _ _ _ _ _
      | exact LeO.none _
      | refine LeO.ite ?_ ?_
      | refine LeO.bind ?_ (fun _ => ?_)
theorem spec_token_reach.mono : ∀ a0 a1 a2 a3 a4 k, LeO (spec_token_reach.f k a0 a1 a2 a3 a4) (spec_token_reach.f (k + 1) a0 a1 a2 a3 a4) := by
  intro a0 a1 a2 a3 a4 k
  have ih0 := spec_token_reach.mono_l k
  unfold spec_token_reach.f
  repeat' first
      | (with_reducible exact ih0 _ _ _ _ _ _ _)
      | (with_reducible exact LeO.refl _)
      | (with_reducible exact LeO.none _)
      | (with_reducible refine LeO.ite ?_ ?_)
      | (with_reducible refine LeO.bind ?_ (fun _ => ?_))
      | exact ih0 _ _ _ _ _ _ _
      | exact LeO.none _
      | refine LeO.ite ?_ ?_
      | refine LeO.bind ?_ (fun _ => ?_)
set_option maxHeartbeats 8000000 in
set_option maxRecDepth 100000 in
theorem spec_token_reach.calls (k : Nat) (a0_0 : Int) (a0_1 : Int) (a0_2 : Int) (a0_3 : Bool) (a1 : Int) (r1 : Int) (r2 : Int) (w : World) (h : spec_token_reach.f k a0_0 a0_1 a0_2 a0_3 a1 = some (r1, r2)) :
    Calls Tryd.prog 15 #[.agg #[.int .i64 a0_0, .int .i64 a0_1, .int .i64 a0_2, .bool a0_3], .int .i64 a1] w fun e w' => e = .returned (.tuple #[.int .i64 r1, .int .i64 r2]) ∧ Below w.heap.size w w' := by
  have hu34 := Tryd.underlying34
  have HB := Aside0.mk (Below.refl w.heap.size w)
  have H : (if a0_0 = 2 then (some (a0_1, a0_1)) else (if a0_0 = 3 then (spec_token_reach.j0 k a1 a0_0 (a0_0 == 3) a0_0 a0_1 a0_2 a0_3) else (spec_token_reach.j0 k a1 a0_0 (a0_0 == 8) a0_0 a0_1 a0_2 a0_3))) = some (r1, r2) := h
  clear h
  by_cases c3 : a0_0 = 2
  · rw [if_pos c3] at H
    have c3b0 : (a0_0 == 2) = true := beq_iff_eq.mpr c3
    have c3b1 : (a0_0 != 2) = false := bne_eq_false_iff_eq.mpr c3
    clear c3
    simp only [Option.some.injEq, Prod.mk.injEq] at H
    obtain ⟨rfl, rfl⟩ := H
    go_enter Tryd.func15, Tryd.ntmps15
    go_wp2_with (first | ((with_reducible refine gate_dst (N := 2) rfl ?_); refine box_event ?hg (N := 2) ?hd (cs := #[.int .i64 a0_0, .int .i64 a0_1, .int .i64 a0_2, .bool a0_3]) (t := 34) ?hr ?_; (case hd => rfl); (case hg => rfl); (case hr => first | (go_simp; done) | (go_simp; rfl)); intro gb122 hg w4 hbox hb; have n0_ := Aside0.mk (below_step (by repeat (first | (with_reducible first | exact HB.out | apply below_alloc | apply pw_below_drewN | apply below_drew1) | exact HB.out)) hb); have n1_ := Aside0.mk (hbox); have n2_ := Aside0.mk ((by rw [hg]; exact (below_size (by repeat (first | (with_reducible first | exact HB.out | apply below_alloc | apply pw_below_drewN | apply below_drew1) | exact HB.out))) : w.heap.size ≤ gb122)); have n3_ := Aside0.mk ((by rw [hg]; exact (below_size (by repeat (first | (with_reducible first | exact HB.out | apply below_alloc | apply pw_below_drewN | apply below_drew1) | exact HB.out))) : w.heap.size ≤ gb122)); clear HB; have HB := n0_; have BK122 := n1_; have GW122 := n2_; have GE122 := n3_; clear n0_ n1_ n2_ n3_; clear hb hbox hg; have hcz5_0 : w4.cell? ⟨gb122, 0, none⟩ = some (.int .i64 a0_0) := (blk_cell BK122.out 0).trans rfl; have hcz5_1 : w4.cell? ⟨gb122, 1, none⟩ = some (.int .i64 a0_1) := (blk_cell BK122.out 1).trans rfl; have hcz5_2 : w4.cell? ⟨gb122, 2, none⟩ = some (.int .i64 a0_2) := (blk_cell BK122.out 2).trans rfl; have hcz5_3 : w4.cell? ⟨gb122, 3, none⟩ = some (.bool a0_3) := (blk_cell BK122.out 3).trans rfl; have hfz5_0 := blk_frozen BK122.out 0; have hfz5_1 := blk_frozen BK122.out 1; have hfz5_2 := blk_frozen BK122.out 2; have hfz5_3 := blk_frozen BK122.out 3))
    repeat (go_quiet (first | ((with_reducible refine gate_dst (N := 2) rfl ?_); refine box_event ?hg (N := 2) ?hd (cs := #[.int .i64 a0_0, .int .i64 a0_1, .int .i64 a0_2, .bool a0_3]) (t := 34) ?hr ?_; (case hd => rfl); (case hg => rfl); (case hr => first | (go_simp; done) | (go_simp; rfl)); intro gb122 hg w4 hbox hb; have n0_ := Aside0.mk (below_step (by repeat (first | (with_reducible first | exact HB.out | apply below_alloc | apply pw_below_drewN | apply below_drew1) | exact HB.out)) hb); have n1_ := Aside0.mk (hbox); have n2_ := Aside0.mk ((by rw [hg]; exact (below_size (by repeat (first | (with_reducible first | exact HB.out | apply below_alloc | apply pw_below_drewN | apply below_drew1) | exact HB.out))) : w.heap.size ≤ gb122)); have n3_ := Aside0.mk ((by rw [hg]; exact (below_size (by repeat (first | (with_reducible first | exact HB.out | apply below_alloc | apply pw_below_drewN | apply below_drew1) | exact HB.out))) : w.heap.size ≤ gb122)); clear HB; have HB := n0_; have BK122 := n1_; have GW122 := n2_; have GE122 := n3_; clear n0_ n1_ n2_ n3_; clear hb hbox hg; have hcz5_0 : w4.cell? ⟨gb122, 0, none⟩ = some (.int .i64 a0_0) := (blk_cell BK122.out 0).trans rfl; have hcz5_1 : w4.cell? ⟨gb122, 1, none⟩ = some (.int .i64 a0_1) := (blk_cell BK122.out 1).trans rfl; have hcz5_2 : w4.cell? ⟨gb122, 2, none⟩ = some (.int .i64 a0_2) := (blk_cell BK122.out 2).trans rfl; have hcz5_3 : w4.cell? ⟨gb122, 3, none⟩ = some (.bool a0_3) := (blk_cell BK122.out 3).trans rfl; have hfz5_0 := blk_frozen BK122.out 0; have hfz5_1 := blk_frozen BK122.out 1; have hfz5_2 := blk_frozen BK122.out 2; have hfz5_3 := blk_frozen BK122.out 3)); try go_wp2_with (first | ((with_reducible refine gate_dst (N := 2) rfl ?_); refine box_event ?hg (N := 2) ?hd (cs := #[.int .i64 a0_0, .int .i64 a0_1, .int .i64 a0_2, .bool a0_3]) (t := 34) ?hr ?_; (case hd => rfl); (case hg => rfl); (case hr => first | (go_simp; done) | (go_simp; rfl)); intro gb122 hg w4 hbox hb; have n0_ := Aside0.mk (below_step (by repeat (first | (with_reducible first | exact HB.out | apply below_alloc | apply pw_below_drewN | apply below_drew1) | exact HB.out)) hb); have n1_ := Aside0.mk (hbox); have n2_ := Aside0.mk ((by rw [hg]; exact (below_size (by repeat (first | (with_reducible first | exact HB.out | apply below_alloc | apply pw_below_drewN | apply below_drew1) | exact HB.out))) : w.heap.size ≤ gb122)); have n3_ := Aside0.mk ((by rw [hg]; exact (below_size (by repeat (first | (with_reducible first | exact HB.out | apply below_alloc | apply pw_below_drewN | apply below_drew1) | exact HB.out))) : w.heap.size ≤ gb122)); clear HB; have HB := n0_; have BK122 := n1_; have GW122 := n2_; have GE122 := n3_; clear n0_ n1_ n2_ n3_; clear hb hbox hg; have hcz5_0 : w4.cell? ⟨gb122, 0, none⟩ = some (.int .i64 a0_0) := (blk_cell BK122.out 0).trans rfl; have hcz5_1 : w4.cell? ⟨gb122, 1, none⟩ = some (.int .i64 a0_1) := (blk_cell BK122.out 1).trans rfl; have hcz5_2 : w4.cell? ⟨gb122, 2, none⟩ = some (.int .i64 a0_2) := (blk_cell BK122.out 2).trans rfl; have hcz5_3 : w4.cell? ⟨gb122, 3, none⟩ = some (.bool a0_3) := (blk_cell BK122.out 3).trans rfl; have hfz5_0 := blk_frozen BK122.out 0; have hfz5_1 := blk_frozen BK122.out 1; have hfz5_2 := blk_frozen BK122.out 2; have hfz5_3 := blk_frozen BK122.out 3)))
    go_ret2
    exact ⟨by first | rfl | (simp [errW_none, errW_some] <;> rfl) | (simp [*, errW_none, errW_some] <;> rfl), by repeat (first | (with_reducible first | exact HB.out | apply below_alloc | apply pw_below_drewN | apply below_drew1 | refine below_set ?_ GE122.out) | exact HB.out)⟩
  · rw [if_neg c3] at H
    have c3b0 : (a0_0 == 2) = false := beq_eq_false_iff_ne.mpr c3
    have c3b1 : (a0_0 != 2) = true := bne_iff_ne.mpr c3
    have HC6 := Aside0.mk H
    clear H
    go_enter Tryd.func15, Tryd.ntmps15
    go_upto_if 14 with (first | ((with_reducible refine gate_dst (N := 2) rfl ?_); refine box_event ?hg (N := 2) ?hd (cs := #[.int .i64 a0_0, .int .i64 a0_1, .int .i64 a0_2, .bool a0_3]) (t := 34) ?hr ?_; (case hd => rfl); (case hg => rfl); (case hr => first | (go_simp; done) | (go_simp; rfl)); intro gb122 hg w7 hbox hb; have n0_ := Aside0.mk (below_step (by repeat (first | (with_reducible first | exact HB.out | apply below_alloc | apply pw_below_drewN | apply below_drew1) | exact HB.out)) hb); have n1_ := Aside0.mk (hbox); have n2_ := Aside0.mk ((by rw [hg]; exact (below_size (by repeat (first | (with_reducible first | exact HB.out | apply below_alloc | apply pw_below_drewN | apply below_drew1) | exact HB.out))) : w.heap.size ≤ gb122)); have n3_ := Aside0.mk ((by rw [hg]; exact (below_size (by repeat (first | (with_reducible first | exact HB.out | apply below_alloc | apply pw_below_drewN | apply below_drew1) | exact HB.out))) : w.heap.size ≤ gb122)); clear HB; have HB := n0_; have BK122 := n1_; have GW122 := n2_; have GE122 := n3_; clear n0_ n1_ n2_ n3_; clear hb hbox hg; have hcz8_0 : w7.cell? ⟨gb122, 0, none⟩ = some (.int .i64 a0_0) := (blk_cell BK122.out 0).trans rfl; have hcz8_1 : w7.cell? ⟨gb122, 1, none⟩ = some (.int .i64 a0_1) := (blk_cell BK122.out 1).trans rfl; have hcz8_2 : w7.cell? ⟨gb122, 2, none⟩ = some (.int .i64 a0_2) := (blk_cell BK122.out 2).trans rfl; have hcz8_3 : w7.cell? ⟨gb122, 3, none⟩ = some (.bool a0_3) := (blk_cell BK122.out 3).trans rfl; have hfz8_0 := blk_frozen BK122.out 0; have hfz8_1 := blk_frozen BK122.out 1; have hfz8_2 := blk_frozen BK122.out 2; have hfz8_3 := blk_frozen BK122.out 3))
    repeat (go_quiet (first | ((with_reducible refine gate_dst (N := 2) rfl ?_); refine box_event ?hg (N := 2) ?hd (cs := #[.int .i64 a0_0, .int .i64 a0_1, .int .i64 a0_2, .bool a0_3]) (t := 34) ?hr ?_; (case hd => rfl); (case hg => rfl); (case hr => first | (go_simp; done) | (go_simp; rfl)); intro gb122 hg w7 hbox hb; have n0_ := Aside0.mk (below_step (by repeat (first | (with_reducible first | exact HB.out | apply below_alloc | apply pw_below_drewN | apply below_drew1) | exact HB.out)) hb); have n1_ := Aside0.mk (hbox); have n2_ := Aside0.mk ((by rw [hg]; exact (below_size (by repeat (first | (with_reducible first | exact HB.out | apply below_alloc | apply pw_below_drewN | apply below_drew1) | exact HB.out))) : w.heap.size ≤ gb122)); have n3_ := Aside0.mk ((by rw [hg]; exact (below_size (by repeat (first | (with_reducible first | exact HB.out | apply below_alloc | apply pw_below_drewN | apply below_drew1) | exact HB.out))) : w.heap.size ≤ gb122)); clear HB; have HB := n0_; have BK122 := n1_; have GW122 := n2_; have GE122 := n3_; clear n0_ n1_ n2_ n3_; clear hb hbox hg; have hcz8_0 : w7.cell? ⟨gb122, 0, none⟩ = some (.int .i64 a0_0) := (blk_cell BK122.out 0).trans rfl; have hcz8_1 : w7.cell? ⟨gb122, 1, none⟩ = some (.int .i64 a0_1) := (blk_cell BK122.out 1).trans rfl; have hcz8_2 : w7.cell? ⟨gb122, 2, none⟩ = some (.int .i64 a0_2) := (blk_cell BK122.out 2).trans rfl; have hcz8_3 : w7.cell? ⟨gb122, 3, none⟩ = some (.bool a0_3) := (blk_cell BK122.out 3).trans rfl; have hfz8_0 := blk_frozen BK122.out 0; have hfz8_1 := blk_frozen BK122.out 1; have hfz8_2 := blk_frozen BK122.out 2; have hfz8_3 := blk_frozen BK122.out 3)); go_upto_if 14 with (first | ((with_reducible refine gate_dst (N := 2) rfl ?_); refine box_event ?hg (N := 2) ?hd (cs := #[.int .i64 a0_0, .int .i64 a0_1, .int .i64 a0_2, .bool a0_3]) (t := 34) ?hr ?_; (case hd => rfl); (case hg => rfl); (case hr => first | (go_simp; done) | (go_simp; rfl)); intro gb122 hg w7 hbox hb; have n0_ := Aside0.mk (below_step (by repeat (first | (with_reducible first | exact HB.out | apply below_alloc | apply pw_below_drewN | apply below_drew1) | exact HB.out)) hb); have n1_ := Aside0.mk (hbox); have n2_ := Aside0.mk ((by rw [hg]; exact (below_size (by repeat (first | (with_reducible first | exact HB.out | apply below_alloc | apply pw_below_drewN | apply below_drew1) | exact HB.out))) : w.heap.size ≤ gb122)); have n3_ := Aside0.mk ((by rw [hg]; exact (below_size (by repeat (first | (with_reducible first | exact HB.out | apply below_alloc | apply pw_below_drewN | apply below_drew1) | exact HB.out))) : w.heap.size ≤ gb122)); clear HB; have HB := n0_; have BK122 := n1_; have GW122 := n2_; have GE122 := n3_; clear n0_ n1_ n2_ n3_; clear hb hbox hg; have hcz8_0 : w7.cell? ⟨gb122, 0, none⟩ = some (.int .i64 a0_0) := (blk_cell BK122.out 0).trans rfl; have hcz8_1 : w7.cell? ⟨gb122, 1, none⟩ = some (.int .i64 a0_1) := (blk_cell BK122.out 1).trans rfl; have hcz8_2 : w7.cell? ⟨gb122, 2, none⟩ = some (.int .i64 a0_2) := (blk_cell BK122.out 2).trans rfl; have hcz8_3 : w7.cell? ⟨gb122, 3, none⟩ = some (.bool a0_3) := (blk_cell BK122.out 3).trans rfl; have hfz8_0 := blk_frozen BK122.out 0; have hfz8_1 := blk_frozen BK122.out 1; have hfz8_2 := blk_frozen BK122.out 2; have hfz8_3 := blk_frozen BK122.out 3)))
    (try simp only [Act.put, List.setIfInBounds_toArray, List.set_cons_zero, List.set_cons_succ])
    go_cut [14] (fun v14 wc => ∃ (kq : Nat) (x14_5 : Bool), v14 = .bool x14_5 ∧ Aside0 (spec_token_reach.j0 kq a1 a0_0 x14_5 a0_0 a0_1 a0_2 a0_3 = some (r1, r2)) ∧ Aside0 (kq ≤ k) ∧ Aside0 (wc.heap[gb122]? = some (.cells #[.int .i64 a0_0, .int .i64 a0_1, .int .i64 a0_2, .bool a0_3] 34 (0, 0))) ∧ Aside0 (Below w.heap.size w wc))
    case first =>
      have H := HC6.out
      clear HC6
      by_cases c9 : a0_0 = 3
      · rw [if_pos c9] at H
        have c9b0 : (a0_0 == 3) = true := beq_iff_eq.mpr c9
        have c9b1 : (a0_0 != 3) = false := bne_eq_false_iff_eq.mpr c9
        clear c9
        (first | rw [c9b0] | (simp only [i64_w, i32_w]; rw [c9b0]) | skip)
        have H' := Aside0.mk H
        clear H
        go_wp2
        repeat (go_quiet (fail); try go_wp2)
        go_meet
        case rel => exact ⟨_, ((a0_0 == 3)), (by first | rfl | (simp; done) | (simp [*]; done)), H', ⟨by first | omega | exact Nat.le_refl _⟩, ⟨by (with_reducible repeat (first | refine blk_drewN ?_ _ | refine blk_drew ?_ | refine blk_alloc ?_ _)); exact BK122.out⟩, ⟨by repeat (first | (with_reducible first | exact HB.out | apply below_alloc | apply pw_below_drewN | apply below_drew1 | refine below_set ?_ GE122.out) | exact HB.out)⟩⟩
      · rw [if_neg c9] at H
        have c9b0 : (a0_0 == 3) = false := beq_eq_false_iff_ne.mpr c9
        have c9b1 : (a0_0 != 3) = true := bne_iff_ne.mpr c9
        (first | rw [c9b0] | (simp only [i64_w, i32_w]; rw [c9b0]) | skip)
        have H' := Aside0.mk H
        clear H
        go_wp2
        repeat (go_quiet (fail); try go_wp2)
        go_meet
        case rel => exact ⟨_, ((a0_0 == 8)), (by first | rfl | (simp; done) | (simp [*]; done)), H', ⟨by first | omega | exact Nat.le_refl _⟩, ⟨by (with_reducible repeat (first | refine blk_drewN ?_ _ | refine blk_drew ?_ | refine blk_alloc ?_ _)); exact BK122.out⟩, ⟨by repeat (first | (with_reducible first | exact HB.out | apply below_alloc | apply pw_below_drewN | apply below_drew1 | refine below_set ?_ GE122.out) | exact HB.out)⟩⟩
    case rest =>
      clear HC6
      try clear c1
      try clear p2
      try clear c3
      try clear c3b0
      try clear c3b1
      try clear c9
      try clear c9b0
      try clear c9b1
      try clear hcz5_0
      try clear hcz5_1
      try clear hcz5_2
      try clear hcz5_3
      try clear hcz8_0
      try clear hcz8_1
      try clear hcz8_2
      try clear hcz8_3
      try clear hfz5_0
      try clear hfz5_1
      try clear hfz5_2
      try clear hfz5_3
      try clear hfz8_0
      try clear hfz8_1
      try clear hfz8_2
      try clear hfz8_3
      obtain ⟨kq, x14_5, rfl, HA, HJ5, BK122, HB⟩ := hcut
      cases kq with
      | zero => exact absurd HA.out (by simp [spec_token_reach.j0])
      | succ kj5 =>
        have H := HA.out
        clear HA
        simp only [spec_token_reach.j0] at H
        by_cases c10 : x14_5 = true
        · subst c10
          have H1 : (some (a0_1, a1)) = some (r1, r2) := by rw [if_pos rfl] at H; exact H
          clear H
          have H := H1
          clear H1
          simp only [Option.some.injEq, Prod.mk.injEq] at H
          obtain ⟨rfl, rfl⟩ := H
          have hcz11_0 : wc.cell? ⟨gb122, 0, none⟩ = some (.int .i64 a0_0) := (blk_cell BK122.out 0).trans rfl
          have hcz11_1 : wc.cell? ⟨gb122, 1, none⟩ = some (.int .i64 a0_1) := (blk_cell BK122.out 1).trans rfl
          have hcz11_2 : wc.cell? ⟨gb122, 2, none⟩ = some (.int .i64 a0_2) := (blk_cell BK122.out 2).trans rfl
          have hcz11_3 : wc.cell? ⟨gb122, 3, none⟩ = some (.bool a0_3) := (blk_cell BK122.out 3).trans rfl
          have hfz11_0 := blk_frozen BK122.out 0
          have hfz11_1 := blk_frozen BK122.out 1
          have hfz11_2 := blk_frozen BK122.out 2
          have hfz11_3 := blk_frozen BK122.out 3
          go_wp2
          repeat (go_quiet (fail); try go_wp2)
          go_ret2
          exact ⟨by first | rfl | (simp [errW_none, errW_some] <;> rfl) | (simp [*, errW_none, errW_some] <;> rfl), by repeat (first | (with_reducible first | exact HB.out | apply below_alloc | apply pw_below_drewN | apply below_drew1 | refine below_set ?_ GE122.out) | exact HB.out)⟩
        · replace c10 := Bool.eq_false_iff.mpr c10
          subst c10
          have H1 : (if a0_0 = 4 then (some (a0_1, a0_2)) else (if a0_0 = 5 then (some (1, a0_1)) else (if a0_0 = 6 then (some (1, a1)) else (if a0_0 = 7 then (some (1, wrap64 (a1 - a0_1))) else (if a0_0 = 9 then (some (a0_1, wrap64 (a1 - a0_2))) else (if a0_0 = 10 then (some (a1, a1)) else (if a0_0 = 11 then (some (wrap64 (a1 - a0_1), wrap64 (a1 - a0_1))) else (some (wrap64 (a1 - a0_1), a1))))))))) = some (r1, r2) := by rw [if_neg (show ¬ (false = true) by decide)] at H; exact H
          clear H
          have H := H1
          clear H1
          by_cases c12 : a0_0 = 4
          · rw [if_pos c12] at H
            have c12b0 : (a0_0 == 4) = true := beq_iff_eq.mpr c12
            have c12b1 : (a0_0 != 4) = false := bne_eq_false_iff_eq.mpr c12
            clear c12
            simp only [Option.some.injEq, Prod.mk.injEq] at H
            obtain ⟨rfl, rfl⟩ := H
            have hcz13_0 : wc.cell? ⟨gb122, 0, none⟩ = some (.int .i64 a0_0) := (blk_cell BK122.out 0).trans rfl
            have hcz13_1 : wc.cell? ⟨gb122, 1, none⟩ = some (.int .i64 a0_1) := (blk_cell BK122.out 1).trans rfl
            have hcz13_2 : wc.cell? ⟨gb122, 2, none⟩ = some (.int .i64 a0_2) := (blk_cell BK122.out 2).trans rfl
            have hcz13_3 : wc.cell? ⟨gb122, 3, none⟩ = some (.bool a0_3) := (blk_cell BK122.out 3).trans rfl
            have hfz13_0 := blk_frozen BK122.out 0
            have hfz13_1 := blk_frozen BK122.out 1
            have hfz13_2 := blk_frozen BK122.out 2
            have hfz13_3 := blk_frozen BK122.out 3
            go_wp2
            repeat (go_quiet (fail); try go_wp2)
            go_ret2
            exact ⟨by first | rfl | (simp [errW_none, errW_some] <;> rfl) | (simp [*, errW_none, errW_some] <;> rfl), by repeat (first | (with_reducible first | exact HB.out | apply below_alloc | apply pw_below_drewN | apply below_drew1 | refine below_set ?_ GE122.out) | exact HB.out)⟩
          · rw [if_neg c12] at H
            have c12b0 : (a0_0 == 4) = false := beq_eq_false_iff_ne.mpr c12
            have c12b1 : (a0_0 != 4) = true := bne_iff_ne.mpr c12
            by_cases c14 : a0_0 = 5
            · rw [if_pos c14] at H
              have c14b0 : (a0_0 == 5) = true := beq_iff_eq.mpr c14
              have c14b1 : (a0_0 != 5) = false := bne_eq_false_iff_eq.mpr c14
              clear c14
              simp only [Option.some.injEq, Prod.mk.injEq] at H
              obtain ⟨rfl, rfl⟩ := H
              have hcz15_0 : wc.cell? ⟨gb122, 0, none⟩ = some (.int .i64 a0_0) := (blk_cell BK122.out 0).trans rfl
              have hcz15_1 : wc.cell? ⟨gb122, 1, none⟩ = some (.int .i64 a0_1) := (blk_cell BK122.out 1).trans rfl
              have hcz15_2 : wc.cell? ⟨gb122, 2, none⟩ = some (.int .i64 a0_2) := (blk_cell BK122.out 2).trans rfl
              have hcz15_3 : wc.cell? ⟨gb122, 3, none⟩ = some (.bool a0_3) := (blk_cell BK122.out 3).trans rfl
              have hfz15_0 := blk_frozen BK122.out 0
              have hfz15_1 := blk_frozen BK122.out 1
              have hfz15_2 := blk_frozen BK122.out 2
              have hfz15_3 := blk_frozen BK122.out 3
              go_wp2
              repeat (go_quiet (fail); try go_wp2)
              go_ret2
              exact ⟨by first | rfl | (simp [errW_none, errW_some] <;> rfl) | (simp [*, errW_none, errW_some] <;> rfl), by repeat (first | (with_reducible first | exact HB.out | apply below_alloc | apply pw_below_drewN | apply below_drew1 | refine below_set ?_ GE122.out) | exact HB.out)⟩
            · rw [if_neg c14] at H
              have c14b0 : (a0_0 == 5) = false := beq_eq_false_iff_ne.mpr c14
              have c14b1 : (a0_0 != 5) = true := bne_iff_ne.mpr c14
              by_cases c16 : a0_0 = 6
              · rw [if_pos c16] at H
                have c16b0 : (a0_0 == 6) = true := beq_iff_eq.mpr c16
                have c16b1 : (a0_0 != 6) = false := bne_eq_false_iff_eq.mpr c16
                clear c16
                simp only [Option.some.injEq, Prod.mk.injEq] at H
                obtain ⟨rfl, rfl⟩ := H
                go_wp2
                repeat (go_quiet (fail); try go_wp2)
                go_ret2
                exact ⟨by first | rfl | (simp [errW_none, errW_some] <;> rfl) | (simp [*, errW_none, errW_some] <;> rfl), by repeat (first | (with_reducible first | exact HB.out | apply below_alloc | apply pw_below_drewN | apply below_drew1 | refine below_set ?_ GE122.out) | exact HB.out)⟩
              · rw [if_neg c16] at H
                have c16b0 : (a0_0 == 6) = false := beq_eq_false_iff_ne.mpr c16
                have c16b1 : (a0_0 != 6) = true := bne_iff_ne.mpr c16
                by_cases c17 : a0_0 = 7
                · rw [if_pos c17] at H
                  have c17b0 : (a0_0 == 7) = true := beq_iff_eq.mpr c17
                  have c17b1 : (a0_0 != 7) = false := bne_eq_false_iff_eq.mpr c17
                  clear c17
                  simp only [Option.some.injEq, Prod.mk.injEq] at H
                  obtain ⟨rfl, rfl⟩ := H
                  have hcz18_0 : wc.cell? ⟨gb122, 0, none⟩ = some (.int .i64 a0_0) := (blk_cell BK122.out 0).trans rfl
                  have hcz18_1 : wc.cell? ⟨gb122, 1, none⟩ = some (.int .i64 a0_1) := (blk_cell BK122.out 1).trans rfl
                  have hcz18_2 : wc.cell? ⟨gb122, 2, none⟩ = some (.int .i64 a0_2) := (blk_cell BK122.out 2).trans rfl
                  have hcz18_3 : wc.cell? ⟨gb122, 3, none⟩ = some (.bool a0_3) := (blk_cell BK122.out 3).trans rfl
                  have hfz18_0 := blk_frozen BK122.out 0
                  have hfz18_1 := blk_frozen BK122.out 1
                  have hfz18_2 := blk_frozen BK122.out 2
                  have hfz18_3 := blk_frozen BK122.out 3
                  go_wp2
                  repeat (go_quiet (fail); try go_wp2)
                  go_ret2
                  exact ⟨by first | rfl | (simp [errW_none, errW_some] <;> rfl) | (simp [*, errW_none, errW_some] <;> rfl), by repeat (first | (with_reducible first | exact HB.out | apply below_alloc | apply pw_below_drewN | apply below_drew1 | refine below_set ?_ GE122.out) | exact HB.out)⟩
                · rw [if_neg c17] at H
                  have c17b0 : (a0_0 == 7) = false := beq_eq_false_iff_ne.mpr c17
                  have c17b1 : (a0_0 != 7) = true := bne_iff_ne.mpr c17
                  by_cases c19 : a0_0 = 9
                  · rw [if_pos c19] at H
                    have c19b0 : (a0_0 == 9) = true := beq_iff_eq.mpr c19
                    have c19b1 : (a0_0 != 9) = false := bne_eq_false_iff_eq.mpr c19
                    clear c19
                    simp only [Option.some.injEq, Prod.mk.injEq] at H
                    obtain ⟨rfl, rfl⟩ := H
                    have hcz20_0 : wc.cell? ⟨gb122, 0, none⟩ = some (.int .i64 a0_0) := (blk_cell BK122.out 0).trans rfl
                    have hcz20_1 : wc.cell? ⟨gb122, 1, none⟩ = some (.int .i64 a0_1) := (blk_cell BK122.out 1).trans rfl
                    have hcz20_2 : wc.cell? ⟨gb122, 2, none⟩ = some (.int .i64 a0_2) := (blk_cell BK122.out 2).trans rfl
                    have hcz20_3 : wc.cell? ⟨gb122, 3, none⟩ = some (.bool a0_3) := (blk_cell BK122.out 3).trans rfl
                    have hfz20_0 := blk_frozen BK122.out 0
                    have hfz20_1 := blk_frozen BK122.out 1
                    have hfz20_2 := blk_frozen BK122.out 2
                    have hfz20_3 := blk_frozen BK122.out 3
                    go_wp2
                    repeat (go_quiet (fail); try go_wp2)
                    go_ret2
                    exact ⟨by first | rfl | (simp [errW_none, errW_some] <;> rfl) | (simp [*, errW_none, errW_some] <;> rfl), by repeat (first | (with_reducible first | exact HB.out | apply below_alloc | apply pw_below_drewN | apply below_drew1 | refine below_set ?_ GE122.out) | exact HB.out)⟩
                  · rw [if_neg c19] at H
                    have c19b0 : (a0_0 == 9) = false := beq_eq_false_iff_ne.mpr c19
                    have c19b1 : (a0_0 != 9) = true := bne_iff_ne.mpr c19
                    by_cases c21 : a0_0 = 10
                    · rw [if_pos c21] at H
                      have c21b0 : (a0_0 == 10) = true := beq_iff_eq.mpr c21
                      have c21b1 : (a0_0 != 10) = false := bne_eq_false_iff_eq.mpr c21
                      clear c21
                      simp only [Option.some.injEq, Prod.mk.injEq] at H
                      obtain ⟨rfl, rfl⟩ := H
                      go_wp2
                      repeat (go_quiet (fail); try go_wp2)
                      go_ret2
                      exact ⟨by first | rfl | (simp [errW_none, errW_some] <;> rfl) | (simp [*, errW_none, errW_some] <;> rfl), by repeat (first | (with_reducible first | exact HB.out | apply below_alloc | apply pw_below_drewN | apply below_drew1 | refine below_set ?_ GE122.out) | exact HB.out)⟩
                    · rw [if_neg c21] at H
                      have c21b0 : (a0_0 == 10) = false := beq_eq_false_iff_ne.mpr c21
                      have c21b1 : (a0_0 != 10) = true := bne_iff_ne.mpr c21
                      by_cases c22 : a0_0 = 11
                      · rw [if_pos c22] at H
                        have c22b0 : (a0_0 == 11) = true := beq_iff_eq.mpr c22
                        have c22b1 : (a0_0 != 11) = false := bne_eq_false_iff_eq.mpr c22
                        clear c22
                        simp only [Option.some.injEq, Prod.mk.injEq] at H
                        obtain ⟨rfl, rfl⟩ := H
                        have hcz23_0 : wc.cell? ⟨gb122, 0, none⟩ = some (.int .i64 a0_0) := (blk_cell BK122.out 0).trans rfl
                        have hcz23_1 : wc.cell? ⟨gb122, 1, none⟩ = some (.int .i64 a0_1) := (blk_cell BK122.out 1).trans rfl
                        have hcz23_2 : wc.cell? ⟨gb122, 2, none⟩ = some (.int .i64 a0_2) := (blk_cell BK122.out 2).trans rfl
                        have hcz23_3 : wc.cell? ⟨gb122, 3, none⟩ = some (.bool a0_3) := (blk_cell BK122.out 3).trans rfl
                        have hfz23_0 := blk_frozen BK122.out 0
                        have hfz23_1 := blk_frozen BK122.out 1
                        have hfz23_2 := blk_frozen BK122.out 2
                        have hfz23_3 := blk_frozen BK122.out 3
                        go_wp2
                        repeat (go_quiet (fail); try go_wp2)
                        go_ret2
                        exact ⟨by first | rfl | (simp [errW_none, errW_some] <;> rfl) | (simp [*, errW_none, errW_some] <;> rfl), by repeat (first | (with_reducible first | exact HB.out | apply below_alloc | apply pw_below_drewN | apply below_drew1 | refine below_set ?_ GE122.out) | exact HB.out)⟩
                      · rw [if_neg c22] at H
                        have c22b0 : (a0_0 == 11) = false := beq_eq_false_iff_ne.mpr c22
                        have c22b1 : (a0_0 != 11) = true := bne_iff_ne.mpr c22
                        simp only [Option.some.injEq, Prod.mk.injEq] at H
                        obtain ⟨rfl, rfl⟩ := H
                        have hcz24_0 : wc.cell? ⟨gb122, 0, none⟩ = some (.int .i64 a0_0) := (blk_cell BK122.out 0).trans rfl
                        have hcz24_1 : wc.cell? ⟨gb122, 1, none⟩ = some (.int .i64 a0_1) := (blk_cell BK122.out 1).trans rfl
                        have hcz24_2 : wc.cell? ⟨gb122, 2, none⟩ = some (.int .i64 a0_2) := (blk_cell BK122.out 2).trans rfl
                        have hcz24_3 : wc.cell? ⟨gb122, 3, none⟩ = some (.bool a0_3) := (blk_cell BK122.out 3).trans rfl
                        have hfz24_0 := blk_frozen BK122.out 0
                        have hfz24_1 := blk_frozen BK122.out 1
                        have hfz24_2 := blk_frozen BK122.out 2
                        have hfz24_3 := blk_frozen BK122.out 3
                        go_wp2
                        repeat (go_quiet (fail); try go_wp2)
                        go_ret2
                        exact ⟨by first | rfl | (simp [errW_none, errW_some] <;> rfl) | (simp [*, errW_none, errW_some] <;> rfl), by repeat (first | (with_reducible first | exact HB.out | apply below_alloc | apply pw_below_drewN | apply below_drew1 | refine below_set ?_ GE122.out) | exact HB.out)⟩

end Go.Proofs.YthfihamhkhnckaaDoor.PFnCollected
