-- PRINTED BY print.sh 35421559b90ae4d0a3588c463048766b98c2df88dd9212a6774a882060cdf62d: not written by this session
import Derived.Test.YtmngibfakkfnnaaPFnLinesx0
namespace Go.Proofs.Ytmngibfakkfnnaa.PFnLines
open Go.RowKit Go.Proofs.YtmngibfakkfnnaaW.PrintWords Go.Proofs.YtmngibfakkfnnaaW.PrintLast Go.Proofs.YtmngibfakkfnnaaW.PrintMore
attribute [local go_sem] max2_int min2_int max_two min_two max_three min_three max_four min_four   -- for this text's walks alone
set_option linter.unusedVariables false
set_option linter.unusedSimpArgs false

/-! ### spec_Lines: function 26 -/
mutual
def spec_Lines.l0 : Nat → List Int → List (List Int) → Int → Int → Option ((List (List Int)))
  | 0, _, _, _, _ => none
  | k + 1, x0, x3, x4, x5 => if x5 < (x0.length : Int) then (if 0 ≤ x5 then (if (rd x0 x5) = 13 then (spec_Lines.j1 k x0 x3 x4 x5 false) else (spec_Lines.j1 k x0 x3 x4 x5 ((rd x0 x5) != 10))) else (none)) else (if x4 < (x0.length : Int) then (if 0 ≤ x4 then (if x4 ≤ (x0.length : Int) then (if x3.length < 5864062014805 then (some (x3 ++ [(x0.drop (x4 : Int).toNat)])) else (none)) else (none)) else (none)) else (some x3))
def spec_Lines.j1 : Nat → List Int → List (List Int) → Int → Int → Bool → Option ((List (List Int)))
  | 0, _, _, _, _, _ => none
  | k + 1, x0, x3, x4, x5, x23 => if x23 = true then (spec_Lines.l0 k x0 x3 x4 (wrap64 (x5 + 1))) else (if 0 ≤ x4 then (if x4 ≤ x5 then (if x5 ≤ (x0.length : Int) then (if x3.length < 5864062014805 then ((some (x3 ++ [((x0.take (x5 : Int).toNat).drop (x4 : Int).toNat)] : List (List Int))).bind fun y116 => (if 0 ≤ x5 then (if x5 < (x0.length : Int) then (if (rd x0 x5) = 13 then (if (wrap64 (x5 + 1)) < (x0.length : Int) then (if 0 ≤ (wrap64 (x5 + 1)) then (if (rd x0 (wrap64 (x5 + 1))) = 10 then (spec_Lines.l0 k x0 y116 (wrap64 ((wrap64 (x5 + 1)) + 1)) (wrap64 ((wrap64 (x5 + 1)) + 1))) else (spec_Lines.l0 k x0 y116 (wrap64 (x5 + 1)) (wrap64 (x5 + 1)))) else (none)) else (spec_Lines.l0 k x0 y116 (wrap64 (x5 + 1)) (wrap64 (x5 + 1)))) else (spec_Lines.l0 k x0 y116 (wrap64 (x5 + 1)) (wrap64 (x5 + 1)))) else (none)) else (none))) else (none)) else (none)) else (none)) else (none))
end
def spec_Lines.f (k : Nat) (l0 : List Int) : Option ((List (List Int))) := spec_Lines.l0 k l0 ([] : List (List Int)) 0 0
theorem spec_Lines.mono_l : ∀ k, (∀ y0 y1 y2 y3, LeO (spec_Lines.l0 k y0 y1 y2 y3) (spec_Lines.l0 (k + 1) y0 y1 y2 y3)) ∧ (∀ y0 y1 y2 y3 y4, LeO (spec_Lines.j1 k y0 y1 y2 y3 y4) (spec_Lines.j1 (k + 1) y0 y1 y2 y3 y4))
  | 0 => ⟨fun _ _ _ _ r h => by simp [spec_Lines.l0] at h, fun _ _ _ _ _ r h => by simp [spec_Lines.j1] at h⟩
  | k + 1 => by
    obtain ⟨ih0, ih1⟩ := spec_Lines.mono_l k
    refine ⟨?_, ?_⟩
    · intro y0 y1 y2 y3
      unfold spec_Lines.l0
      repeat' first
      | (with_reducible exact ih0 _ _ _ _)
      | (with_reducible exact ih1 _ _ _ _ _)
      | (with_reducible exact LeO.refl _)
      | (with_reducible exact LeO.none _)
      | (with_reducible refine LeO.ite ?_ ?_)
      | (with_reducible refine LeO.bind ?_ (fun _ => ?_))
      | exact ih0 _ _ _ _
      | exact ih1 _ _ _ _ _
      | exact LeO.none _
      | refine LeO.ite ?_ ?_
      | refine LeO.bind ?_ (fun _ => ?_)
    · intro y0 y1 y2 y3 y4
      unfold spec_Lines.j1
      repeat' first
      | (with_reducible exact ih0 _ _ _ _)
      | (with_reducible exact ih1 _ _ _ _ _)
      | (with_reducible exact LeO.refl _)
      | (with_reducible exact LeO.none _)
      | (with_reducible refine LeO.ite ?_ ?_)
      | (with_reducible refine LeO.bind ?_ (fun _ => ?_))
      | exact ih0 _ _ _ _
      | exact ih1 _ _ _ _ _
      | exact LeO.none _
      | refine LeO.ite ?_ ?_
      | refine LeO.bind ?_ (fun _ => ?_)
theorem spec_Lines.mono : ∀ a0 k, LeO (spec_Lines.f k a0) (spec_Lines.f (k + 1) a0) := by
  intro a0 k
  obtain ⟨ih0, ih1⟩ := spec_Lines.mono_l k
  unfold spec_Lines.f
  repeat' first
      | (with_reducible exact ih0 _ _ _ _)
      | (with_reducible exact ih1 _ _ _ _ _)
      | (with_reducible exact LeO.refl _)
      | (with_reducible exact LeO.none _)
      | (with_reducible refine LeO.ite ?_ ?_)
      | (with_reducible refine LeO.bind ?_ (fun _ => ?_))
      | exact ih0 _ _ _ _
      | exact ih1 _ _ _ _ _
      | exact LeO.none _
      | refine LeO.ite ?_ ?_
      | refine LeO.bind ?_ (fun _ => ?_)
set_option maxHeartbeats 8000000 in
set_option maxRecDepth 100000 in
theorem spec_Lines.calls (k : Nat) (P0_ : Nat → Prop) (A0 : Option Addr) (c0 : Nat) (l0 : List Int) (r : List (List Int)) (w : World) (hs0 : Kd.V (Kd.int .u8) 5 w w.heap.size (fun k_ => P0_ k_) (.slice A0 l0.length c0) l0) (h : spec_Lines.f k l0 = some r) :
    Calls Try.prog 26 #[.slice A0 l0.length c0] w fun e w' => ∃ v0_ : Value, e = .returned (v0_) ∧ Kd.N (Kd.slice 5 (Kd.int .u8)) 35 w' w.heap.size (fun k_ => (P0_ k_ ∨ w.heap.size ≤ k_)) v0_ r ∧ Below w.heap.size w w' := by
  have HO0 := Aside0.mk (show Kd.V (Kd.int .u8) 5 w w.heap.size (fun k_ => (P0_ k_ ∨ w.heap.size ≤ k_)) (.slice A0 l0.length c0) l0 from Kd.V_mono hs0 (fun k_ hk => .inl hk))
  have HB := Aside0.mk (Below.refl w.heap.size w)
  have H : (spec_Lines.l0 k l0 ([] : List (List Int)) 0 0) = some r := h
  clear h
  have H' := Aside0.mk H
  clear H
  go_enter Try.func26, Try.ntmps26
  go_wp2
  go_loopg [3, 4, 5] k (fun kq v3 v4 v5 w' => ∃ (x3_1 : List (List Int)) (x4_1 : Int) (x5_1 : Int), v4 = .int .i64 x4_1 ∧ v5 = .int .i64 x5_1 ∧ Aside0 (spec_Lines.l0 kq l0 x3_1 x4_1 x5_1 = some r) ∧ Aside0 (kq ≤ k) ∧ Aside0 (Kd.V (Kd.int .u8) 5 w' w.heap.size (fun k_ => (P0_ k_ ∨ w.heap.size ≤ k_) ∧ some k_ ≠ (v3 : Value).ownBlock) (.slice A0 l0.length c0) l0) ∧ Aside0 (Kd.N (Kd.slice 5 (Kd.int .u8)) 35 w' w.heap.size (fun k_ => (P0_ k_ ∨ w.heap.size ≤ k_)) v3 x3_1) ∧ Aside0 (Below w.heap.size w w'))
  case atStart => exact ⟨(([] : List (List Int))), (0), (0), (by first | rfl | (simp; done) | (simp [*]; done)), (by first | rfl | (simp; done) | (simp [*]; done)), H', ⟨Nat.le_refl _⟩, ⟨by (with_reducible repeat (first | apply Kd.V_alloc | apply Kd.V_drewN | apply Kd.V_drew)); exact Kd.V_mono HO0.out (fun _ hk => ⟨hk, (by simp [Value.ownBlock])⟩)⟩, ⟨by first | exact Kd.S_nil _ _ _ _ _ | exact Kd.N_nil _ _ _ _ _ | exact Kd.V_nil _ _ _ _ _ | exact Kd.Q_nil _ _ _ _ _ | exact Kd.R_nil _ _ _ _ _⟩, ⟨by repeat (first | (with_reducible first | exact HB.out | apply below_alloc | apply pw_below_drewN | apply below_drew1) | exact HB.out)⟩⟩
  case round =>
    clear H'
    obtain ⟨x3_1, x4_1, x5_1, rfl, rfl, HA, HK1, HO_0, HO_3, HB⟩ := hrel
    cases gk with
    | zero => exact absurd HA.out (by simp [spec_Lines.l0])
    | succ k1 =>
      have H := HA.out
      clear HA
      simp only [spec_Lines.l0] at H
      by_cases c2 : x5_1 < (l0.length : Int)
      · rw [if_pos c2] at H
        have c2b0 : decide (x5_1 < (l0.length : Int)) = true := decide_eq_true c2
        clear c2
        have HC3 := Aside0.mk H
        clear H
        go_upto_region 6 with (fail)
        go_cut [23] (fun v23 wc => ∃ (kq : Nat) (x23_2 : Bool), v23 = .bool x23_2 ∧ Aside0 (spec_Lines.j1 kq l0 x3_1 x4_1 x5_1 x23_2 = some r) ∧ Aside0 (kq ≤ k1) ∧ Aside0 (Kd.V (Kd.int .u8) 5 wc w.heap.size (fun k_ => (P0_ k_ ∨ w.heap.size ≤ k_) ∧ some k_ ≠ (u3 : Value).ownBlock) (.slice A0 l0.length c0) l0) ∧ Aside0 (Kd.N (Kd.slice 5 (Kd.int .u8)) 35 wc w.heap.size (fun k_ => (P0_ k_ ∨ w.heap.size ≤ k_)) u3 x3_1) ∧ Aside0 (Below w.heap.size w wc))
        case first =>
          have H := HC3.out
          clear HC3
          by_cases c4 : 0 ≤ x5_1
          · rw [if_pos c4] at H
            have c4b0 : decide (0 ≤ x5_1) = true := decide_eq_true c4
            clear c4
            (first | rw [c4b0] | (simp only [i64_w, i32_w]; rw [c4b0]) | skip)
            by_cases c5 : (rd l0 x5_1) = 13
            · rw [if_pos c5] at H
              have c5b0 : ((rd l0 x5_1) == 13) = true := beq_iff_eq.mpr c5
              have c5b1 : ((rd l0 x5_1) != 13) = false := bne_eq_false_iff_eq.mpr c5
              clear c5
              have H' := Aside0.mk H
              clear H
              have p109 : 0 ≤ (x5_1 : Int) := of_decide_eq_true (by first | (with_reducible assumption) | assumption)
              have q109 : x5_1 < (l0.length : Int) := of_decide_eq_true (by first | (with_reducible assumption) | assumption)
              obtain ⟨ad109, e109, hx109_0⟩ := Kd.at_int (Kd.V_reads' HO_0.out).2.2 x5_1 p109 q109
              cases e109
              replace p109 := eq_true p109
              replace q109 := eq_true q109
              go_wp2
              go_meet
              case rel => exact ⟨_, (false), (by first | rfl | (simp; done) | (simp [*]; done)), H', ⟨by have := HK1.out; first | omega | exact Nat.le_refl _⟩, ⟨by (with_reducible repeat (first | apply Kd.V_alloc | apply Kd.V_drewN | apply Kd.V_drew)); exact HO_0.out⟩, ⟨by (with_reducible repeat (first | apply Kd.N_alloc | apply Kd.N_drewN | apply Kd.N_drew)); exact HO_3.out⟩, ⟨by repeat (first | (with_reducible first | exact HB.out | apply below_alloc | apply pw_below_drewN | apply below_drew1) | exact HB.out)⟩⟩
            · rw [if_neg c5] at H
              have c5b0 : ((rd l0 x5_1) == 13) = false := beq_eq_false_iff_ne.mpr c5
              have c5b1 : ((rd l0 x5_1) != 13) = true := bne_iff_ne.mpr c5
              have H' := Aside0.mk H
              clear H
              have p109 : 0 ≤ (x5_1 : Int) := of_decide_eq_true (by first | (with_reducible assumption) | assumption)
              have q109 : x5_1 < (l0.length : Int) := of_decide_eq_true (by first | (with_reducible assumption) | assumption)
              obtain ⟨ad109, e109, hx109_0⟩ := Kd.at_int (Kd.V_reads' HO_0.out).2.2 x5_1 p109 q109
              cases e109
              replace p109 := eq_true p109
              replace q109 := eq_true q109
              have p110 : 0 ≤ (x5_1 : Int) := of_decide_eq_true (by first | (with_reducible assumption) | assumption)
              have q110 : x5_1 < (l0.length : Int) := of_decide_eq_true (by first | (with_reducible assumption) | assumption)
              obtain ⟨ad110, e110, hx110_0⟩ := Kd.at_int (Kd.V_reads' HO_0.out).2.2 x5_1 p110 q110
              obtain rfl : ad109 = ad110 := (by injection e110)
              replace p110 := eq_true p110
              replace q110 := eq_true q110
              go_wp2
              go_meet
              case rel => exact ⟨_, (((rd l0 x5_1) != 10)), (by first | rfl | (simp; done) | (simp [*]; done)), H', ⟨by have := HK1.out; first | omega | exact Nat.le_refl _⟩, ⟨by (with_reducible repeat (first | apply Kd.V_alloc | apply Kd.V_drewN | apply Kd.V_drew)); exact HO_0.out⟩, ⟨by (with_reducible repeat (first | apply Kd.N_alloc | apply Kd.N_drewN | apply Kd.N_drew)); exact HO_3.out⟩, ⟨by repeat (first | (with_reducible first | exact HB.out | apply below_alloc | apply pw_below_drewN | apply below_drew1) | exact HB.out)⟩⟩
          · rw [if_neg c4] at H
            exact absurd H (by simp)
        case rest =>
          clear HC3
          try clear p1
          try clear q1
          try clear hx1
          try clear c2
          try clear c2b0
          try clear p2
          try clear c4
          try clear c4b0
          try clear c5
          try clear c5b0
          try clear c5b1
          try clear hx109_0
          try clear hx110_0
          try clear p109
          try clear p110
          try clear q109
          try clear q110
          obtain ⟨kq, x23_2, rfl, HA, HJ2, HO_0, HO_3, HB⟩ := hcut
          cases kq with
          | zero => exact absurd HA.out (by simp [spec_Lines.j1])
          | succ kj2 =>
            have H := HA.out
            clear HA
            simp only [spec_Lines.j1] at H
            by_cases c6 : x23_2 = true
            · subst c6
              have H1 : (spec_Lines.l0 kj2 l0 x3_1 x4_1 (wrap64 (x5_1 + 1))) = some r := by rw [if_pos rfl] at H; exact H
              clear H
              have H := H1
              clear H1
              have H' := Aside0.mk H
              clear H
              go_wp2
              go_roundg kj2
              case measure => have := HK1.out; have := HJ2.out; omega
              case rel => exact ⟨(x3_1), (x4_1), (wrap64 (x5_1 + 1)), (by first | rfl | (simp; done) | (simp [*]; done)), (by first | rfl | (simp; done) | (simp [*]; done)), H', ⟨by have := HK1.out; have := HJ2.out; omega⟩, ⟨by (with_reducible repeat (first | apply Kd.V_alloc | apply Kd.V_drewN | apply Kd.V_drew)); exact HO_0.out⟩, ⟨by (with_reducible repeat (first | apply Kd.N_alloc | apply Kd.N_drewN | apply Kd.N_drew)); exact HO_3.out⟩, ⟨by repeat (first | (with_reducible first | exact HB.out | apply below_alloc | apply pw_below_drewN | apply below_drew1) | exact HB.out)⟩⟩
            · replace c6 := Bool.eq_false_iff.mpr c6
              subst c6
              have H1 : (if 0 ≤ x4_1 then (if x4_1 ≤ x5_1 then (if x5_1 ≤ (l0.length : Int) then (if x3_1.length < 5864062014805 then ((some (x3_1 ++ [((l0.take (x5_1 : Int).toNat).drop (x4_1 : Int).toNat)] : List (List Int))).bind fun y116 => (if 0 ≤ x5_1 then (if x5_1 < (l0.length : Int) then (if (rd l0 x5_1) = 13 then (if (wrap64 (x5_1 + 1)) < (l0.length : Int) then (if 0 ≤ (wrap64 (x5_1 + 1)) then (if (rd l0 (wrap64 (x5_1 + 1))) = 10 then (spec_Lines.l0 kj2 l0 y116 (wrap64 ((wrap64 (x5_1 + 1)) + 1)) (wrap64 ((wrap64 (x5_1 + 1)) + 1))) else (spec_Lines.l0 kj2 l0 y116 (wrap64 (x5_1 + 1)) (wrap64 (x5_1 + 1)))) else (none)) else (spec_Lines.l0 kj2 l0 y116 (wrap64 (x5_1 + 1)) (wrap64 (x5_1 + 1)))) else (spec_Lines.l0 kj2 l0 y116 (wrap64 (x5_1 + 1)) (wrap64 (x5_1 + 1)))) else (none)) else (none))) else (none)) else (none)) else (none)) else (none)) = some r := by rw [if_neg (show ¬ (false = true) by decide)] at H; exact H
              clear H
              have H := H1
              clear H1
              by_cases c7 : 0 ≤ x4_1
              · rw [if_pos c7] at H
                have c7b0 := eq_true c7
                have c7b1 : decide (0 ≤ x4_1) = true := decide_eq_true c7
                clear c7
                by_cases c8 : x4_1 ≤ x5_1
                · rw [if_pos c8] at H
                  have c8b0 := eq_true c8
                  have c8b1 : decide (x4_1 ≤ x5_1) = true := decide_eq_true c8
                  clear c8
                  by_cases c9 : x5_1 ≤ (l0.length : Int)
                  · rw [if_pos c9] at H
                    have c9b0 := eq_true c9
                    have c9b1 : decide (x5_1 ≤ (l0.length : Int)) = true := decide_eq_true c9
                    clear c9
                    obtain ⟨y111, hy111⟩ : ∃ y_ : List Int, y_ = ((l0.take (x5_1 : Int).toNat).drop (x4_1 : Int).toNat) := ⟨_, rfl⟩
                    replace H : (if x3_1.length < 5864062014805 then ((some (x3_1 ++ [y111] : List (List Int))).bind fun y116 => (if 0 ≤ x5_1 then (if x5_1 < (l0.length : Int) then (if (rd l0 x5_1) = 13 then (if (wrap64 (x5_1 + 1)) < (l0.length : Int) then (if 0 ≤ (wrap64 (x5_1 + 1)) then (if (rd l0 (wrap64 (x5_1 + 1))) = 10 then (spec_Lines.l0 kj2 l0 y116 (wrap64 ((wrap64 (x5_1 + 1)) + 1)) (wrap64 ((wrap64 (x5_1 + 1)) + 1))) else (spec_Lines.l0 kj2 l0 y116 (wrap64 (x5_1 + 1)) (wrap64 (x5_1 + 1)))) else (none)) else (spec_Lines.l0 kj2 l0 y116 (wrap64 (x5_1 + 1)) (wrap64 (x5_1 + 1)))) else (spec_Lines.l0 kj2 l0 y116 (wrap64 (x5_1 + 1)) (wrap64 (x5_1 + 1)))) else (none)) else (none))) else (none)) = some r := by first | (rw [hy111]; with_reducible exact H) | (have H2_ := (Option.bind_some _ _).symm.trans H; rw [hy111]; with_reducible exact H2_) | (have H2_ := (Option.bind_some _ _).symm.trans H; with_reducible exact H2_) | with_reducible exact H | (rw [hy111]; exact H) | exact H
                    have Ny111 := Aside0.mk hy111
                    clear hy111
                    by_cases c10 : x3_1.length < 5864062014805
                    · rw [if_pos c10] at H
                      have LMc10 := Aside0.mk c10
                      clear c10
                      obtain ⟨y116, hy116⟩ : ∃ y_ : List (List Int), y_ = (x3_1 ++ [y111]) := ⟨_, rfl⟩
                      replace H : (if 0 ≤ x5_1 then (if x5_1 < (l0.length : Int) then (if (rd l0 x5_1) = 13 then (if (wrap64 (x5_1 + 1)) < (l0.length : Int) then (if 0 ≤ (wrap64 (x5_1 + 1)) then (if (rd l0 (wrap64 (x5_1 + 1))) = 10 then (spec_Lines.l0 kj2 l0 y116 (wrap64 ((wrap64 (x5_1 + 1)) + 1)) (wrap64 ((wrap64 (x5_1 + 1)) + 1))) else (spec_Lines.l0 kj2 l0 y116 (wrap64 (x5_1 + 1)) (wrap64 (x5_1 + 1)))) else (none)) else (spec_Lines.l0 kj2 l0 y116 (wrap64 (x5_1 + 1)) (wrap64 (x5_1 + 1)))) else (spec_Lines.l0 kj2 l0 y116 (wrap64 (x5_1 + 1)) (wrap64 (x5_1 + 1)))) else (none)) else (none)) = some r := by first | (rw [hy116]; with_reducible exact H) | (have H2_ := (Option.bind_some _ _).symm.trans H; rw [hy116]; with_reducible exact H2_) | (have H2_ := (Option.bind_some _ _).symm.trans H; with_reducible exact H2_) | with_reducible exact H | (rw [hy116]; exact H) | exact H
                      have Ny116 := Aside0.mk hy116
                      clear hy116
                      by_cases c11 : 0 ≤ x5_1
                      · rw [if_pos c11] at H
                        have c11b0 : decide (0 ≤ x5_1) = true := decide_eq_true c11
                        clear c11
                        by_cases c12 : x5_1 < (l0.length : Int)
                        · rw [if_pos c12] at H
                          have c12b0 : decide (x5_1 < (l0.length : Int)) = true := decide_eq_true c12
                          clear c12
                          by_cases c13 : (rd l0 x5_1) = 13
                          · rw [if_pos c13] at H
                            have c13b0 : ((rd l0 x5_1) == 13) = true := beq_iff_eq.mpr c13
                            have c13b1 : ((rd l0 x5_1) != 13) = false := bne_eq_false_iff_eq.mpr c13
                            clear c13
                            by_cases c14 : (wrap64 (x5_1 + 1)) < (l0.length : Int)
                            · rw [if_pos c14] at H
                              have c14b0 : decide ((wrap64 (x5_1 + 1)) < (l0.length : Int)) = true := decide_eq_true c14
                              clear c14
                              obtain ⟨ji15, hji15⟩ : ∃ j_ : Int, (wrap64 (x5_1 + 1)) = j_ := ⟨_, rfl⟩
                              replace H : (if 0 ≤ (ji15) then (if (rd l0 (ji15)) = 10 then (spec_Lines.l0 kj2 l0 y116 (wrap64 ((ji15) + 1)) (wrap64 ((ji15) + 1))) else (spec_Lines.l0 kj2 l0 y116 ji15 ji15)) else (none)) = some r := by first | (rw [hji15] at H; exact H) | (simp only [hji15] at H ⊢; exact H)
                              (try rw [hji15] at c14b0)
                              have hji15w : (IntKind.i64.wrap (x5_1 + 1)) = ji15 := (i64_w _).trans hji15
                              by_cases c16 : 0 ≤ (ji15)
                              · rw [if_pos c16] at H
                                have c16b0 : decide (0 ≤ (ji15)) = true := decide_eq_true c16
                                clear c16
                                by_cases c17 : (rd l0 (ji15)) = 10
                                · rw [if_pos c17] at H
                                  have c17b0 : ((rd l0 (ji15)) == 10) = true := beq_iff_eq.mpr c17
                                  have c17b1 : ((rd l0 (ji15)) != 10) = false := bne_eq_false_iff_eq.mpr c17
                                  clear c17
                                  have H' := Aside0.mk H
                                  clear H
                                  have q18 : (x5_1 : Int) ≤ ((l0.length : Int) : Int) := of_decide_eq_true (by first | (with_reducible assumption) | assumption)
                                  obtain ⟨i018, hi018, _, hsz18, _⟩ := info_parts info5
                                  have hroom18 : l0.length ≤ c0 := (Kd.V_reads' HO_0.out).2.1
                                  have hC18 : Kd.F (Kd.int .u8) _ _ A0 l0.length l0 := (Kd.V_at (base := w.heap.size) HO_0.out).2.2
                                  have ql18 : (x4_1 : Int) ≤ (x5_1 : Int) := of_decide_eq_true (by first | (with_reducible assumption) | assumption)
                                  have q018 : (0 : Int) ≤ (x4_1 : Int) := of_decide_eq_true (by first | (with_reducible assumption) | assumption)
                                  have hcut18 := cut_mid (P := Try.prog) 35 5 .i64 .i64 Try.underlying35 hi018 1 hsz18 A0 l0.length c0 x4_1 x5_1 q018 ql18 q18 hroom18
                                  have hr18 := Kd.F_mid (lo := (x4_1 : Int).toNat) (hi := (x5_1 : Int).toNat) (c := c0) hC18 (by omega) (by omega) hroom18
                                  obtain ⟨A18, hA18⟩ : ∃ A1, A1 = (if c0 = (x4_1 : Int).toNat then A0 else (A0 : Option Addr).map (·.add ((x4_1 : Int).toNat * 1))) := ⟨_, rfl⟩
                                  obtain ⟨c18, hc18⟩ : ∃ c1, c1 = c0 - (x4_1 : Int).toNat := ⟨_, rfl⟩
                                  have hy18 : y111.length = (x5_1 : Int).toNat - (x4_1 : Int).toNat := (by rw [Ny111.out, List.length_drop, List.length_take] <;> omega)
                                  rw [show ((l0).take (x5_1 : Int).toNat).drop (x4_1 : Int).toNat = y111 from Ny111.out.symm] at hr18
                                  replace hr18 : Kd.F (Kd.int .u8) _ _ A18 y111.length y111 := (by rw [hA18]; exact hr18)
                                  rw [← hy18, ← hA18, ← hc18] at hcut18
                                  have HO115 := Aside0.mk (show Kd.V (Kd.int .u8) 5 _ w.heap.size _ (.slice A18 y111.length c18) y111 from Kd.V_mk (by rw [hy18, hc18]; exact Nat.sub_le_sub_right (Nat.le_trans (by omega) hroom18) _) hr18)
                                  have HC115 := Aside0.mk (show y111.length ≤ c18 from by rw [hy18, hc18]; exact Nat.sub_le_sub_right (Nat.le_trans (by omega) hroom18) _)
                                  clear hr18 hC18 hroom18 hi018 hsz18 hc18
                                  have KY18 := Aside0.mk hy18
                                  have KA18 := Aside0.mk hA18
                                  clear hy18 hA18
                                  replace q18 := eq_true q18
                                  go_wp2_with (first | ((with_reducible refine gate_builtin (b := .append) (xs := #[.tmp 24, .tmp 29]) rfl ?_); (try (refine gate_guard (by rfl) ?_; dsimp only)); at_builtin; refine Kd.N_append (Kd.slice 5 (Kd.int .u8)) (w0 := w) w.heap.size rfl (.tmp 24) (.tmp 29) 44 35 (.slice none 0 0) 24 rfl Try.underlying44 info35 rfl (by decide) (by omega) u3 x3_1 y111 [.slice A18 y111.length c18] (fun k_ => (P0_ k_ ∨ w.heap.size ≤ k_)) (fun k_ => ((fun k_ => (P0_ k_ ∨ w.heap.size ≤ k_))) k_ ∧ some k_ ≠ (u3 : Value).ownBlock) rfl rfl ?aP (fun _ hk => hk) ?aF ?aO ?aB ?aS ?aL ?_; (case aP => exact (Kd.FK_slice_mk (Kd.V_reads' (Kd.V_mono (ok' := (fun k_ => ((fun k_ => (P0_ k_ ∨ w.heap.size ≤ k_))) k_ ∧ some k_ ≠ (u3 : Value).ownBlock)) (HO115.out) (fun k_ hk => ⟨hk.1, hk.2⟩))).2.1 (Kd.V_F (Kd.V_mono (ok' := (fun k_ => ((fun k_ => (P0_ k_ ∨ w.heap.size ≤ k_))) k_ ∧ some k_ ≠ (u3 : Value).ownBlock)) (HO115.out) (fun k_ hk => ⟨hk.1, hk.2⟩))))); (case aB => exact (by repeat (first | (with_reducible first | exact HB.out | apply below_alloc | apply pw_below_drewN | apply below_drew1) | exact HB.out))); (case aF => exact (fun k_ hk => (.inr (Nat.le_trans (below_size (by repeat (first | (with_reducible first | exact HB.out | apply below_alloc | apply pw_below_drewN | apply below_drew1) | exact HB.out))) hk)))); (case aO => exact (by (with_reducible repeat (first | apply Kd.N_alloc | apply Kd.N_drewN | apply Kd.N_drew)); exact HO_3.out)); (case aS => exact (below_size (by repeat (first | (with_reducible first | exact HB.out | apply below_alloc | apply pw_below_drewN | apply below_drew1) | exact HB.out)))); (case aL => have := LMc10.out; omega); intro v117 w19 ho hb hg hat; rw [← Ny116.out] at ho; have n0_ := Aside0.mk (Kd.V_afterv (ok := (fun k_ => (P0_ k_ ∨ w.heap.size ≤ k_))) (by (with_reducible repeat (first | apply Kd.V_alloc | apply Kd.V_drewN | apply Kd.V_drew)); exact HO_0.out) hg hat); have n1_ := Aside0.mk (Kd.V_afterv (ok := (fun k_ => (P0_ k_ ∨ w.heap.size ≤ k_))) (by (with_reducible repeat (first | apply Kd.V_alloc | apply Kd.V_drewN | apply Kd.V_drew)); exact HO115.out) hg hat); have n2_ := Aside0.mk (hb); have n3_ := Aside0.mk (ho); clear HO_0; clear HO115; clear HB; clear HO_3; have HO_0 := n0_; have HO115 := n1_; have HB := n2_; have HO118 := n3_; clear n0_ n1_ n2_ n3_; clear ho hb hg hat; have p119 : 0 ≤ (x5_1 : Int) := of_decide_eq_true (by first | (with_reducible assumption) | assumption); have q119 : x5_1 < (l0.length : Int) := of_decide_eq_true (by first | (with_reducible assumption) | assumption); obtain ⟨ad119, e119, hx119_0⟩ := Kd.at_int (Kd.V_reads' HO_0.out).2.2 x5_1 p119 q119; cases e119; replace p119 := eq_true p119; replace q119 := eq_true q119; have p120 : 0 ≤ ((ji15) : Int) := of_decide_eq_true (by first | (with_reducible assumption) | assumption); have q120 : (ji15) < (l0.length : Int) := of_decide_eq_true (by first | (with_reducible assumption) | assumption); obtain ⟨ad120, e120, hx120_0⟩ := Kd.at_int (Kd.V_reads' HO_0.out).2.2 (ji15) p120 q120; obtain rfl : ad119 = ad120 := (by injection e120); replace p120 := eq_true p120; replace q120 := eq_true q120))
                                  go_roundg kj2
                                  case measure => have := HK1.out; have := HJ2.out; omega
                                  case rel => exact ⟨(y116), (wrap64 ((ji15) + 1)), (wrap64 ((ji15) + 1)), (by first | rfl | (simp; done) | (simp only [← hji15] <;> (first | rfl | simp)) | (simp [*]; done)), (by first | rfl | (simp; done) | (simp only [← hji15] <;> (first | rfl | simp)) | (simp [*]; done)), H', ⟨by have := HK1.out; have := HJ2.out; omega⟩, ⟨by (with_reducible repeat (first | apply Kd.V_alloc | apply Kd.V_drewN | apply Kd.V_drew)); exact HO_0.out⟩, ⟨by (with_reducible repeat (first | apply Kd.N_alloc | apply Kd.N_drewN | apply Kd.N_drew)); exact HO118.out⟩, ⟨by repeat (first | (with_reducible first | exact HB.out | apply below_alloc | apply pw_below_drewN | apply below_drew1) | exact HB.out)⟩⟩
                                · rw [if_neg c17] at H
                                  have c17b0 : ((rd l0 (ji15)) == 10) = false := beq_eq_false_iff_ne.mpr c17
                                  have c17b1 : ((rd l0 (ji15)) != 10) = true := bne_iff_ne.mpr c17
                                  have H' := Aside0.mk H
                                  clear H
                                  have q20 : (x5_1 : Int) ≤ ((l0.length : Int) : Int) := of_decide_eq_true (by first | (with_reducible assumption) | assumption)
                                  obtain ⟨i020, hi020, _, hsz20, _⟩ := info_parts info5
                                  have hroom20 : l0.length ≤ c0 := (Kd.V_reads' HO_0.out).2.1
                                  have hC20 : Kd.F (Kd.int .u8) _ _ A0 l0.length l0 := (Kd.V_at (base := w.heap.size) HO_0.out).2.2
                                  have ql20 : (x4_1 : Int) ≤ (x5_1 : Int) := of_decide_eq_true (by first | (with_reducible assumption) | assumption)
                                  have q020 : (0 : Int) ≤ (x4_1 : Int) := of_decide_eq_true (by first | (with_reducible assumption) | assumption)
                                  have hcut20 := cut_mid (P := Try.prog) 35 5 .i64 .i64 Try.underlying35 hi020 1 hsz20 A0 l0.length c0 x4_1 x5_1 q020 ql20 q20 hroom20
                                  have hr20 := Kd.F_mid (lo := (x4_1 : Int).toNat) (hi := (x5_1 : Int).toNat) (c := c0) hC20 (by omega) (by omega) hroom20
                                  obtain ⟨A20, hA20⟩ : ∃ A1, A1 = (if c0 = (x4_1 : Int).toNat then A0 else (A0 : Option Addr).map (·.add ((x4_1 : Int).toNat * 1))) := ⟨_, rfl⟩
                                  obtain ⟨c20, hc20⟩ : ∃ c1, c1 = c0 - (x4_1 : Int).toNat := ⟨_, rfl⟩
                                  have hy20 : y111.length = (x5_1 : Int).toNat - (x4_1 : Int).toNat := (by rw [Ny111.out, List.length_drop, List.length_take] <;> omega)
                                  rw [show ((l0).take (x5_1 : Int).toNat).drop (x4_1 : Int).toNat = y111 from Ny111.out.symm] at hr20
                                  replace hr20 : Kd.F (Kd.int .u8) _ _ A20 y111.length y111 := (by rw [hA20]; exact hr20)
                                  rw [← hy20, ← hA20, ← hc20] at hcut20
                                  have HO115 := Aside0.mk (show Kd.V (Kd.int .u8) 5 _ w.heap.size _ (.slice A20 y111.length c20) y111 from Kd.V_mk (by rw [hy20, hc20]; exact Nat.sub_le_sub_right (Nat.le_trans (by omega) hroom20) _) hr20)
                                  have HC115 := Aside0.mk (show y111.length ≤ c20 from by rw [hy20, hc20]; exact Nat.sub_le_sub_right (Nat.le_trans (by omega) hroom20) _)
                                  clear hr20 hC20 hroom20 hi020 hsz20 hc20
                                  have KY20 := Aside0.mk hy20
                                  have KA20 := Aside0.mk hA20
                                  clear hy20 hA20
                                  replace q20 := eq_true q20
                                  go_wp2_with (first | ((with_reducible refine gate_builtin (b := .append) (xs := #[.tmp 24, .tmp 29]) rfl ?_); (try (refine gate_guard (by rfl) ?_; dsimp only)); at_builtin; refine Kd.N_append (Kd.slice 5 (Kd.int .u8)) (w0 := w) w.heap.size rfl (.tmp 24) (.tmp 29) 44 35 (.slice none 0 0) 24 rfl Try.underlying44 info35 rfl (by decide) (by omega) u3 x3_1 y111 [.slice A20 y111.length c20] (fun k_ => (P0_ k_ ∨ w.heap.size ≤ k_)) (fun k_ => ((fun k_ => (P0_ k_ ∨ w.heap.size ≤ k_))) k_ ∧ some k_ ≠ (u3 : Value).ownBlock) rfl rfl ?aP (fun _ hk => hk) ?aF ?aO ?aB ?aS ?aL ?_; (case aP => exact (Kd.FK_slice_mk (Kd.V_reads' (Kd.V_mono (ok' := (fun k_ => ((fun k_ => (P0_ k_ ∨ w.heap.size ≤ k_))) k_ ∧ some k_ ≠ (u3 : Value).ownBlock)) (HO115.out) (fun k_ hk => ⟨hk.1, hk.2⟩))).2.1 (Kd.V_F (Kd.V_mono (ok' := (fun k_ => ((fun k_ => (P0_ k_ ∨ w.heap.size ≤ k_))) k_ ∧ some k_ ≠ (u3 : Value).ownBlock)) (HO115.out) (fun k_ hk => ⟨hk.1, hk.2⟩))))); (case aB => exact (by repeat (first | (with_reducible first | exact HB.out | apply below_alloc | apply pw_below_drewN | apply below_drew1) | exact HB.out))); (case aF => exact (fun k_ hk => (.inr (Nat.le_trans (below_size (by repeat (first | (with_reducible first | exact HB.out | apply below_alloc | apply pw_below_drewN | apply below_drew1) | exact HB.out))) hk)))); (case aO => exact (by (with_reducible repeat (first | apply Kd.N_alloc | apply Kd.N_drewN | apply Kd.N_drew)); exact HO_3.out)); (case aS => exact (below_size (by repeat (first | (with_reducible first | exact HB.out | apply below_alloc | apply pw_below_drewN | apply below_drew1) | exact HB.out)))); (case aL => have := LMc10.out; omega); intro v117 w21 ho hb hg hat; rw [← Ny116.out] at ho; have n0_ := Aside0.mk (Kd.V_afterv (ok := (fun k_ => (P0_ k_ ∨ w.heap.size ≤ k_))) (by (with_reducible repeat (first | apply Kd.V_alloc | apply Kd.V_drewN | apply Kd.V_drew)); exact HO_0.out) hg hat); have n1_ := Aside0.mk (Kd.V_afterv (ok := (fun k_ => (P0_ k_ ∨ w.heap.size ≤ k_))) (by (with_reducible repeat (first | apply Kd.V_alloc | apply Kd.V_drewN | apply Kd.V_drew)); exact HO115.out) hg hat); have n2_ := Aside0.mk (hb); have n3_ := Aside0.mk (ho); clear HO_0; clear HO115; clear HB; clear HO_3; have HO_0 := n0_; have HO115 := n1_; have HB := n2_; have HO118 := n3_; clear n0_ n1_ n2_ n3_; clear ho hb hg hat; have p119 : 0 ≤ (x5_1 : Int) := of_decide_eq_true (by first | (with_reducible assumption) | assumption); have q119 : x5_1 < (l0.length : Int) := of_decide_eq_true (by first | (with_reducible assumption) | assumption); obtain ⟨ad119, e119, hx119_0⟩ := Kd.at_int (Kd.V_reads' HO_0.out).2.2 x5_1 p119 q119; cases e119; replace p119 := eq_true p119; replace q119 := eq_true q119; have p120 : 0 ≤ ((ji15) : Int) := of_decide_eq_true (by first | (with_reducible assumption) | assumption); have q120 : (ji15) < (l0.length : Int) := of_decide_eq_true (by first | (with_reducible assumption) | assumption); obtain ⟨ad120, e120, hx120_0⟩ := Kd.at_int (Kd.V_reads' HO_0.out).2.2 (ji15) p120 q120; obtain rfl : ad119 = ad120 := (by injection e120); replace p120 := eq_true p120; replace q120 := eq_true q120))
                                  go_roundg kj2
                                  case measure => have := HK1.out; have := HJ2.out; omega
                                  case rel => exact ⟨(y116), (ji15), (ji15), (by first | rfl | (simp; done) | (simp only [← hji15] <;> (first | rfl | simp)) | (simp [*]; done)), (by first | rfl | (simp; done) | (simp only [← hji15] <;> (first | rfl | simp)) | (simp [*]; done)), H', ⟨by have := HK1.out; have := HJ2.out; omega⟩, ⟨by (with_reducible repeat (first | apply Kd.V_alloc | apply Kd.V_drewN | apply Kd.V_drew)); exact HO_0.out⟩, ⟨by (with_reducible repeat (first | apply Kd.N_alloc | apply Kd.N_drewN | apply Kd.N_drew)); exact HO118.out⟩, ⟨by repeat (first | (with_reducible first | exact HB.out | apply below_alloc | apply pw_below_drewN | apply below_drew1) | exact HB.out)⟩⟩
                              · rw [if_neg c16] at H
                                exact absurd H (by simp)
                            · rw [if_neg c14] at H
                              have c14b0 : decide ((wrap64 (x5_1 + 1)) < (l0.length : Int)) = false := decide_eq_false c14
                              clear c14
                              have H' := Aside0.mk H
                              clear H
                              have q22 : (x5_1 : Int) ≤ ((l0.length : Int) : Int) := of_decide_eq_true (by first | (with_reducible assumption) | assumption)
                              obtain ⟨i022, hi022, _, hsz22, _⟩ := info_parts info5
                              have hroom22 : l0.length ≤ c0 := (Kd.V_reads' HO_0.out).2.1
                              have hC22 : Kd.F (Kd.int .u8) _ _ A0 l0.length l0 := (Kd.V_at (base := w.heap.size) HO_0.out).2.2
                              have ql22 : (x4_1 : Int) ≤ (x5_1 : Int) := of_decide_eq_true (by first | (with_reducible assumption) | assumption)
                              have q022 : (0 : Int) ≤ (x4_1 : Int) := of_decide_eq_true (by first | (with_reducible assumption) | assumption)
                              have hcut22 := cut_mid (P := Try.prog) 35 5 .i64 .i64 Try.underlying35 hi022 1 hsz22 A0 l0.length c0 x4_1 x5_1 q022 ql22 q22 hroom22
                              have hr22 := Kd.F_mid (lo := (x4_1 : Int).toNat) (hi := (x5_1 : Int).toNat) (c := c0) hC22 (by omega) (by omega) hroom22
                              obtain ⟨A22, hA22⟩ : ∃ A1, A1 = (if c0 = (x4_1 : Int).toNat then A0 else (A0 : Option Addr).map (·.add ((x4_1 : Int).toNat * 1))) := ⟨_, rfl⟩
                              obtain ⟨c22, hc22⟩ : ∃ c1, c1 = c0 - (x4_1 : Int).toNat := ⟨_, rfl⟩
                              have hy22 : y111.length = (x5_1 : Int).toNat - (x4_1 : Int).toNat := (by rw [Ny111.out, List.length_drop, List.length_take] <;> omega)
                              rw [show ((l0).take (x5_1 : Int).toNat).drop (x4_1 : Int).toNat = y111 from Ny111.out.symm] at hr22
                              replace hr22 : Kd.F (Kd.int .u8) _ _ A22 y111.length y111 := (by rw [hA22]; exact hr22)
                              rw [← hy22, ← hA22, ← hc22] at hcut22
                              have HO115 := Aside0.mk (show Kd.V (Kd.int .u8) 5 _ w.heap.size _ (.slice A22 y111.length c22) y111 from Kd.V_mk (by rw [hy22, hc22]; exact Nat.sub_le_sub_right (Nat.le_trans (by omega) hroom22) _) hr22)
                              have HC115 := Aside0.mk (show y111.length ≤ c22 from by rw [hy22, hc22]; exact Nat.sub_le_sub_right (Nat.le_trans (by omega) hroom22) _)
                              clear hr22 hC22 hroom22 hi022 hsz22 hc22
                              have KY22 := Aside0.mk hy22
                              have KA22 := Aside0.mk hA22
                              clear hy22 hA22
                              replace q22 := eq_true q22
                              go_wp2_with (first | ((with_reducible refine gate_builtin (b := .append) (xs := #[.tmp 24, .tmp 29]) rfl ?_); (try (refine gate_guard (by rfl) ?_; dsimp only)); at_builtin; refine Kd.N_append (Kd.slice 5 (Kd.int .u8)) (w0 := w) w.heap.size rfl (.tmp 24) (.tmp 29) 44 35 (.slice none 0 0) 24 rfl Try.underlying44 info35 rfl (by decide) (by omega) u3 x3_1 y111 [.slice A22 y111.length c22] (fun k_ => (P0_ k_ ∨ w.heap.size ≤ k_)) (fun k_ => ((fun k_ => (P0_ k_ ∨ w.heap.size ≤ k_))) k_ ∧ some k_ ≠ (u3 : Value).ownBlock) rfl rfl ?aP (fun _ hk => hk) ?aF ?aO ?aB ?aS ?aL ?_; (case aP => exact (Kd.FK_slice_mk (Kd.V_reads' (Kd.V_mono (ok' := (fun k_ => ((fun k_ => (P0_ k_ ∨ w.heap.size ≤ k_))) k_ ∧ some k_ ≠ (u3 : Value).ownBlock)) (HO115.out) (fun k_ hk => ⟨hk.1, hk.2⟩))).2.1 (Kd.V_F (Kd.V_mono (ok' := (fun k_ => ((fun k_ => (P0_ k_ ∨ w.heap.size ≤ k_))) k_ ∧ some k_ ≠ (u3 : Value).ownBlock)) (HO115.out) (fun k_ hk => ⟨hk.1, hk.2⟩))))); (case aB => exact (by repeat (first | (with_reducible first | exact HB.out | apply below_alloc | apply pw_below_drewN | apply below_drew1) | exact HB.out))); (case aF => exact (fun k_ hk => (.inr (Nat.le_trans (below_size (by repeat (first | (with_reducible first | exact HB.out | apply below_alloc | apply pw_below_drewN | apply below_drew1) | exact HB.out))) hk)))); (case aO => exact (by (with_reducible repeat (first | apply Kd.N_alloc | apply Kd.N_drewN | apply Kd.N_drew)); exact HO_3.out)); (case aS => exact (below_size (by repeat (first | (with_reducible first | exact HB.out | apply below_alloc | apply pw_below_drewN | apply below_drew1) | exact HB.out)))); (case aL => have := LMc10.out; omega); intro v117 w23 ho hb hg hat; rw [← Ny116.out] at ho; have n0_ := Aside0.mk (Kd.V_afterv (ok := (fun k_ => (P0_ k_ ∨ w.heap.size ≤ k_))) (by (with_reducible repeat (first | apply Kd.V_alloc | apply Kd.V_drewN | apply Kd.V_drew)); exact HO_0.out) hg hat); have n1_ := Aside0.mk (Kd.V_afterv (ok := (fun k_ => (P0_ k_ ∨ w.heap.size ≤ k_))) (by (with_reducible repeat (first | apply Kd.V_alloc | apply Kd.V_drewN | apply Kd.V_drew)); exact HO115.out) hg hat); have n2_ := Aside0.mk (hb); have n3_ := Aside0.mk (ho); clear HO_0; clear HO115; clear HB; clear HO_3; have HO_0 := n0_; have HO115 := n1_; have HB := n2_; have HO118 := n3_; clear n0_ n1_ n2_ n3_; clear ho hb hg hat; have p119 : 0 ≤ (x5_1 : Int) := of_decide_eq_true (by first | (with_reducible assumption) | assumption); have q119 : x5_1 < (l0.length : Int) := of_decide_eq_true (by first | (with_reducible assumption) | assumption); obtain ⟨ad119, e119, hx119_0⟩ := Kd.at_int (Kd.V_reads' HO_0.out).2.2 x5_1 p119 q119; cases e119; replace p119 := eq_true p119; replace q119 := eq_true q119))
                              go_roundg kj2
                              case measure => have := HK1.out; have := HJ2.out; omega
                              case rel => exact ⟨(y116), (wrap64 (x5_1 + 1)), (wrap64 (x5_1 + 1)), (by first | rfl | (simp; done) | (simp [*]; done)), (by first | rfl | (simp; done) | (simp [*]; done)), H', ⟨by have := HK1.out; have := HJ2.out; omega⟩, ⟨by (with_reducible repeat (first | apply Kd.V_alloc | apply Kd.V_drewN | apply Kd.V_drew)); exact HO_0.out⟩, ⟨by (with_reducible repeat (first | apply Kd.N_alloc | apply Kd.N_drewN | apply Kd.N_drew)); exact HO118.out⟩, ⟨by repeat (first | (with_reducible first | exact HB.out | apply below_alloc | apply pw_below_drewN | apply below_drew1) | exact HB.out)⟩⟩
                          · rw [if_neg c13] at H
                            have c13b0 : ((rd l0 x5_1) == 13) = false := beq_eq_false_iff_ne.mpr c13
                            have c13b1 : ((rd l0 x5_1) != 13) = true := bne_iff_ne.mpr c13
                            have H' := Aside0.mk H
                            clear H
                            have q24 : (x5_1 : Int) ≤ ((l0.length : Int) : Int) := of_decide_eq_true (by first | (with_reducible assumption) | assumption)
                            obtain ⟨i024, hi024, _, hsz24, _⟩ := info_parts info5
                            have hroom24 : l0.length ≤ c0 := (Kd.V_reads' HO_0.out).2.1
                            have hC24 : Kd.F (Kd.int .u8) _ _ A0 l0.length l0 := (Kd.V_at (base := w.heap.size) HO_0.out).2.2
                            have ql24 : (x4_1 : Int) ≤ (x5_1 : Int) := of_decide_eq_true (by first | (with_reducible assumption) | assumption)
                            have q024 : (0 : Int) ≤ (x4_1 : Int) := of_decide_eq_true (by first | (with_reducible assumption) | assumption)
                            have hcut24 := cut_mid (P := Try.prog) 35 5 .i64 .i64 Try.underlying35 hi024 1 hsz24 A0 l0.length c0 x4_1 x5_1 q024 ql24 q24 hroom24
                            have hr24 := Kd.F_mid (lo := (x4_1 : Int).toNat) (hi := (x5_1 : Int).toNat) (c := c0) hC24 (by omega) (by omega) hroom24
                            obtain ⟨A24, hA24⟩ : ∃ A1, A1 = (if c0 = (x4_1 : Int).toNat then A0 else (A0 : Option Addr).map (·.add ((x4_1 : Int).toNat * 1))) := ⟨_, rfl⟩
                            obtain ⟨c24, hc24⟩ : ∃ c1, c1 = c0 - (x4_1 : Int).toNat := ⟨_, rfl⟩
                            have hy24 : y111.length = (x5_1 : Int).toNat - (x4_1 : Int).toNat := (by rw [Ny111.out, List.length_drop, List.length_take] <;> omega)
                            rw [show ((l0).take (x5_1 : Int).toNat).drop (x4_1 : Int).toNat = y111 from Ny111.out.symm] at hr24
                            replace hr24 : Kd.F (Kd.int .u8) _ _ A24 y111.length y111 := (by rw [hA24]; exact hr24)
                            rw [← hy24, ← hA24, ← hc24] at hcut24
                            have HO115 := Aside0.mk (show Kd.V (Kd.int .u8) 5 _ w.heap.size _ (.slice A24 y111.length c24) y111 from Kd.V_mk (by rw [hy24, hc24]; exact Nat.sub_le_sub_right (Nat.le_trans (by omega) hroom24) _) hr24)
                            have HC115 := Aside0.mk (show y111.length ≤ c24 from by rw [hy24, hc24]; exact Nat.sub_le_sub_right (Nat.le_trans (by omega) hroom24) _)
                            clear hr24 hC24 hroom24 hi024 hsz24 hc24
                            have KY24 := Aside0.mk hy24
                            have KA24 := Aside0.mk hA24
                            clear hy24 hA24
                            replace q24 := eq_true q24
                            go_wp2_with (first | ((with_reducible refine gate_builtin (b := .append) (xs := #[.tmp 24, .tmp 29]) rfl ?_); (try (refine gate_guard (by rfl) ?_; dsimp only)); at_builtin; refine Kd.N_append (Kd.slice 5 (Kd.int .u8)) (w0 := w) w.heap.size rfl (.tmp 24) (.tmp 29) 44 35 (.slice none 0 0) 24 rfl Try.underlying44 info35 rfl (by decide) (by omega) u3 x3_1 y111 [.slice A24 y111.length c24] (fun k_ => (P0_ k_ ∨ w.heap.size ≤ k_)) (fun k_ => ((fun k_ => (P0_ k_ ∨ w.heap.size ≤ k_))) k_ ∧ some k_ ≠ (u3 : Value).ownBlock) rfl rfl ?aP (fun _ hk => hk) ?aF ?aO ?aB ?aS ?aL ?_; (case aP => exact (Kd.FK_slice_mk (Kd.V_reads' (Kd.V_mono (ok' := (fun k_ => ((fun k_ => (P0_ k_ ∨ w.heap.size ≤ k_))) k_ ∧ some k_ ≠ (u3 : Value).ownBlock)) (HO115.out) (fun k_ hk => ⟨hk.1, hk.2⟩))).2.1 (Kd.V_F (Kd.V_mono (ok' := (fun k_ => ((fun k_ => (P0_ k_ ∨ w.heap.size ≤ k_))) k_ ∧ some k_ ≠ (u3 : Value).ownBlock)) (HO115.out) (fun k_ hk => ⟨hk.1, hk.2⟩))))); (case aB => exact (by repeat (first | (with_reducible first | exact HB.out | apply below_alloc | apply pw_below_drewN | apply below_drew1) | exact HB.out))); (case aF => exact (fun k_ hk => (.inr (Nat.le_trans (below_size (by repeat (first | (with_reducible first | exact HB.out | apply below_alloc | apply pw_below_drewN | apply below_drew1) | exact HB.out))) hk)))); (case aO => exact (by (with_reducible repeat (first | apply Kd.N_alloc | apply Kd.N_drewN | apply Kd.N_drew)); exact HO_3.out)); (case aS => exact (below_size (by repeat (first | (with_reducible first | exact HB.out | apply below_alloc | apply pw_below_drewN | apply below_drew1) | exact HB.out)))); (case aL => have := LMc10.out; omega); intro v117 w25 ho hb hg hat; rw [← Ny116.out] at ho; have n0_ := Aside0.mk (Kd.V_afterv (ok := (fun k_ => (P0_ k_ ∨ w.heap.size ≤ k_))) (by (with_reducible repeat (first | apply Kd.V_alloc | apply Kd.V_drewN | apply Kd.V_drew)); exact HO_0.out) hg hat); have n1_ := Aside0.mk (Kd.V_afterv (ok := (fun k_ => (P0_ k_ ∨ w.heap.size ≤ k_))) (by (with_reducible repeat (first | apply Kd.V_alloc | apply Kd.V_drewN | apply Kd.V_drew)); exact HO115.out) hg hat); have n2_ := Aside0.mk (hb); have n3_ := Aside0.mk (ho); clear HO_0; clear HO115; clear HB; clear HO_3; have HO_0 := n0_; have HO115 := n1_; have HB := n2_; have HO118 := n3_; clear n0_ n1_ n2_ n3_; clear ho hb hg hat; have p119 : 0 ≤ (x5_1 : Int) := of_decide_eq_true (by first | (with_reducible assumption) | assumption); have q119 : x5_1 < (l0.length : Int) := of_decide_eq_true (by first | (with_reducible assumption) | assumption); obtain ⟨ad119, e119, hx119_0⟩ := Kd.at_int (Kd.V_reads' HO_0.out).2.2 x5_1 p119 q119; cases e119; replace p119 := eq_true p119; replace q119 := eq_true q119))
                            go_roundg kj2
                            case measure => have := HK1.out; have := HJ2.out; omega
                            case rel => exact ⟨(y116), (wrap64 (x5_1 + 1)), (wrap64 (x5_1 + 1)), (by first | rfl | (simp; done) | (simp [*]; done)), (by first | rfl | (simp; done) | (simp [*]; done)), H', ⟨by have := HK1.out; have := HJ2.out; omega⟩, ⟨by (with_reducible repeat (first | apply Kd.V_alloc | apply Kd.V_drewN | apply Kd.V_drew)); exact HO_0.out⟩, ⟨by (with_reducible repeat (first | apply Kd.N_alloc | apply Kd.N_drewN | apply Kd.N_drew)); exact HO118.out⟩, ⟨by repeat (first | (with_reducible first | exact HB.out | apply below_alloc | apply pw_below_drewN | apply below_drew1) | exact HB.out)⟩⟩
                        · rw [if_neg c12] at H
                          exact absurd H (by simp)
                      · rw [if_neg c11] at H
                        exact absurd H (by simp)
                    · rw [if_neg c10] at H
                      exact absurd H (by simp)
                  · rw [if_neg c9] at H
                    exact absurd H (by simp)
                · rw [if_neg c8] at H
                  exact absurd H (by simp)
              · rw [if_neg c7] at H
                exact absurd H (by simp)
      · rw [if_neg c2] at H
        have c2b0 : decide (x5_1 < (l0.length : Int)) = false := decide_eq_false c2
        clear c2
        by_cases c26 : x4_1 < (l0.length : Int)
        · rw [if_pos c26] at H
          have c26b0 : decide (x4_1 < (l0.length : Int)) = true := decide_eq_true c26
          clear c26
          by_cases c27 : 0 ≤ x4_1
          · rw [if_pos c27] at H
            have c27b0 := eq_true c27
            have c27b1 : decide (0 ≤ x4_1) = true := decide_eq_true c27
            clear c27
            by_cases c28 : x4_1 ≤ (l0.length : Int)
            · rw [if_pos c28] at H
              have c28b0 := eq_true c28
              have c28b1 : decide (x4_1 ≤ (l0.length : Int)) = true := decide_eq_true c28
              clear c28
              obtain ⟨y101, hy101⟩ : ∃ y_ : List Int, y_ = (l0.drop (x4_1 : Int).toNat) := ⟨_, rfl⟩
              replace H : (if x3_1.length < 5864062014805 then (some (x3_1 ++ [y101])) else (none)) = some r := by first | (rw [hy101]; with_reducible exact H) | (have H2_ := (Option.bind_some _ _).symm.trans H; rw [hy101]; with_reducible exact H2_) | (have H2_ := (Option.bind_some _ _).symm.trans H; with_reducible exact H2_) | with_reducible exact H | (rw [hy101]; exact H) | exact H
              have Ny101 := Aside0.mk hy101
              clear hy101
              by_cases c29 : x3_1.length < 5864062014805
              · rw [if_pos c29] at H
                have LMc29 := Aside0.mk c29
                clear c29
                obtain ⟨y106, hy106⟩ : ∃ y_ : List (List Int), y_ = (x3_1 ++ [y101]) := ⟨_, rfl⟩
                replace H : (some y106) = some r := by first | (rw [hy106]; with_reducible exact H) | (have H2_ := (Option.bind_some _ _).symm.trans H; rw [hy106]; with_reducible exact H2_) | (have H2_ := (Option.bind_some _ _).symm.trans H; with_reducible exact H2_) | with_reducible exact H | (rw [hy106]; exact H) | exact H
                have Ny106 := Aside0.mk hy106
                clear hy106
                obtain rfl := Option.some.inj H
                have q30 : (x4_1 : Int) ≤ ((l0.length : Int) : Int) := of_decide_eq_true (by first | (with_reducible assumption) | assumption)
                obtain ⟨i030, hi030, _, hsz30, _⟩ := info_parts info5
                have hroom30 : l0.length ≤ c0 := (Kd.V_reads' HO_0.out).2.1
                have hC30 : Kd.F (Kd.int .u8) _ _ A0 l0.length l0 := (Kd.V_at (base := w.heap.size) HO_0.out).2.2
                have q030 : (0 : Int) ≤ (x4_1 : Int) := of_decide_eq_true (by first | (with_reducible assumption) | assumption)
                have hcut30 := cut_from (P := Try.prog) 35 5 .i64 Try.underlying35 hi030 1 hsz30 A0 l0.length c0 x4_1 q030 q30
                have hr30 := Kd.F_cut (m := (x4_1 : Int).toNat) (c := c0) hC30 (by omega) hroom30
                obtain ⟨A30, hA30⟩ : ∃ A1, A1 = (if c0 = (x4_1 : Int).toNat then A0 else (A0 : Option Addr).map (·.add ((x4_1 : Int).toNat * 1))) := ⟨_, rfl⟩
                obtain ⟨c30, hc30⟩ : ∃ c1, c1 = c0 - (x4_1 : Int).toNat := ⟨_, rfl⟩
                have hy30 : y101.length = l0.length - (x4_1 : Int).toNat := (by rw [Ny101.out, List.length_drop] <;> omega)
                rw [show (l0).drop (x4_1 : Int).toNat = y101 from Ny101.out.symm] at hr30
                replace hr30 : Kd.F (Kd.int .u8) _ _ A30 y101.length y101 := (by rw [hA30]; exact hr30)
                rw [← hy30, ← hA30, ← hc30] at hcut30
                have HO105 := Aside0.mk (show Kd.V (Kd.int .u8) 5 _ w.heap.size _ (.slice A30 y101.length c30) y101 from Kd.V_mk (by rw [hy30, hc30]; exact Nat.sub_le_sub_right hroom30 _) hr30)
                have HC105 := Aside0.mk (show y101.length ≤ c30 from by rw [hy30, hc30]; exact Nat.sub_le_sub_right hroom30 _)
                clear hr30 hC30 hroom30 hi030 hsz30 hc30
                have KY30 := Aside0.mk hy30
                have KA30 := Aside0.mk hA30
                clear hy30 hA30
                replace q30 := eq_true q30
                go_wp2_with (first | ((with_reducible refine gate_builtin (b := .append) (xs := #[.tmp 59, .tmp 63]) rfl ?_); (try (refine gate_guard (by rfl) ?_; dsimp only)); at_builtin; refine Kd.N_append (Kd.slice 5 (Kd.int .u8)) (w0 := w) w.heap.size rfl (.tmp 59) (.tmp 63) 44 35 (.slice none 0 0) 24 rfl Try.underlying44 info35 rfl (by decide) (by omega) u3 x3_1 y101 [.slice A30 y101.length c30] (fun k_ => (P0_ k_ ∨ w.heap.size ≤ k_)) (fun k_ => ((fun k_ => (P0_ k_ ∨ w.heap.size ≤ k_))) k_ ∧ some k_ ≠ (u3 : Value).ownBlock) rfl rfl ?aP (fun _ hk => hk) ?aF ?aO ?aB ?aS ?aL ?_; (case aP => exact (Kd.FK_slice_mk (Kd.V_reads' (Kd.V_mono (ok' := (fun k_ => ((fun k_ => (P0_ k_ ∨ w.heap.size ≤ k_))) k_ ∧ some k_ ≠ (u3 : Value).ownBlock)) (HO105.out) (fun k_ hk => ⟨hk.1, hk.2⟩))).2.1 (Kd.V_F (Kd.V_mono (ok' := (fun k_ => ((fun k_ => (P0_ k_ ∨ w.heap.size ≤ k_))) k_ ∧ some k_ ≠ (u3 : Value).ownBlock)) (HO105.out) (fun k_ hk => ⟨hk.1, hk.2⟩))))); (case aB => exact (by repeat (first | (with_reducible first | exact HB.out | apply below_alloc | apply pw_below_drewN | apply below_drew1) | exact HB.out))); (case aF => exact (fun k_ hk => (.inr (Nat.le_trans (below_size (by repeat (first | (with_reducible first | exact HB.out | apply below_alloc | apply pw_below_drewN | apply below_drew1) | exact HB.out))) hk)))); (case aO => exact (by (with_reducible repeat (first | apply Kd.N_alloc | apply Kd.N_drewN | apply Kd.N_drew)); exact HO_3.out)); (case aS => exact (below_size (by repeat (first | (with_reducible first | exact HB.out | apply below_alloc | apply pw_below_drewN | apply below_drew1) | exact HB.out)))); (case aL => have := LMc29.out; omega); intro v107 w31 ho hb hg hat; rw [← Ny106.out] at ho; have n0_ := Aside0.mk (Kd.V_afterv (ok := (fun k_ => (P0_ k_ ∨ w.heap.size ≤ k_))) (by (with_reducible repeat (first | apply Kd.V_alloc | apply Kd.V_drewN | apply Kd.V_drew)); exact HO_0.out) hg hat); have n1_ := Aside0.mk (Kd.V_afterv (ok := (fun k_ => (P0_ k_ ∨ w.heap.size ≤ k_))) (by (with_reducible repeat (first | apply Kd.V_alloc | apply Kd.V_drewN | apply Kd.V_drew)); exact HO105.out) hg hat); have n2_ := Aside0.mk (hb); have n3_ := Aside0.mk (ho); clear HO_0; clear HO105; clear HB; clear HO_3; have HO_0 := n0_; have HO105 := n1_; have HB := n2_; have HO108 := n3_; clear n0_ n1_ n2_ n3_; clear ho hb hg hat))
                go_ret
                exact ⟨_, by first | rfl | (simp [errW_none, errW_some] <;> rfl) | (simp [*, errW_none, errW_some] <;> rfl), by (with_reducible repeat (first | apply Kd.N_alloc | apply Kd.N_drewN | apply Kd.N_drew)); exact HO108.out, by repeat (first | (with_reducible first | exact HB.out | apply below_alloc | apply pw_below_drewN | apply below_drew1) | exact HB.out)⟩
              · rw [if_neg c29] at H
                exact absurd H (by simp)
            · rw [if_neg c28] at H
              exact absurd H (by simp)
          · rw [if_neg c27] at H
            exact absurd H (by simp)
        · rw [if_neg c26] at H
          have c26b0 : decide (x4_1 < (l0.length : Int)) = false := decide_eq_false c26
          clear c26
          obtain rfl := Option.some.inj H
          go_wp2
          go_ret
          exact ⟨_, by first | rfl | (simp [errW_none, errW_some] <;> rfl) | (simp [*, errW_none, errW_some] <;> rfl), by (with_reducible repeat (first | apply Kd.N_alloc | apply Kd.N_drewN | apply Kd.N_drew)); exact HO_3.out, by repeat (first | (with_reducible first | exact HB.out | apply below_alloc | apply pw_below_drewN | apply below_drew1) | exact HB.out)⟩

-- NOT PRINTED: function 38 (impl_calm)

-- NOT PRINTED: function 27 (impl_LinesOf)

-- NOT PRINTED: function 9 (laws_FnLines)

end Go.Proofs.Ytmngibfakkfnnaa.PFnLines
