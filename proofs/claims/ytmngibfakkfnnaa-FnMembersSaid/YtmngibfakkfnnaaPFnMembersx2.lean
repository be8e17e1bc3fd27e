-- PRINTED BY print.sh 35421559b90ae4d0a3588c463048766b98c2df88dd9212a6774a882060cdf62d: not written by this session
import Derived.Test.YtmngibfakkfnnaaPFnMembersx0
import Derived.Test.YtmngibfakkfnnaaPFnMembersx1
namespace Go.Proofs.Ytmngibfakkfnnaa.PFnMembers
open Go.RowKit Go.Proofs.YtmngibfakkfnnaaW.PrintWords Go.Proofs.YtmngibfakkfnnaaW.PrintLast Go.Proofs.YtmngibfakkfnnaaW.PrintMore
attribute [local go_sem] max2_int min2_int max_two min_two max_three min_three max_four min_four   -- for this text's walks alone
set_option linter.unusedVariables false
set_option linter.unusedSimpArgs false

/-! ### laws_FnMembers: function 4 -/
mutual
def laws_FnMembers.j0 : Nat → ByteArray → List ByteArray → List ByteArray → Int → List Int → Bool → Option (Bool)
  | 0, _, _, _, _, _, _ => none
  | k + 1, x0, x1, x2, x3, x4, x35 => if x35 = true then (some true) else (if (x1.length : Int) > 50 then (laws_FnMembers.j1 k x0 x1 x2 x3 x4 true) else (if (x2.length : Int) > 50 then (laws_FnMembers.j1 k x0 x1 x2 x3 x4 true) else (laws_FnMembers.j1 k x0 x1 x2 x3 x4 (decide ((x4.length : Int) > 50)))))
def laws_FnMembers.j1 : Nat → ByteArray → List ByteArray → List ByteArray → Int → List Int → Bool → Option (Bool)
  | 0, _, _, _, _, _, _ => none
  | k + 1, x0, x1, x2, x3, x4, x48 => if x48 = true then (some true) else (laws_FnMembers.l0 k x0 x1 x2 x3 x4 false ((x1.length : Int) == (x2.length : Int)) false x1 (x1.length : Int) 0)
def laws_FnMembers.l0 : Nat → ByteArray → List ByteArray → List ByteArray → Int → List Int → Bool → Bool → Bool → List ByteArray → Int → Int → Option (Bool)
  | 0, _, _, _, _, _, _, _, _, _, _, _ => none
  | k + 1, x0, x1, x2, x3, x4, x11, x12, x13, x54, x55, x56 => if x56 < x55 then (if 0 ≤ x56 then (if x56 < (x54.length : Int) then (if x11 = true then (if x12 = true then (if 0 ≤ (mn x56 (wrap64 ((x2.length : Int) - 1))) then (if (mn x56 (wrap64 ((x2.length : Int) - 1))) < (x2.length : Int) then (laws_FnMembers.l0 k x0 x1 x2 x3 x4 true ((rdOf ByteArray.empty x54 x56).toList == (rdOf ByteArray.empty x2 (mn x56 (wrap64 ((x2.length : Int) - 1)))).toList) x13 x54 x55 (wrap64 (x56 + 1))) else (none)) else (none)) else (laws_FnMembers.l0 k x0 x1 x2 x3 x4 true false x13 x54 x55 (wrap64 (x56 + 1)))) else (if x12 = true then (if 0 ≤ (mn x56 (wrap64 ((x2.length : Int) - 1))) then (if (mn x56 (wrap64 ((x2.length : Int) - 1))) < (x2.length : Int) then (laws_FnMembers.l0 k x0 x1 x2 x3 x4 ((rdOf ByteArray.empty x54 x56).toList == x0.toList) ((rdOf ByteArray.empty x54 x56).toList == (rdOf ByteArray.empty x2 (mn x56 (wrap64 ((x2.length : Int) - 1)))).toList) x13 x54 x55 (wrap64 (x56 + 1))) else (none)) else (none)) else (laws_FnMembers.l0 k x0 x1 x2 x3 x4 ((rdOf ByteArray.empty x54 x56).toList == x0.toList) false x13 x54 x55 (wrap64 (x56 + 1))))) else (none)) else (none)) else (laws_FnMembers.l1 k x0 x1 x2 x3 x4 x11 x12 x13 x4 (x4.length : Int) 0)
def laws_FnMembers.l1 : Nat → ByteArray → List ByteArray → List ByteArray → Int → List Int → Bool → Bool → Bool → List Int → Int → Int → Option (Bool)
  | 0, _, _, _, _, _, _, _, _, _, _, _ => none
  | k + 1, x0, x1, x2, x3, x4, x11, x12, x13, x81, x82, x83 => if x83 < x82 then (if 0 ≤ x83 then (if x83 < (x81.length : Int) then (if x13 = true then (laws_FnMembers.l1 k x0 x1 x2 x3 x4 x11 x12 true x81 x82 (wrap64 (x83 + 1))) else (laws_FnMembers.l1 k x0 x1 x2 x3 x4 x11 x12 ((rd x81 x83) == x3) x81 x82 (wrap64 (x83 + 1)))) else (none)) else (none)) else ((impl_Member.f k (⟨#[97]⟩ : ByteArray) (([(⟨#[97]⟩ : ByteArray)] : List ByteArray))).bind fun t118 => (if t118 = true then ((impl_Member.f k x0 x1).bind fun t119 => (if (t119 == x11) = true then ((impl_IntMember.f k x3 x4).bind fun t120 => (if (t120 == x13) = true then ((impl_EqualSlices.f k x1 x2).bind fun t121 => (some (t121 == x12))) else (some false))) else (some false))) else (some false)))
end
def laws_FnMembers.f (k : Nat) (a0 : ByteArray) (l1 : List ByteArray) (l2 : List ByteArray) (a3 : Int) (l4 : List Int) : Option (Bool) := if (a0.size : Int) > 2147483647 then (laws_FnMembers.j0 k a0 l1 l2 a3 l4 true) else ((laws_zzFits1.f k l1).bind fun t109 => (if t109 = true then ((laws_zzFits1.f k l2).bind fun t110 => (if t110 = true then (laws_FnMembers.j0 k a0 l1 l2 a3 l4 (decide ((l4.length : Int) > 2147483647))) else (laws_FnMembers.j0 k a0 l1 l2 a3 l4 true))) else (laws_FnMembers.j0 k a0 l1 l2 a3 l4 true)))
theorem laws_FnMembers.mono_l : ∀ k, (∀ y0 y1 y2 y3 y4 y5, LeO (laws_FnMembers.j0 k y0 y1 y2 y3 y4 y5) (laws_FnMembers.j0 (k + 1) y0 y1 y2 y3 y4 y5)) ∧ (∀ y0 y1 y2 y3 y4 y5, LeO (laws_FnMembers.j1 k y0 y1 y2 y3 y4 y5) (laws_FnMembers.j1 (k + 1) y0 y1 y2 y3 y4 y5)) ∧ (∀ y0 y1 y2 y3 y4 y5 y6 y7 y8 y9 y10, LeO (laws_FnMembers.l0 k y0 y1 y2 y3 y4 y5 y6 y7 y8 y9 y10) (laws_FnMembers.l0 (k + 1) y0 y1 y2 y3 y4 y5 y6 y7 y8 y9 y10)) ∧ (∀ y0 y1 y2 y3 y4 y5 y6 y7 y8 y9 y10, LeO (laws_FnMembers.l1 k y0 y1 y2 y3 y4 y5 y6 y7 y8 y9 y10) (laws_FnMembers.l1 (k + 1) y0 y1 y2 y3 y4 y5 y6 y7 y8 y9 y10))
  | 0 => ⟨fun _ _ _ _ _ _ r h => by simp [laws_FnMembers.j0] at h, fun _ _ _ _ _ _ r h => by simp [laws_FnMembers.j1] at h, fun _ _ _ _ _ _ _ _ _ _ _ r h => by simp [laws_FnMembers.l0] at h, fun _ _ _ _ _ _ _ _ _ _ _ r h => by simp [laws_FnMembers.l1] at h⟩
  | k + 1 => by
    obtain ⟨ih0, ih1, ih2, ih3⟩ := laws_FnMembers.mono_l k
    refine ⟨?_, ?_, ?_, ?_⟩
    · intro y0 y1 y2 y3 y4 y5
      unfold laws_FnMembers.j0
      repeat' first
      | (with_reducible exact ih0 _ _ _ _ _ _)
      | (with_reducible exact ih1 _ _ _ _ _ _)
      | (with_reducible exact ih2 _ _ _ _ _ _ _ _ _ _ _)
      | (with_reducible exact ih3 _ _ _ _ _ _ _ _ _ _ _)
      | (with_reducible exact impl_EqualSlices.mono _ _ _)
      | (with_reducible exact impl_IntMember.mono _ _ _)
      | (with_reducible exact impl_Member.mono _ _ _)
      | (with_reducible exact laws_zzFits1.mono _ _)
      | (with_reducible exact LeO.refl _)
      | (with_reducible exact LeO.none _)
      | (with_reducible refine LeO.ite ?_ ?_)
      | (with_reducible refine LeO.bind ?_ (fun _ => ?_))
      | exact ih0 _ _ _ _ _ _
      | exact ih1 _ _ _ _ _ _
      | exact ih2 _ _ _ _ _ _ _ _ _ _ _
      | exact ih3 _ _ _ _ _ _ _ _ _ _ _
      | exact impl_EqualSlices.mono _ _ _
      | exact impl_IntMember.mono _ _ _
      | exact impl_Member.mono _ _ _
      | exact laws_zzFits1.mono _ _
      | exact LeO.none _
      | refine LeO.ite ?_ ?_
      | refine LeO.bind ?_ (fun _ => ?_)
    · intro y0 y1 y2 y3 y4 y5
      unfold laws_FnMembers.j1
      repeat' first
      | (with_reducible exact ih0 _ _ _ _ _ _)
      | (with_reducible exact ih1 _ _ _ _ _ _)
      | (with_reducible exact ih2 _ _ _ _ _ _ _ _ _ _ _)
      | (with_reducible exact ih3 _ _ _ _ _ _ _ _ _ _ _)
      | (with_reducible exact impl_EqualSlices.mono _ _ _)
      | (with_reducible exact impl_IntMember.mono _ _ _)
      | (with_reducible exact impl_Member.mono _ _ _)
      | (with_reducible exact laws_zzFits1.mono _ _)
      | (with_reducible exact LeO.refl _)
      | (with_reducible exact LeO.none _)
      | (with_reducible refine LeO.ite ?_ ?_)
      | (with_reducible refine LeO.bind ?_ (fun _ => ?_))
      | exact ih0 _ _ _ _ _ _
      | exact ih1 _ _ _ _ _ _
      | exact ih2 _ _ _ _ _ _ _ _ _ _ _
      | exact ih3 _ _ _ _ _ _ _ _ _ _ _
      | exact impl_EqualSlices.mono _ _ _
      | exact impl_IntMember.mono _ _ _
      | exact impl_Member.mono _ _ _
      | exact laws_zzFits1.mono _ _
      | exact LeO.none _
      | refine LeO.ite ?_ ?_
      | refine LeO.bind ?_ (fun _ => ?_)
    · intro y0 y1 y2 y3 y4 y5 y6 y7 y8 y9 y10
      unfold laws_FnMembers.l0
      repeat' first
      | (with_reducible exact ih0 _ _ _ _ _ _)
      | (with_reducible exact ih1 _ _ _ _ _ _)
      | (with_reducible exact ih2 _ _ _ _ _ _ _ _ _ _ _)
      | (with_reducible exact ih3 _ _ _ _ _ _ _ _ _ _ _)
      | (with_reducible exact impl_EqualSlices.mono _ _ _)
      | (with_reducible exact impl_IntMember.mono _ _ _)
      | (with_reducible exact impl_Member.mono _ _ _)
      | (with_reducible exact laws_zzFits1.mono _ _)
      | (with_reducible exact LeO.refl _)
      | (with_reducible exact LeO.none _)
      | (with_reducible refine LeO.ite ?_ ?_)
      | (with_reducible refine LeO.bind ?_ (fun _ => ?_))
      | exact ih0 _ _ _ _ _ _
      | exact ih1 _ _ _ _ _ _
      | exact ih2 _ _ _ _ _ _ _ _ _ _ _
      | exact ih3 _ _ _ _ _ _ _ _ _ _ _
      | exact impl_EqualSlices.mono _ _ _
      | exact impl_IntMember.mono _ _ _
      | exact impl_Member.mono _ _ _
      | exact laws_zzFits1.mono _ _
      | exact LeO.none _
      | refine LeO.ite ?_ ?_
      | refine LeO.bind ?_ (fun _ => ?_)
    · intro y0 y1 y2 y3 y4 y5 y6 y7 y8 y9 y10
      unfold laws_FnMembers.l1
      repeat' first
      | (with_reducible exact ih0 _ _ _ _ _ _)
      | (with_reducible exact ih1 _ _ _ _ _ _)
      | (with_reducible exact ih2 _ _ _ _ _ _ _ _ _ _ _)
      | (with_reducible exact ih3 _ _ _ _ _ _ _ _ _ _ _)
      | (with_reducible exact impl_EqualSlices.mono _ _ _)
      | (with_reducible exact impl_IntMember.mono _ _ _)
      | (with_reducible exact impl_Member.mono _ _ _)
      | (with_reducible exact laws_zzFits1.mono _ _)
      | (with_reducible exact LeO.refl _)
      | (with_reducible exact LeO.none _)
      | (with_reducible refine LeO.ite ?_ ?_)
      | (with_reducible refine LeO.bind ?_ (fun _ => ?_))
      | exact ih0 _ _ _ _ _ _
      | exact ih1 _ _ _ _ _ _
      | exact ih2 _ _ _ _ _ _ _ _ _ _ _
      | exact ih3 _ _ _ _ _ _ _ _ _ _ _
      | exact impl_EqualSlices.mono _ _ _
      | exact impl_IntMember.mono _ _ _
      | exact impl_Member.mono _ _ _
      | exact laws_zzFits1.mono _ _
      | exact LeO.none _
      | refine LeO.ite ?_ ?_
      | refine LeO.bind ?_ (fun _ => ?_)
theorem laws_FnMembers.mono : ∀ a0 a1 a2 a3 a4 k, LeO (laws_FnMembers.f k a0 a1 a2 a3 a4) (laws_FnMembers.f (k + 1) a0 a1 a2 a3 a4) := by
  intro a0 a1 a2 a3 a4 k
  obtain ⟨ih0, ih1, ih2, ih3⟩ := laws_FnMembers.mono_l k
  unfold laws_FnMembers.f
  repeat' first
      | (with_reducible exact ih0 _ _ _ _ _ _)
      | (with_reducible exact ih1 _ _ _ _ _ _)
      | (with_reducible exact ih2 _ _ _ _ _ _ _ _ _ _ _)
      | (with_reducible exact ih3 _ _ _ _ _ _ _ _ _ _ _)
      | (with_reducible exact impl_EqualSlices.mono _ _ _)
      | (with_reducible exact impl_IntMember.mono _ _ _)
      | (with_reducible exact impl_Member.mono _ _ _)
      | (with_reducible exact laws_zzFits1.mono _ _)
      | (with_reducible exact LeO.refl _)
      | (with_reducible exact LeO.none _)
      | (with_reducible refine LeO.ite ?_ ?_)
      | (with_reducible refine LeO.bind ?_ (fun _ => ?_))
      | exact ih0 _ _ _ _ _ _
      | exact ih1 _ _ _ _ _ _
      | exact ih2 _ _ _ _ _ _ _ _ _ _ _
      | exact ih3 _ _ _ _ _ _ _ _ _ _ _
      | exact impl_EqualSlices.mono _ _ _
      | exact impl_IntMember.mono _ _ _
      | exact impl_Member.mono _ _ _
      | exact laws_zzFits1.mono _ _
      | exact LeO.none _
      | refine LeO.ite ?_ ?_
      | refine LeO.bind ?_ (fun _ => ?_)
set_option maxHeartbeats 8000000 in
set_option maxRecDepth 100000 in
theorem laws_FnMembers.calls (k : Nat) (a0 : ByteArray) (A1 : Option Addr) (c1 : Nat) (l1 : List ByteArray) (A2 : Option Addr) (c2 : Nat) (l2 : List ByteArray) (a3 : Int) (A4 : Option Addr) (c4 : Nat) (l4 : List Int) (r : Bool) (w : World) (hr1 : Kd.C Kd.string w A1 l1.length l1) (hc1 : l1.length ≤ c1) (hr2 : Kd.C Kd.string w A2 l2.length l2) (hc2 : l2.length ≤ c2) (hr4 : Kd.C (Kd.int .i64) w A4 l4.length l4) (hc4 : l4.length ≤ c4) (h : laws_FnMembers.f k a0 l1 l2 a3 l4 = some r) :
    Calls Try.prog 4 #[.string a0, .slice A1 l1.length c1, .slice A2 l2.length c2, .int .i64 a3, .slice A4 l4.length c4] w fun e w' => e = .returned (.bool r) ∧ Below w.heap.size w w' := by
  have HR1 := Aside0.mk hr1
  have HC1 := Aside0.mk hc1
  clear hr1 hc1
  have HR2 := Aside0.mk hr2
  have HC2 := Aside0.mk hc2
  clear hr2 hc2
  have HR4 := Aside0.mk hr4
  have HC4 := Aside0.mk hc4
  clear hr4 hc4
  have HB := Aside0.mk (Below.refl w.heap.size w)
  have H : (if (a0.size : Int) > 2147483647 then (laws_FnMembers.j0 k a0 l1 l2 a3 l4 true) else ((laws_zzFits1.f k l1).bind fun t109 => (if t109 = true then ((laws_zzFits1.f k l2).bind fun t110 => (if t110 = true then (laws_FnMembers.j0 k a0 l1 l2 a3 l4 (decide ((l4.length : Int) > 2147483647))) else (laws_FnMembers.j0 k a0 l1 l2 a3 l4 true))) else (laws_FnMembers.j0 k a0 l1 l2 a3 l4 true)))) = some r := h
  clear h
  have HC6 := Aside0.mk H
  clear H
  go_enter Try.func4, Try.ntmps4
  go_upto_region 1 with (fail)
  go_cut [35] (fun v35 wc => ∃ (kq : Nat) (x35_5 : Bool), v35 = .bool x35_5 ∧ Aside0 (laws_FnMembers.j0 kq a0 l1 l2 a3 l4 x35_5 = some r) ∧ Aside0 (kq ≤ k) ∧ Aside0 (Below w.heap.size w wc))
  case first =>
    have H := HC6.out
    clear HC6
    by_cases c7 : (a0.size : Int) > 2147483647
    · rw [if_pos c7] at H
      have c7b0 : decide (2147483647 < (a0.size : Int)) = true := decide_eq_true c7
      have c7b1 : decide (2147483647 < a0.size) = true := decide_eq_true (by omega)
      clear c7
      (first | rw [c7b0] | (simp only [i64_w, i32_w]; rw [c7b0]) | skip)
      have H' := Aside0.mk H
      clear H
      go_wp2
      go_meet
      case rel => exact ⟨_, (true), (by first | rfl | (simp; done) | (simp [*]; done)), H', ⟨by first | omega | exact Nat.le_refl _⟩, ⟨by repeat (first | (with_reducible first | exact HB.out | apply below_alloc | apply pw_below_drewN | apply below_drew1) | exact HB.out)⟩⟩
    · rw [if_neg c7] at H
      have c7b0 : decide (2147483647 < (a0.size : Int)) = false := decide_eq_false c7
      have c7b1 : decide (2147483647 < a0.size) = false := decide_eq_false (by omega)
      clear c7
      (first | rw [c7b0] | (simp only [i64_w, i32_w]; rw [c7b0]) | skip)
      replace H := Option.bind_eq_some_iff.mp H
      obtain ⟨t109, A80, H⟩ := H
      replace H : (if t109 = true then ((laws_zzFits1.f k l2).bind fun t110 => (if t110 = true then (laws_FnMembers.j0 k a0 l1 l2 a3 l4 (decide ((l4.length : Int) > 2147483647))) else (laws_FnMembers.j0 k a0 l1 l2 a3 l4 true))) else (laws_FnMembers.j0 k a0 l1 l2 a3 l4 true)) = some r := H
      have A8 := Aside0.mk A80
      clear A80
      by_cases c9 : t109 = true
      · subst c9
        have H1 : ((laws_zzFits1.f k l2).bind fun t110 => (if t110 = true then (laws_FnMembers.j0 k a0 l1 l2 a3 l4 (decide ((l4.length : Int) > 2147483647))) else (laws_FnMembers.j0 k a0 l1 l2 a3 l4 true))) = some r := by rw [if_pos rfl] at H; exact H
        clear H
        have H := H1
        clear H1
        replace H := Option.bind_eq_some_iff.mp H
        obtain ⟨t110, A100, H⟩ := H
        replace H : (if t110 = true then (laws_FnMembers.j0 k a0 l1 l2 a3 l4 (decide ((l4.length : Int) > 2147483647))) else (laws_FnMembers.j0 k a0 l1 l2 a3 l4 true)) = some r := H
        have A10 := Aside0.mk A100
        clear A100
        by_cases c11 : t110 = true
        · subst c11
          have H1 : (laws_FnMembers.j0 k a0 l1 l2 a3 l4 (decide ((l4.length : Int) > 2147483647))) = some r := by rw [if_pos rfl] at H; exact H
          clear H
          have H := H1
          clear H1
          have H' := Aside0.mk H
          clear H
          go_wp2_with (first | (go_at_call 12; (with_reducible refine (laws_zzFits1.calls k _ _ l1 true _ ?side1 ?side2 A8.out).mono ?_); (case side1 => repeat (first | exact (Kd.C_below HR1.out HB.out) | (with_reducible refine Kd.C_alloc ?_ _) | (with_reducible refine Kd.C_drewN ?_ _) | (with_reducible refine Kd.C_drew ?_))); (case side2 => exact HC1.out); rintro e w' ⟨rfl, ⟨nd, rfl⟩⟩) | (go_at_call 12; (with_reducible refine (laws_zzFits1.calls k _ _ l2 true _ ?side1 ?side2 A10.out).mono ?_); (case side1 => repeat (first | exact (Kd.C_below HR2.out (by repeat (first | (with_reducible first | exact HB.out | apply below_alloc | apply pw_below_drewN | apply below_drew1) | exact HB.out))) | (with_reducible refine Kd.C_alloc ?_ _) | (with_reducible refine Kd.C_drewN ?_ _) | (with_reducible refine Kd.C_drew ?_))); (case side2 => exact HC2.out); rintro e w' ⟨rfl, ⟨nd, rfl⟩⟩))
          go_meet
          case rel => exact ⟨_, (decide ((l4.length : Int) > 2147483647)), (by first | rfl | (simp; done) | (simp [*]; done)), H', ⟨by first | omega | exact Nat.le_refl _⟩, ⟨by repeat (first | (with_reducible first | exact HB.out | apply below_alloc | apply pw_below_drewN | apply below_drew1) | exact HB.out)⟩⟩
        · replace c11 := Bool.eq_false_iff.mpr c11
          subst c11
          have H1 : (laws_FnMembers.j0 k a0 l1 l2 a3 l4 true) = some r := by rw [if_neg (show ¬ (false = true) by decide)] at H; exact H
          clear H
          have H := H1
          clear H1
          have H' := Aside0.mk H
          clear H
          go_wp2_with (first | (go_at_call 12; (with_reducible refine (laws_zzFits1.calls k _ _ l1 true _ ?side1 ?side2 A8.out).mono ?_); (case side1 => repeat (first | exact (Kd.C_below HR1.out HB.out) | (with_reducible refine Kd.C_alloc ?_ _) | (with_reducible refine Kd.C_drewN ?_ _) | (with_reducible refine Kd.C_drew ?_))); (case side2 => exact HC1.out); rintro e w' ⟨rfl, ⟨nd, rfl⟩⟩) | (go_at_call 12; (with_reducible refine (laws_zzFits1.calls k _ _ l2 false _ ?side1 ?side2 A10.out).mono ?_); (case side1 => repeat (first | exact (Kd.C_below HR2.out (by repeat (first | (with_reducible first | exact HB.out | apply below_alloc | apply pw_below_drewN | apply below_drew1) | exact HB.out))) | (with_reducible refine Kd.C_alloc ?_ _) | (with_reducible refine Kd.C_drewN ?_ _) | (with_reducible refine Kd.C_drew ?_))); (case side2 => exact HC2.out); rintro e w' ⟨rfl, ⟨nd, rfl⟩⟩))
          go_meet
          case rel => exact ⟨_, (true), (by first | rfl | (simp; done) | (simp [*]; done)), H', ⟨by first | omega | exact Nat.le_refl _⟩, ⟨by repeat (first | (with_reducible first | exact HB.out | apply below_alloc | apply pw_below_drewN | apply below_drew1) | exact HB.out)⟩⟩
      · replace c9 := Bool.eq_false_iff.mpr c9
        subst c9
        have H1 : (laws_FnMembers.j0 k a0 l1 l2 a3 l4 true) = some r := by rw [if_neg (show ¬ (false = true) by decide)] at H; exact H
        clear H
        have H := H1
        clear H1
        have H' := Aside0.mk H
        clear H
        go_wp2_with (first | (go_at_call 12; (with_reducible refine (laws_zzFits1.calls k _ _ l1 false _ ?side1 ?side2 A8.out).mono ?_); (case side1 => repeat (first | exact (Kd.C_below HR1.out HB.out) | (with_reducible refine Kd.C_alloc ?_ _) | (with_reducible refine Kd.C_drewN ?_ _) | (with_reducible refine Kd.C_drew ?_))); (case side2 => exact HC1.out); rintro e w' ⟨rfl, ⟨nd, rfl⟩⟩))
        go_meet
        case rel => exact ⟨_, (true), (by first | rfl | (simp; done) | (simp [*]; done)), H', ⟨by first | omega | exact Nat.le_refl _⟩, ⟨by repeat (first | (with_reducible first | exact HB.out | apply below_alloc | apply pw_below_drewN | apply below_drew1) | exact HB.out)⟩⟩
  case rest =>
    clear HC6
    try clear c1
    try clear c2
    try clear p2
    try clear c4
    try clear c7
    try clear c7b0
    try clear c7b1
    try clear c9
    try clear c11
    obtain ⟨kq, x35_5, rfl, HA, HJ5, HB⟩ := hcut
    cases kq with
    | zero => exact absurd HA.out (by simp [laws_FnMembers.j0])
    | succ kj5 =>
      have H := HA.out
      clear HA
      simp only [laws_FnMembers.j0] at H
      by_cases c12 : x35_5 = true
      · subst c12
        have H1 : (some true) = some r := by rw [if_pos rfl] at H; exact H
        clear H
        have H := H1
        clear H1
        obtain rfl := Option.some.inj H
        go_wp2
        go_ret
        exact ⟨by first | rfl | (simp [errW_none, errW_some] <;> rfl) | (simp [*, errW_none, errW_some] <;> rfl), by repeat (first | (with_reducible first | exact HB.out | apply below_alloc | apply pw_below_drewN | apply below_drew1) | exact HB.out)⟩
      · replace c12 := Bool.eq_false_iff.mpr c12
        subst c12
        have H1 : (if (l1.length : Int) > 50 then (laws_FnMembers.j1 kj5 a0 l1 l2 a3 l4 true) else (if (l2.length : Int) > 50 then (laws_FnMembers.j1 kj5 a0 l1 l2 a3 l4 true) else (laws_FnMembers.j1 kj5 a0 l1 l2 a3 l4 (decide ((l4.length : Int) > 50))))) = some r := by rw [if_neg (show ¬ (false = true) by decide)] at H; exact H
        clear H
        have H := H1
        clear H1
        have HC13 := Aside0.mk H
        clear H
        go_upto_region 3 with (fail)
        go_cut [48] (fun v48 wc => ∃ (kq : Nat) (x48_12 : Bool), v48 = .bool x48_12 ∧ Aside0 (laws_FnMembers.j1 kq a0 l1 l2 a3 l4 x48_12 = some r) ∧ Aside0 (kq ≤ kj5) ∧ Aside0 (Below w.heap.size w wc))
        case first =>
          have H := HC13.out
          clear HC13
          by_cases c14 : (l1.length : Int) > 50
          · rw [if_pos c14] at H
            have c14b0 : decide (50 < (l1.length : Int)) = true := decide_eq_true c14
            have c14b1 : decide (50 < l1.length) = true := decide_eq_true (by omega)
            clear c14
            (first | rw [c14b0] | (simp only [i64_w, i32_w]; rw [c14b0]) | skip)
            have H' := Aside0.mk H
            clear H
            go_wp2
            go_meet
            case rel => exact ⟨_, (true), (by first | rfl | (simp; done) | (simp [*]; done)), H', ⟨by have := HJ5.out; first | omega | exact Nat.le_refl _⟩, ⟨by repeat (first | (with_reducible first | exact HB.out | apply below_alloc | apply pw_below_drewN | apply below_drew1) | exact HB.out)⟩⟩
          · rw [if_neg c14] at H
            have c14b0 : decide (50 < (l1.length : Int)) = false := decide_eq_false c14
            have c14b1 : decide (50 < l1.length) = false := decide_eq_false (by omega)
            clear c14
            (first | rw [c14b0] | (simp only [i64_w, i32_w]; rw [c14b0]) | skip)
            by_cases c15 : (l2.length : Int) > 50
            · rw [if_pos c15] at H
              have c15b0 : decide (50 < (l2.length : Int)) = true := decide_eq_true c15
              have c15b1 : decide (50 < l2.length) = true := decide_eq_true (by omega)
              clear c15
              have H' := Aside0.mk H
              clear H
              go_wp2
              go_meet
              case rel => exact ⟨_, (true), (by first | rfl | (simp; done) | (simp [*]; done)), H', ⟨by have := HJ5.out; first | omega | exact Nat.le_refl _⟩, ⟨by repeat (first | (with_reducible first | exact HB.out | apply below_alloc | apply pw_below_drewN | apply below_drew1) | exact HB.out)⟩⟩
            · rw [if_neg c15] at H
              have c15b0 : decide (50 < (l2.length : Int)) = false := decide_eq_false c15
              have c15b1 : decide (50 < l2.length) = false := decide_eq_false (by omega)
              clear c15
              have H' := Aside0.mk H
              clear H
              go_wp2
              go_meet
              case rel => exact ⟨_, (decide ((l4.length : Int) > 50)), (by first | rfl | (simp; done) | (simp [*]; done)), H', ⟨by have := HJ5.out; first | omega | exact Nat.le_refl _⟩, ⟨by repeat (first | (with_reducible first | exact HB.out | apply below_alloc | apply pw_below_drewN | apply below_drew1) | exact HB.out)⟩⟩
        case rest =>
          clear HC13
          try clear c1
          try clear c2
          try clear p2
          try clear c4
          try clear c7
          try clear c7b0
          try clear c7b1
          try clear c9
          try clear c11
          try clear c12
          try clear c14
          try clear c14b0
          try clear c14b1
          try clear c15
          try clear c15b0
          try clear c15b1
          try clear p2
          obtain ⟨kq, x48_12, rfl, HA, HJ12, HB⟩ := hcut
          cases kq with
          | zero => exact absurd HA.out (by simp [laws_FnMembers.j1])
          | succ kj12 =>
            have H := HA.out
            clear HA
            simp only [laws_FnMembers.j1] at H
            by_cases c16 : x48_12 = true
            · subst c16
              have H1 : (some true) = some r := by rw [if_pos rfl] at H; exact H
              clear H
              have H := H1
              clear H1
              obtain rfl := Option.some.inj H
              go_wp2
              go_ret
              exact ⟨by first | rfl | (simp [errW_none, errW_some] <;> rfl) | (simp [*, errW_none, errW_some] <;> rfl), by repeat (first | (with_reducible first | exact HB.out | apply below_alloc | apply pw_below_drewN | apply below_drew1) | exact HB.out)⟩
            · replace c16 := Bool.eq_false_iff.mpr c16
              subst c16
              have H1 : (laws_FnMembers.l0 kj12 a0 l1 l2 a3 l4 false ((l1.length : Int) == (l2.length : Int)) false l1 (l1.length : Int) 0) = some r := by rw [if_neg (show ¬ (false = true) by decide)] at H; exact H
              clear H
              have H := H1
              clear H1
              have H' := Aside0.mk H
              clear H
              go_wp2
              go_loopg [11, 12, 56] kj12 (fun kq v11 v12 v56 w' => ∃ (x11_3 : Bool) (x12_3 : Bool) (x56_3 : Int), v11 = .bool x11_3 ∧ v12 = .bool x12_3 ∧ v56 = .int .i64 x56_3 ∧ Aside0 (laws_FnMembers.l0 kq a0 l1 l2 a3 l4 x11_3 x12_3 false l1 (l1.length : Int) x56_3 = some r) ∧ Aside0 (kq ≤ kj12) ∧ Aside0 (Below w.heap.size w w'))
              case atStart => exact ⟨(false), (((l1.length : Int) == (l2.length : Int))), (0), (by first | rfl | (simp; done) | (simp [*]; done)), (by first | rfl | (simp; done) | (simp [*]; done)), (by first | rfl | (simp; done) | (simp [*]; done)), H', ⟨Nat.le_refl _⟩, ⟨by repeat (first | (with_reducible first | exact HB.out | apply below_alloc | apply pw_below_drewN | apply below_drew1) | exact HB.out)⟩⟩
              case round =>
                clear H'
                try clear c1
                try clear c2
                try clear p2
                try clear c4
                try clear c7
                try clear c7b0
                try clear c7b1
                try clear c9
                try clear c11
                try clear c12
                try clear c14
                try clear c14b0
                try clear c14b1
                try clear c15
                try clear c15b0
                try clear c15b1
                try clear c16
                try clear p2
                obtain ⟨x11_3, x12_3, x56_3, rfl, rfl, rfl, HA, HK3, HB⟩ := hrel
                cases gk with
                | zero => exact absurd HA.out (by simp [laws_FnMembers.l0])
                | succ k3 =>
                  have H := HA.out
                  clear HA
                  simp only [laws_FnMembers.l0] at H
                  by_cases c17 : x56_3 < (l1.length : Int)
                  · rw [if_pos c17] at H
                    have c17b0 : decide (x56_3 < (l1.length : Int)) = true := decide_eq_true c17
                    clear c17
                    by_cases c18 : 0 ≤ x56_3
                    · rw [if_pos c18] at H
                      have c18b0 : decide (0 ≤ x56_3) = true := decide_eq_true c18
                      clear c18
                      by_cases c19 : x56_3 < (l1.length : Int)
                      · rw [if_pos c19] at H
                        have c19b0 : decide (x56_3 < (l1.length : Int)) = true := decide_eq_true c19
                        clear c19
                        by_cases c20 : x11_3 = true
                        · subst c20
                          have H1 : (if x12_3 = true then (if 0 ≤ (mn x56_3 (wrap64 ((l2.length : Int) - 1))) then (if (mn x56_3 (wrap64 ((l2.length : Int) - 1))) < (l2.length : Int) then (laws_FnMembers.l0 k3 a0 l1 l2 a3 l4 true ((rdOf ByteArray.empty l1 x56_3).toList == (rdOf ByteArray.empty l2 (mn x56_3 (wrap64 ((l2.length : Int) - 1)))).toList) false l1 (l1.length : Int) (wrap64 (x56_3 + 1))) else (none)) else (none)) else (laws_FnMembers.l0 k3 a0 l1 l2 a3 l4 true false false l1 (l1.length : Int) (wrap64 (x56_3 + 1)))) = some r := by rw [if_pos rfl] at H; exact H
                          clear H
                          have H := H1
                          clear H1
                          by_cases c21 : x12_3 = true
                          · subst c21
                            have H1 : (if 0 ≤ (mn x56_3 (wrap64 ((l2.length : Int) - 1))) then (if (mn x56_3 (wrap64 ((l2.length : Int) - 1))) < (l2.length : Int) then (laws_FnMembers.l0 k3 a0 l1 l2 a3 l4 true ((rdOf ByteArray.empty l1 x56_3).toList == (rdOf ByteArray.empty l2 (mn x56_3 (wrap64 ((l2.length : Int) - 1)))).toList) false l1 (l1.length : Int) (wrap64 (x56_3 + 1))) else (none)) else (none)) = some r := by rw [if_pos rfl] at H; exact H
                            clear H
                            have H := H1
                            clear H1
                            obtain ⟨ji22, hji22⟩ : ∃ j_ : Int, (mn x56_3 (wrap64 ((l2.length : Int) - 1))) = j_ := ⟨_, rfl⟩
                            replace H : (if 0 ≤ (ji22) then (if (ji22) < (l2.length : Int) then (laws_FnMembers.l0 k3 a0 l1 l2 a3 l4 true ((rdOf ByteArray.empty l1 x56_3).toList == (rdOf ByteArray.empty l2 (ji22)).toList) false l1 (l1.length : Int) (wrap64 (x56_3 + 1))) else (none)) else (none)) = some r := by first | (rw [hji22] at H; exact H) | (simp only [hji22] at H ⊢; exact H)
                            have hji22_ : (if (wrap64 ((l2.length : Int) - 1)) < x56_3 then (wrap64 ((l2.length : Int) - 1)) else x56_3) = ji22 := hji22
                            by_cases c23 : 0 ≤ (ji22)
                            · rw [if_pos c23] at H
                              have c23b0 : decide (0 ≤ (ji22)) = true := decide_eq_true c23
                              clear c23
                              by_cases c24 : (ji22) < (l2.length : Int)
                              · rw [if_pos c24] at H
                                have c24b0 : decide ((ji22) < (l2.length : Int)) = true := decide_eq_true c24
                                clear c24
                                have H' := Aside0.mk H
                                clear H
                                have p111 : 0 ≤ (x56_3 : Int) := of_decide_eq_true (by first | (with_reducible assumption) | assumption)
                                have q111 : x56_3 < (l1.length : Int) := of_decide_eq_true (by first | (with_reducible assumption) | assumption)
                                obtain ⟨ad111, e111, hx111_0⟩ := Kd.at_string HR1.out x56_3 p111 q111
                                cases e111
                                replace hx111_0 := (HB.out.cell (World.block_lt_of_cell? w _ hx111_0)).trans hx111_0
                                replace p111 := eq_true p111
                                replace q111 := eq_true q111
                                have p112 : 0 ≤ ((ji22) : Int) := of_decide_eq_true (by first | (with_reducible assumption) | assumption)
                                have q112 : (ji22) < (l2.length : Int) := of_decide_eq_true (by first | (with_reducible assumption) | assumption)
                                obtain ⟨ad112, e112, hx112_0⟩ := Kd.at_string HR2.out (ji22) p112 q112
                                cases e112
                                replace hx112_0 := (HB.out.cell (World.block_lt_of_cell? w _ hx112_0)).trans hx112_0
                                replace p112 := eq_true p112
                                replace q112 := eq_true q112
                                go_wp2
                                go_roundg k3
                                case measure => have := HJ5.out; have := HJ12.out; have := HK3.out; omega
                                case rel => exact ⟨(true), (((rdOf ByteArray.empty l1 x56_3).toList == (rdOf ByteArray.empty l2 (ji22)).toList)), (wrap64 (x56_3 + 1)), (by first | rfl | (simp; done) | (simp [*]; done)), (by first | rfl | (simp; done) | (simp only [← hji22] <;> (first | rfl | simp)) | (simp [*]; done)), (by first | rfl | (simp; done) | (simp [*]; done)), H', ⟨by have := HJ5.out; have := HJ12.out; have := HK3.out; omega⟩, ⟨by repeat (first | (with_reducible first | exact HB.out | apply below_alloc | apply pw_below_drewN | apply below_drew1) | exact HB.out)⟩⟩
                              · rw [if_neg c24] at H
                                exact absurd H (by simp)
                            · rw [if_neg c23] at H
                              exact absurd H (by simp)
                          · replace c21 := Bool.eq_false_iff.mpr c21
                            subst c21
                            have H1 : (laws_FnMembers.l0 k3 a0 l1 l2 a3 l4 true false false l1 (l1.length : Int) (wrap64 (x56_3 + 1))) = some r := by rw [if_neg (show ¬ (false = true) by decide)] at H; exact H
                            clear H
                            have H := H1
                            clear H1
                            have H' := Aside0.mk H
                            clear H
                            have p111 : 0 ≤ (x56_3 : Int) := of_decide_eq_true (by first | (with_reducible assumption) | assumption)
                            have q111 : x56_3 < (l1.length : Int) := of_decide_eq_true (by first | (with_reducible assumption) | assumption)
                            obtain ⟨ad111, e111, hx111_0⟩ := Kd.at_string HR1.out x56_3 p111 q111
                            cases e111
                            replace hx111_0 := (HB.out.cell (World.block_lt_of_cell? w _ hx111_0)).trans hx111_0
                            replace p111 := eq_true p111
                            replace q111 := eq_true q111
                            go_wp2
                            go_roundg k3
                            case measure => have := HJ5.out; have := HJ12.out; have := HK3.out; omega
                            case rel => exact ⟨(true), (false), (wrap64 (x56_3 + 1)), (by first | rfl | (simp; done) | (simp [*]; done)), (by first | rfl | (simp; done) | (simp [*]; done)), (by first | rfl | (simp; done) | (simp [*]; done)), H', ⟨by have := HJ5.out; have := HJ12.out; have := HK3.out; omega⟩, ⟨by repeat (first | (with_reducible first | exact HB.out | apply below_alloc | apply pw_below_drewN | apply below_drew1) | exact HB.out)⟩⟩
                        · replace c20 := Bool.eq_false_iff.mpr c20
                          subst c20
                          have H1 : (if x12_3 = true then (if 0 ≤ (mn x56_3 (wrap64 ((l2.length : Int) - 1))) then (if (mn x56_3 (wrap64 ((l2.length : Int) - 1))) < (l2.length : Int) then (laws_FnMembers.l0 k3 a0 l1 l2 a3 l4 ((rdOf ByteArray.empty l1 x56_3).toList == a0.toList) ((rdOf ByteArray.empty l1 x56_3).toList == (rdOf ByteArray.empty l2 (mn x56_3 (wrap64 ((l2.length : Int) - 1)))).toList) false l1 (l1.length : Int) (wrap64 (x56_3 + 1))) else (none)) else (none)) else (laws_FnMembers.l0 k3 a0 l1 l2 a3 l4 ((rdOf ByteArray.empty l1 x56_3).toList == a0.toList) false false l1 (l1.length : Int) (wrap64 (x56_3 + 1)))) = some r := by rw [if_neg (show ¬ (false = true) by decide)] at H; exact H
                          clear H
                          have H := H1
                          clear H1
                          by_cases c25 : x12_3 = true
                          · subst c25
                            have H1 : (if 0 ≤ (mn x56_3 (wrap64 ((l2.length : Int) - 1))) then (if (mn x56_3 (wrap64 ((l2.length : Int) - 1))) < (l2.length : Int) then (laws_FnMembers.l0 k3 a0 l1 l2 a3 l4 ((rdOf ByteArray.empty l1 x56_3).toList == a0.toList) ((rdOf ByteArray.empty l1 x56_3).toList == (rdOf ByteArray.empty l2 (mn x56_3 (wrap64 ((l2.length : Int) - 1)))).toList) false l1 (l1.length : Int) (wrap64 (x56_3 + 1))) else (none)) else (none)) = some r := by rw [if_pos rfl] at H; exact H
                            clear H
                            have H := H1
                            clear H1
                            obtain ⟨ji26, hji26⟩ : ∃ j_ : Int, (mn x56_3 (wrap64 ((l2.length : Int) - 1))) = j_ := ⟨_, rfl⟩
                            replace H : (if 0 ≤ (ji26) then (if (ji26) < (l2.length : Int) then (laws_FnMembers.l0 k3 a0 l1 l2 a3 l4 ((rdOf ByteArray.empty l1 x56_3).toList == a0.toList) ((rdOf ByteArray.empty l1 x56_3).toList == (rdOf ByteArray.empty l2 (ji26)).toList) false l1 (l1.length : Int) (wrap64 (x56_3 + 1))) else (none)) else (none)) = some r := by first | (rw [hji26] at H; exact H) | (simp only [hji26] at H ⊢; exact H)
                            have hji26_ : (if (wrap64 ((l2.length : Int) - 1)) < x56_3 then (wrap64 ((l2.length : Int) - 1)) else x56_3) = ji26 := hji26
                            by_cases c27 : 0 ≤ (ji26)
                            · rw [if_pos c27] at H
                              have c27b0 : decide (0 ≤ (ji26)) = true := decide_eq_true c27
                              clear c27
                              by_cases c28 : (ji26) < (l2.length : Int)
                              · rw [if_pos c28] at H
                                have c28b0 : decide ((ji26) < (l2.length : Int)) = true := decide_eq_true c28
                                clear c28
                                have H' := Aside0.mk H
                                clear H
                                have p111 : 0 ≤ (x56_3 : Int) := of_decide_eq_true (by first | (with_reducible assumption) | assumption)
                                have q111 : x56_3 < (l1.length : Int) := of_decide_eq_true (by first | (with_reducible assumption) | assumption)
                                obtain ⟨ad111, e111, hx111_0⟩ := Kd.at_string HR1.out x56_3 p111 q111
                                cases e111
                                replace hx111_0 := (HB.out.cell (World.block_lt_of_cell? w _ hx111_0)).trans hx111_0
                                replace p111 := eq_true p111
                                replace q111 := eq_true q111
                                have p113 : 0 ≤ ((ji26) : Int) := of_decide_eq_true (by first | (with_reducible assumption) | assumption)
                                have q113 : (ji26) < (l2.length : Int) := of_decide_eq_true (by first | (with_reducible assumption) | assumption)
                                obtain ⟨ad113, e113, hx113_0⟩ := Kd.at_string HR2.out (ji26) p113 q113
                                cases e113
                                replace hx113_0 := (HB.out.cell (World.block_lt_of_cell? w _ hx113_0)).trans hx113_0
                                replace p113 := eq_true p113
                                replace q113 := eq_true q113
                                go_wp2
                                go_roundg k3
                                case measure => have := HJ5.out; have := HJ12.out; have := HK3.out; omega
                                case rel => exact ⟨(((rdOf ByteArray.empty l1 x56_3).toList == a0.toList)), (((rdOf ByteArray.empty l1 x56_3).toList == (rdOf ByteArray.empty l2 (ji26)).toList)), (wrap64 (x56_3 + 1)), (by first | rfl | (simp; done) | (simp [*]; done)), (by first | rfl | (simp; done) | (simp only [← hji26] <;> (first | rfl | simp)) | (simp [*]; done)), (by first | rfl | (simp; done) | (simp [*]; done)), H', ⟨by have := HJ5.out; have := HJ12.out; have := HK3.out; omega⟩, ⟨by repeat (first | (with_reducible first | exact HB.out | apply below_alloc | apply pw_below_drewN | apply below_drew1) | exact HB.out)⟩⟩
                              · rw [if_neg c28] at H
                                exact absurd H (by simp)
                            · rw [if_neg c27] at H
                              exact absurd H (by simp)
                          · replace c25 := Bool.eq_false_iff.mpr c25
                            subst c25
                            have H1 : (laws_FnMembers.l0 k3 a0 l1 l2 a3 l4 ((rdOf ByteArray.empty l1 x56_3).toList == a0.toList) false false l1 (l1.length : Int) (wrap64 (x56_3 + 1))) = some r := by rw [if_neg (show ¬ (false = true) by decide)] at H; exact H
                            clear H
                            have H := H1
                            clear H1
                            have H' := Aside0.mk H
                            clear H
                            have p111 : 0 ≤ (x56_3 : Int) := of_decide_eq_true (by first | (with_reducible assumption) | assumption)
                            have q111 : x56_3 < (l1.length : Int) := of_decide_eq_true (by first | (with_reducible assumption) | assumption)
                            obtain ⟨ad111, e111, hx111_0⟩ := Kd.at_string HR1.out x56_3 p111 q111
                            cases e111
                            replace hx111_0 := (HB.out.cell (World.block_lt_of_cell? w _ hx111_0)).trans hx111_0
                            replace p111 := eq_true p111
                            replace q111 := eq_true q111
                            go_wp2
                            go_roundg k3
                            case measure => have := HJ5.out; have := HJ12.out; have := HK3.out; omega
                            case rel => exact ⟨(((rdOf ByteArray.empty l1 x56_3).toList == a0.toList)), (false), (wrap64 (x56_3 + 1)), (by first | rfl | (simp; done) | (simp [*]; done)), (by first | rfl | (simp; done) | (simp [*]; done)), (by first | rfl | (simp; done) | (simp [*]; done)), H', ⟨by have := HJ5.out; have := HJ12.out; have := HK3.out; omega⟩, ⟨by repeat (first | (with_reducible first | exact HB.out | apply below_alloc | apply pw_below_drewN | apply below_drew1) | exact HB.out)⟩⟩
                      · rw [if_neg c19] at H
                        exact absurd H (by simp)
                    · rw [if_neg c18] at H
                      exact absurd H (by simp)
                  · rw [if_neg c17] at H
                    have c17b0 : decide (x56_3 < (l1.length : Int)) = false := decide_eq_false c17
                    clear c17
                    have H' := Aside0.mk H
                    clear H
                    go_wp2
                    go_loopg [13, 83] k3 (fun kq v13 v83 w' => ∃ (x13_4 : Bool) (x83_4 : Int), v13 = .bool x13_4 ∧ v83 = .int .i64 x83_4 ∧ Aside0 (laws_FnMembers.l1 kq a0 l1 l2 a3 l4 x11_3 x12_3 x13_4 l4 (l4.length : Int) x83_4 = some r) ∧ Aside0 (kq ≤ k3) ∧ Aside0 (Below w.heap.size w w'))
                    case atStart => exact ⟨(false), (0), (by first | rfl | (simp; done) | (simp [*]; done)), (by first | rfl | (simp; done) | (simp [*]; done)), H', ⟨Nat.le_refl _⟩, ⟨by repeat (first | (with_reducible first | exact HB.out | apply below_alloc | apply pw_below_drewN | apply below_drew1) | exact HB.out)⟩⟩
                    case round =>
                      clear H'
                      try clear c1
                      try clear p1
                      try clear q1
                      try clear hx1
                      try clear c2
                      try clear p2
                      try clear c4
                      try clear p6
                      try clear c7
                      try clear c7b0
                      try clear c7b1
                      try clear c9
                      try clear c11
                      try clear p11
                      try clear q11
                      try clear hx11
                      try clear c12
                      try clear c14
                      try clear c14b0
                      try clear c14b1
                      try clear c15
                      try clear c15b0
                      try clear c15b1
                      try clear c16
                      try clear c17
                      try clear c17b0
                      try clear c18
                      try clear c18b0
                      try clear c19
                      try clear c19b0
                      try clear c20
                      try clear c21
                      try clear c23
                      try clear c23b0
                      try clear c24
                      try clear c24b0
                      try clear c25
                      try clear c27
                      try clear c27b0
                      try clear c28
                      try clear c28b0
                      try clear hx111_0
                      try clear hx112_0
                      try clear hx113_0
                      try clear p111
                      try clear p112
                      try clear p113
                      try clear p2
                      try clear q111
                      try clear q112
                      try clear q113
                      obtain ⟨x13_4, x83_4, rfl, rfl, HA, HK4, HB⟩ := hrel
                      cases gk with
                      | zero => exact absurd HA.out (by simp [laws_FnMembers.l1])
                      | succ k4 =>
                        have H := HA.out
                        clear HA
                        simp only [laws_FnMembers.l1] at H
                        by_cases c29 : x83_4 < (l4.length : Int)
                        · rw [if_pos c29] at H
                          have c29b0 : decide (x83_4 < (l4.length : Int)) = true := decide_eq_true c29
                          clear c29
                          by_cases c30 : 0 ≤ x83_4
                          · rw [if_pos c30] at H
                            have c30b0 : decide (0 ≤ x83_4) = true := decide_eq_true c30
                            clear c30
                            by_cases c31 : x83_4 < (l4.length : Int)
                            · rw [if_pos c31] at H
                              have c31b0 : decide (x83_4 < (l4.length : Int)) = true := decide_eq_true c31
                              clear c31
                              by_cases c32 : x13_4 = true
                              · subst c32
                                have H1 : (laws_FnMembers.l1 k4 a0 l1 l2 a3 l4 x11_3 x12_3 true l4 (l4.length : Int) (wrap64 (x83_4 + 1))) = some r := by rw [if_pos rfl] at H; exact H
                                clear H
                                have H := H1
                                clear H1
                                have H' := Aside0.mk H
                                clear H
                                have p114 : 0 ≤ (x83_4 : Int) := of_decide_eq_true (by first | (with_reducible assumption) | assumption)
                                have q114 : x83_4 < (l4.length : Int) := of_decide_eq_true (by first | (with_reducible assumption) | assumption)
                                obtain ⟨ad114, e114, hx114_0⟩ := Kd.at_int HR4.out x83_4 p114 q114
                                cases e114
                                replace hx114_0 := (HB.out.cell (World.block_lt_of_cell? w _ hx114_0)).trans hx114_0
                                replace p114 := eq_true p114
                                replace q114 := eq_true q114
                                go_wp2
                                go_roundg k4
                                case measure => have := HJ5.out; have := HJ12.out; have := HK3.out; have := HK4.out; omega
                                case rel => exact ⟨(true), (wrap64 (x83_4 + 1)), (by first | rfl | (simp; done) | (simp [*]; done)), (by first | rfl | (simp; done) | (simp [*]; done)), H', ⟨by have := HJ5.out; have := HJ12.out; have := HK3.out; have := HK4.out; omega⟩, ⟨by repeat (first | (with_reducible first | exact HB.out | apply below_alloc | apply pw_below_drewN | apply below_drew1) | exact HB.out)⟩⟩
                              · replace c32 := Bool.eq_false_iff.mpr c32
                                subst c32
                                have H1 : (laws_FnMembers.l1 k4 a0 l1 l2 a3 l4 x11_3 x12_3 ((rd l4 x83_4) == a3) l4 (l4.length : Int) (wrap64 (x83_4 + 1))) = some r := by rw [if_neg (show ¬ (false = true) by decide)] at H; exact H
                                clear H
                                have H := H1
                                clear H1
                                have H' := Aside0.mk H
                                clear H
                                have p114 : 0 ≤ (x83_4 : Int) := of_decide_eq_true (by first | (with_reducible assumption) | assumption)
                                have q114 : x83_4 < (l4.length : Int) := of_decide_eq_true (by first | (with_reducible assumption) | assumption)
                                obtain ⟨ad114, e114, hx114_0⟩ := Kd.at_int HR4.out x83_4 p114 q114
                                cases e114
                                replace hx114_0 := (HB.out.cell (World.block_lt_of_cell? w _ hx114_0)).trans hx114_0
                                replace p114 := eq_true p114
                                replace q114 := eq_true q114
                                go_wp2
                                go_roundg k4
                                case measure => have := HJ5.out; have := HJ12.out; have := HK3.out; have := HK4.out; omega
                                case rel => exact ⟨(((rd l4 x83_4) == a3)), (wrap64 (x83_4 + 1)), (by first | rfl | (simp; done) | (simp [*]; done)), (by first | rfl | (simp; done) | (simp [*]; done)), H', ⟨by have := HJ5.out; have := HJ12.out; have := HK3.out; have := HK4.out; omega⟩, ⟨by repeat (first | (with_reducible first | exact HB.out | apply below_alloc | apply pw_below_drewN | apply below_drew1) | exact HB.out)⟩⟩
                            · rw [if_neg c31] at H
                              exact absurd H (by simp)
                          · rw [if_neg c30] at H
                            exact absurd H (by simp)
                        · rw [if_neg c29] at H
                          have c29b0 : decide (x83_4 < (l4.length : Int)) = false := decide_eq_false c29
                          clear c29
                          obtain ⟨y115, hy115⟩ : ∃ y_ : List ByteArray, y_ = (([(⟨#[97]⟩ : ByteArray)] : List ByteArray)) := ⟨_, rfl⟩
                          replace H : ((impl_Member.f k4 (⟨#[97]⟩ : ByteArray) y115).bind fun t118 => (if t118 = true then ((impl_Member.f k4 a0 l1).bind fun t119 => (if (t119 == x11_3) = true then ((impl_IntMember.f k4 a3 l4).bind fun t120 => (if (t120 == x13_4) = true then ((impl_EqualSlices.f k4 l1 l2).bind fun t121 => (some (t121 == x12_3))) else (some false))) else (some false))) else (some false))) = some r := by first | (rw [hy115]; with_reducible exact H) | (have H2_ := (Option.bind_some _ _).symm.trans H; rw [hy115]; with_reducible exact H2_) | (have H2_ := (Option.bind_some _ _).symm.trans H; with_reducible exact H2_) | with_reducible exact H | (rw [hy115]; exact H) | exact H
                          have Ny115 := Aside0.mk hy115
                          clear hy115
                          replace H := Option.bind_eq_some_iff.mp H
                          obtain ⟨t118, A330, H⟩ := H
                          replace H : (if t118 = true then ((impl_Member.f k4 a0 l1).bind fun t119 => (if (t119 == x11_3) = true then ((impl_IntMember.f k4 a3 l4).bind fun t120 => (if (t120 == x13_4) = true then ((impl_EqualSlices.f k4 l1 l2).bind fun t121 => (some (t121 == x12_3))) else (some false))) else (some false))) else (some false)) = some r := H
                          have A33 := Aside0.mk A330
                          clear A330
                          by_cases c34 : t118 = true
                          · subst c34
                            have H1 : ((impl_Member.f k4 a0 l1).bind fun t119 => (if (t119 == x11_3) = true then ((impl_IntMember.f k4 a3 l4).bind fun t120 => (if (t120 == x13_4) = true then ((impl_EqualSlices.f k4 l1 l2).bind fun t121 => (some (t121 == x12_3))) else (some false))) else (some false))) = some r := by rw [if_pos rfl] at H; exact H
                            clear H
                            have H := H1
                            clear H1
                            replace H := Option.bind_eq_some_iff.mp H
                            obtain ⟨t119, A350, H⟩ := H
                            replace H : (if (t119 == x11_3) = true then ((impl_IntMember.f k4 a3 l4).bind fun t120 => (if (t120 == x13_4) = true then ((impl_EqualSlices.f k4 l1 l2).bind fun t121 => (some (t121 == x12_3))) else (some false))) else (some false)) = some r := H
                            have A35 := Aside0.mk A350
                            clear A350
                            by_cases c36 : (t119 == x11_3) = true
                            · rw [if_pos c36] at H
                              have c36b0 : (t119 == x11_3) = true := c36
                              (try (have c36b1 : decide (t119 = x11_3) = true := by simpa using c36))
                              (try (have c36b2 : (t119 == x11_3) = true := by simpa using c36))
                              clear c36
                              replace H := Option.bind_eq_some_iff.mp H
                              obtain ⟨t120, A370, H⟩ := H
                              replace H : (if (t120 == x13_4) = true then ((impl_EqualSlices.f k4 l1 l2).bind fun t121 => (some (t121 == x12_3))) else (some false)) = some r := H
                              have A37 := Aside0.mk A370
                              clear A370
                              by_cases c38 : (t120 == x13_4) = true
                              · rw [if_pos c38] at H
                                have c38b0 : (t120 == x13_4) = true := c38
                                (try (have c38b1 : decide (t120 = x13_4) = true := by simpa using c38))
                                (try (have c38b2 : (t120 == x13_4) = true := by simpa using c38))
                                clear c38
                                replace H := Option.bind_eq_some_iff.mp H
                                obtain ⟨t121, A390, H⟩ := H
                                replace H : (some (t121 == x12_3)) = some r := H
                                have A39 := Aside0.mk A390
                                clear A390
                                obtain rfl := Option.some.inj H
                                go_wp2_with (first | ((with_reducible refine gate_dst (N := 94) rfl ?_); (try (refine gate_guard (by rfl) ?_; dsimp only)); refine Kd.R_lit Kd.string _ 9 ?hg (N := 94) ?hd (xs := ([(⟨#[97]⟩ : ByteArray)] : List ByteArray)) (inner := [.string (⟨#[97]⟩ : ByteArray)]) (ok := fun _ => True) (okp := fun _ => True) ?hr ?hp (fun _ hk => hk) trivial (Below.refl _ _) (Nat.le_refl _) (by simp) ?_; (case hd => rfl); (case hg => rfl); (case hr => first | (go_simp; done) | (go_simp; rfl)); (case hp => exact (Reps.one (show Kd.M Kd.string _ _ _ (⟨#[97]⟩ : ByteArray) [.string (⟨#[97]⟩ : ByteArray)] from rfl) (Reps.none _ _))); intro v116 w40 ho41 hb hg_ hnew_; clear hg_ hnew_; (first | rw [← Ny115.out] at ho41 | (simp only [Int.reduceToNat] at ho41; rw [← Ny115.out] at ho41)); have n0_ := Aside0.mk (Kd.R_lower ho41 (below_size (by repeat (first | (with_reducible first | exact HB.out | apply below_alloc | apply pw_below_drewN | apply below_drew1) | exact HB.out)))); have n1_ := Aside0.mk (below_step (by repeat (first | (with_reducible first | exact HB.out | apply below_alloc | apply pw_below_drewN | apply below_drew1) | exact HB.out)) hb); clear HB; have HO117 := n0_; have HB := n1_; clear n0_ n1_; clear hb ho41; obtain ⟨Ao42, co42, eo42⟩ := Kd.R_slice HO117.out; subst eo42) | ((with_reducible refine gate_callee (f := 13) rfl ?_); refine goesL_ (some 95) rfl rfl Try.func13 (by kernel_rfl) rfl #[.string (⟨#[97]⟩ : ByteArray), .slice Ao42 y115.length co42] rfl (by (try simp only [List.map_toArray, List.map_cons, List.map_nil]); first | done | rfl | (simp only [List.length_drop, List.length_take]; rfl)) ?_; (with_reducible refine (impl_Member.calls k4 (⟨#[97]⟩ : ByteArray) _ _ y115 true _ ?side1 ?side2 A33.out).mono ?_); (case side1 => repeat (first | exact (Kd.R_reads' HO117.out).2.2 | (with_reducible refine Kd.C_alloc ?_ _) | (with_reducible refine Kd.C_drewN ?_ _) | (with_reducible refine Kd.C_drew ?_))); (case side2 => exact (Kd.R_reads' HO117.out).2.1); rintro e w' ⟨rfl, ⟨nd, rfl⟩⟩; refine ⟨_, rfl, ?_⟩) | (go_at_call 13; (with_reducible refine (impl_Member.calls k4 a0 _ _ l1 t119 _ ?side1 ?side2 A35.out).mono ?_); (case side1 => repeat (first | exact (Kd.C_below HR1.out (by repeat (first | (with_reducible first | exact HB.out | apply below_alloc | apply pw_below_drewN | apply below_drew1) | exact HB.out))) | (with_reducible refine Kd.C_alloc ?_ _) | (with_reducible refine Kd.C_drewN ?_ _) | (with_reducible refine Kd.C_drew ?_))); (case side2 => exact HC1.out); rintro e w' ⟨rfl, ⟨nd, rfl⟩⟩) | (go_at_call 14; (with_reducible refine (impl_IntMember.calls k4 a3 _ _ l4 t120 _ ?side1 ?side2 A37.out).mono ?_); (case side1 => repeat (first | exact (Kd.C_below HR4.out (by repeat (first | (with_reducible first | exact HB.out | apply below_alloc | apply pw_below_drewN | apply below_drew1) | exact HB.out))) | (with_reducible refine Kd.C_alloc ?_ _) | (with_reducible refine Kd.C_drewN ?_ _) | (with_reducible refine Kd.C_drew ?_))); (case side2 => exact HC4.out); rintro e w' ⟨rfl, ⟨nd, rfl⟩⟩) | (go_at_call 15; (with_reducible refine (impl_EqualSlices.calls k4 _ _ l1 _ _ l2 t121 _ ?side1 ?side2 ?side3 ?side4 A39.out).mono ?_); (case side1 => repeat (first | exact (Kd.C_below HR1.out (by repeat (first | (with_reducible first | exact HB.out | apply below_alloc | apply pw_below_drewN | apply below_drew1) | exact HB.out))) | (with_reducible refine Kd.C_alloc ?_ _) | (with_reducible refine Kd.C_drewN ?_ _) | (with_reducible refine Kd.C_drew ?_))); (case side2 => exact HC1.out); (case side3 => repeat (first | exact (Kd.C_below HR2.out (by repeat (first | (with_reducible first | exact HB.out | apply below_alloc | apply pw_below_drewN | apply below_drew1) | exact HB.out))) | (with_reducible refine Kd.C_alloc ?_ _) | (with_reducible refine Kd.C_drewN ?_ _) | (with_reducible refine Kd.C_drew ?_))); (case side4 => exact HC2.out); rintro e w' ⟨rfl, ⟨nd, rfl⟩⟩))
                                go_ret
                                exact ⟨by first | rfl | (simp [errW_none, errW_some] <;> rfl) | (simp [*, errW_none, errW_some] <;> rfl), by repeat (first | (with_reducible first | exact HB.out | apply below_alloc | apply pw_below_drewN | apply below_drew1) | exact HB.out)⟩
                              · rw [if_neg c38] at H
                                have c38b0 : (t120 == x13_4) = false := by simpa using c38
                                (try (have c38b1 : decide (t120 = x13_4) = false := by simpa using c38))
                                (try (have c38b2 : (t120 == x13_4) = false := by simpa using c38))
                                (try (have c38b3 : ¬ (t120 = x13_4) := by simpa using c38))
                                clear c38
                                obtain rfl := Option.some.inj H
                                go_wp2_with (first | ((with_reducible refine gate_dst (N := 94) rfl ?_); (try (refine gate_guard (by rfl) ?_; dsimp only)); refine Kd.R_lit Kd.string _ 9 ?hg (N := 94) ?hd (xs := ([(⟨#[97]⟩ : ByteArray)] : List ByteArray)) (inner := [.string (⟨#[97]⟩ : ByteArray)]) (ok := fun _ => True) (okp := fun _ => True) ?hr ?hp (fun _ hk => hk) trivial (Below.refl _ _) (Nat.le_refl _) (by simp) ?_; (case hd => rfl); (case hg => rfl); (case hr => first | (go_simp; done) | (go_simp; rfl)); (case hp => exact (Reps.one (show Kd.M Kd.string _ _ _ (⟨#[97]⟩ : ByteArray) [.string (⟨#[97]⟩ : ByteArray)] from rfl) (Reps.none _ _))); intro v116 w43 ho44 hb hg_ hnew_; clear hg_ hnew_; (first | rw [← Ny115.out] at ho44 | (simp only [Int.reduceToNat] at ho44; rw [← Ny115.out] at ho44)); have n0_ := Aside0.mk (Kd.R_lower ho44 (below_size (by repeat (first | (with_reducible first | exact HB.out | apply below_alloc | apply pw_below_drewN | apply below_drew1) | exact HB.out)))); have n1_ := Aside0.mk (below_step (by repeat (first | (with_reducible first | exact HB.out | apply below_alloc | apply pw_below_drewN | apply below_drew1) | exact HB.out)) hb); clear HB; have HO117 := n0_; have HB := n1_; clear n0_ n1_; clear hb ho44; obtain ⟨Ao45, co45, eo45⟩ := Kd.R_slice HO117.out; subst eo45) | ((with_reducible refine gate_callee (f := 13) rfl ?_); refine goesL_ (some 95) rfl rfl Try.func13 (by kernel_rfl) rfl #[.string (⟨#[97]⟩ : ByteArray), .slice Ao45 y115.length co45] rfl (by (try simp only [List.map_toArray, List.map_cons, List.map_nil]); first | done | rfl | (simp only [List.length_drop, List.length_take]; rfl)) ?_; (with_reducible refine (impl_Member.calls k4 (⟨#[97]⟩ : ByteArray) _ _ y115 true _ ?side1 ?side2 A33.out).mono ?_); (case side1 => repeat (first | exact (Kd.R_reads' HO117.out).2.2 | (with_reducible refine Kd.C_alloc ?_ _) | (with_reducible refine Kd.C_drewN ?_ _) | (with_reducible refine Kd.C_drew ?_))); (case side2 => exact (Kd.R_reads' HO117.out).2.1); rintro e w' ⟨rfl, ⟨nd, rfl⟩⟩; refine ⟨_, rfl, ?_⟩) | (go_at_call 13; (with_reducible refine (impl_Member.calls k4 a0 _ _ l1 t119 _ ?side1 ?side2 A35.out).mono ?_); (case side1 => repeat (first | exact (Kd.C_below HR1.out (by repeat (first | (with_reducible first | exact HB.out | apply below_alloc | apply pw_below_drewN | apply below_drew1) | exact HB.out))) | (with_reducible refine Kd.C_alloc ?_ _) | (with_reducible refine Kd.C_drewN ?_ _) | (with_reducible refine Kd.C_drew ?_))); (case side2 => exact HC1.out); rintro e w' ⟨rfl, ⟨nd, rfl⟩⟩) | (go_at_call 14; (with_reducible refine (impl_IntMember.calls k4 a3 _ _ l4 t120 _ ?side1 ?side2 A37.out).mono ?_); (case side1 => repeat (first | exact (Kd.C_below HR4.out (by repeat (first | (with_reducible first | exact HB.out | apply below_alloc | apply pw_below_drewN | apply below_drew1) | exact HB.out))) | (with_reducible refine Kd.C_alloc ?_ _) | (with_reducible refine Kd.C_drewN ?_ _) | (with_reducible refine Kd.C_drew ?_))); (case side2 => exact HC4.out); rintro e w' ⟨rfl, ⟨nd, rfl⟩⟩))
                                go_ret
                                exact ⟨by first | rfl | (simp [errW_none, errW_some] <;> rfl) | (simp [*, errW_none, errW_some] <;> rfl), by repeat (first | (with_reducible first | exact HB.out | apply below_alloc | apply pw_below_drewN | apply below_drew1) | exact HB.out)⟩
                            · rw [if_neg c36] at H
                              have c36b0 : (t119 == x11_3) = false := by simpa using c36
                              (try (have c36b1 : decide (t119 = x11_3) = false := by simpa using c36))
                              (try (have c36b2 : (t119 == x11_3) = false := by simpa using c36))
                              (try (have c36b3 : ¬ (t119 = x11_3) := by simpa using c36))
                              clear c36
                              obtain rfl := Option.some.inj H
                              go_wp2_with (first | ((with_reducible refine gate_dst (N := 94) rfl ?_); (try (refine gate_guard (by rfl) ?_; dsimp only)); refine Kd.R_lit Kd.string _ 9 ?hg (N := 94) ?hd (xs := ([(⟨#[97]⟩ : ByteArray)] : List ByteArray)) (inner := [.string (⟨#[97]⟩ : ByteArray)]) (ok := fun _ => True) (okp := fun _ => True) ?hr ?hp (fun _ hk => hk) trivial (Below.refl _ _) (Nat.le_refl _) (by simp) ?_; (case hd => rfl); (case hg => rfl); (case hr => first | (go_simp; done) | (go_simp; rfl)); (case hp => exact (Reps.one (show Kd.M Kd.string _ _ _ (⟨#[97]⟩ : ByteArray) [.string (⟨#[97]⟩ : ByteArray)] from rfl) (Reps.none _ _))); intro v116 w46 ho47 hb hg_ hnew_; clear hg_ hnew_; (first | rw [← Ny115.out] at ho47 | (simp only [Int.reduceToNat] at ho47; rw [← Ny115.out] at ho47)); have n0_ := Aside0.mk (Kd.R_lower ho47 (below_size (by repeat (first | (with_reducible first | exact HB.out | apply below_alloc | apply pw_below_drewN | apply below_drew1) | exact HB.out)))); have n1_ := Aside0.mk (below_step (by repeat (first | (with_reducible first | exact HB.out | apply below_alloc | apply pw_below_drewN | apply below_drew1) | exact HB.out)) hb); clear HB; have HO117 := n0_; have HB := n1_; clear n0_ n1_; clear hb ho47; obtain ⟨Ao48, co48, eo48⟩ := Kd.R_slice HO117.out; subst eo48) | ((with_reducible refine gate_callee (f := 13) rfl ?_); refine goesL_ (some 95) rfl rfl Try.func13 (by kernel_rfl) rfl #[.string (⟨#[97]⟩ : ByteArray), .slice Ao48 y115.length co48] rfl (by (try simp only [List.map_toArray, List.map_cons, List.map_nil]); first | done | rfl | (simp only [List.length_drop, List.length_take]; rfl)) ?_; (with_reducible refine (impl_Member.calls k4 (⟨#[97]⟩ : ByteArray) _ _ y115 true _ ?side1 ?side2 A33.out).mono ?_); (case side1 => repeat (first | exact (Kd.R_reads' HO117.out).2.2 | (with_reducible refine Kd.C_alloc ?_ _) | (with_reducible refine Kd.C_drewN ?_ _) | (with_reducible refine Kd.C_drew ?_))); (case side2 => exact (Kd.R_reads' HO117.out).2.1); rintro e w' ⟨rfl, ⟨nd, rfl⟩⟩; refine ⟨_, rfl, ?_⟩) | (go_at_call 13; (with_reducible refine (impl_Member.calls k4 a0 _ _ l1 t119 _ ?side1 ?side2 A35.out).mono ?_); (case side1 => repeat (first | exact (Kd.C_below HR1.out (by repeat (first | (with_reducible first | exact HB.out | apply below_alloc | apply pw_below_drewN | apply below_drew1) | exact HB.out))) | (with_reducible refine Kd.C_alloc ?_ _) | (with_reducible refine Kd.C_drewN ?_ _) | (with_reducible refine Kd.C_drew ?_))); (case side2 => exact HC1.out); rintro e w' ⟨rfl, ⟨nd, rfl⟩⟩))
                              go_ret
                              exact ⟨by first | rfl | (simp [errW_none, errW_some] <;> rfl) | (simp [*, errW_none, errW_some] <;> rfl), by repeat (first | (with_reducible first | exact HB.out | apply below_alloc | apply pw_below_drewN | apply below_drew1) | exact HB.out)⟩
                          · replace c34 := Bool.eq_false_iff.mpr c34
                            subst c34
                            have H1 : (some false) = some r := by rw [if_neg (show ¬ (false = true) by decide)] at H; exact H
                            clear H
                            have H := H1
                            clear H1
                            obtain rfl := Option.some.inj H
                            go_wp2_with (first | ((with_reducible refine gate_dst (N := 94) rfl ?_); (try (refine gate_guard (by rfl) ?_; dsimp only)); refine Kd.R_lit Kd.string _ 9 ?hg (N := 94) ?hd (xs := ([(⟨#[97]⟩ : ByteArray)] : List ByteArray)) (inner := [.string (⟨#[97]⟩ : ByteArray)]) (ok := fun _ => True) (okp := fun _ => True) ?hr ?hp (fun _ hk => hk) trivial (Below.refl _ _) (Nat.le_refl _) (by simp) ?_; (case hd => rfl); (case hg => rfl); (case hr => first | (go_simp; done) | (go_simp; rfl)); (case hp => exact (Reps.one (show Kd.M Kd.string _ _ _ (⟨#[97]⟩ : ByteArray) [.string (⟨#[97]⟩ : ByteArray)] from rfl) (Reps.none _ _))); intro v116 w49 ho50 hb hg_ hnew_; clear hg_ hnew_; (first | rw [← Ny115.out] at ho50 | (simp only [Int.reduceToNat] at ho50; rw [← Ny115.out] at ho50)); have n0_ := Aside0.mk (Kd.R_lower ho50 (below_size (by repeat (first | (with_reducible first | exact HB.out | apply below_alloc | apply pw_below_drewN | apply below_drew1) | exact HB.out)))); have n1_ := Aside0.mk (below_step (by repeat (first | (with_reducible first | exact HB.out | apply below_alloc | apply pw_below_drewN | apply below_drew1) | exact HB.out)) hb); clear HB; have HO117 := n0_; have HB := n1_; clear n0_ n1_; clear hb ho50; obtain ⟨Ao51, co51, eo51⟩ := Kd.R_slice HO117.out; subst eo51) | ((with_reducible refine gate_callee (f := 13) rfl ?_); refine goesL_ (some 95) rfl rfl Try.func13 (by kernel_rfl) rfl #[.string (⟨#[97]⟩ : ByteArray), .slice Ao51 y115.length co51] rfl (by (try simp only [List.map_toArray, List.map_cons, List.map_nil]); first | done | rfl | (simp only [List.length_drop, List.length_take]; rfl)) ?_; (with_reducible refine (impl_Member.calls k4 (⟨#[97]⟩ : ByteArray) _ _ y115 false _ ?side1 ?side2 A33.out).mono ?_); (case side1 => repeat (first | exact (Kd.R_reads' HO117.out).2.2 | (with_reducible refine Kd.C_alloc ?_ _) | (with_reducible refine Kd.C_drewN ?_ _) | (with_reducible refine Kd.C_drew ?_))); (case side2 => exact (Kd.R_reads' HO117.out).2.1); rintro e w' ⟨rfl, ⟨nd, rfl⟩⟩; refine ⟨_, rfl, ?_⟩))
                            go_ret
                            exact ⟨by first | rfl | (simp [errW_none, errW_some] <;> rfl) | (simp [*, errW_none, errW_some] <;> rfl), by repeat (first | (with_reducible first | exact HB.out | apply below_alloc | apply pw_below_drewN | apply below_drew1) | exact HB.out)⟩

end Go.Proofs.Ytmngibfakkfnnaa.PFnMembers
