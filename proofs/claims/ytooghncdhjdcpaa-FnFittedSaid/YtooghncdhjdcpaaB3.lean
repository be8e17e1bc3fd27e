/-
The law FnWithin, walked: it answers true. No condition.
-/
import Derived.Test.YtooghncdhjdcpaaA4
namespace Go.Proofs.Ytooghncdhjdcpaa
open Go.RowKit Fl

/-- FitsWithin, by what the comparisons say: the second only if the first says yes. -/
theorem fits_yes {a b c d g a' b' c' d' x x' y y' : Nat} {v : Bool} (w : World) (hg : RectAt w g a' b' c' d') (h1 : floatBits .sub .f64 c a = some x) (h2 : floatBits .sub .f64 c' a' = some x') (h3 : floatBits .sub .f64 d b = some y) (h4 : floatBits .sub .f64 d' b' = some y')
    (k1 : (FloatKind.f64.format.order x x' == some Ordering.lt || FloatKind.f64.format.order x x' == some Ordering.eq) = true) (k2 : (FloatKind.f64.format.order y y' == some Ordering.lt || FloatKind.f64.format.order y y' == some Ordering.eq) = v) :
    Calls Try.prog 69 #[.agg #[.float .f64 a, .float .f64 b, .float .f64 c, .float .f64 d], .pointer (some ⟨g, 0, none⟩)] w fun e w' => e = .returned (.bool v) ∧ Below w.heap.size w w' := by
  have H1 := Lib.hid h1
  have H2 := Lib.hid h2
  have H3 := Lib.hid h3
  have H4 := Lib.hid h4
  clear h1 h2 h3 h4
  go_enter Try.func69, Try.ntmps69
  go_wp2_with fail
  go_region_held3 (fun w' => Below w.heap.size w w' ∧ w.heap.size < w'.heap.size ∧ w'.cell? ⟨w.heap.size, 0, none⟩ = some (.float .f64 a) ∧ w'.cell? ⟨w.heap.size, 1, none⟩ = some (.float .f64 b) ∧ w'.cell? ⟨w.heap.size, 2, none⟩ = some (.float .f64 c) ∧ w'.cell? ⟨w.heap.size, 3, none⟩ = some (.float .f64 d) ∧ g < w'.heap.size ∧ w'.cell? ⟨g, 0, none⟩ = some (.float .f64 a') ∧ w'.cell? ⟨g, 1, none⟩ = some (.float .f64 b') ∧ w'.cell? ⟨g, 2, none⟩ = some (.float .f64 c') ∧ w'.cell? ⟨g, 3, none⟩ = some (.float .f64 d')) (first | assumption | exact keep8 (by assumption) (by assumption) | (repeat (first | exact kept8_arg _ (by assumption) | exact kept8_two _ _ | refine kept8_drew ?_ | refine kept8_alloc _ ?_ | refine keep8 ?_ (by assumption))))
    (first
      | (go_at_call_of 99 (.agg #[.float .f64 a, .float .f64 b, .float .f64 c, .float .f64 d] : Value); refine (width_any _ H1.out).mono ?_; rintro e w' ⟨rfl, hb⟩)
      | (go_at_call_of 99 (.agg #[.float .f64 a', .float .f64 b', .float .f64 c', .float .f64 d'] : Value); refine (width_any _ H2.out).mono ?_; rintro e w' ⟨rfl, hb⟩)
      | (go_at_call_of 100 (.agg #[.float .f64 a, .float .f64 b, .float .f64 c, .float .f64 d] : Value); refine (height_any _ H3.out).mono ?_; rintro e w' ⟨rfl, hb⟩)
      | (go_at_call_of 100 (.agg #[.float .f64 a', .float .f64 b', .float .f64 c', .float .f64 d'] : Value); refine (height_any _ H4.out).mono ?_; rintro e w' ⟨rfl, hb⟩))
  rename_i hh
  go_wp2
  go_ret
  exact ⟨rfl, hh.1⟩

set_option linter.unusedSimpArgs false in
set_option maxHeartbeats 2000000 in
theorem fits_no {a b c d g a' b' c' d' x x' : Nat} (w : World) (hg : RectAt w g a' b' c' d') (h1 : floatBits .sub .f64 c a = some x) (h2 : floatBits .sub .f64 c' a' = some x')
    (k1 : (FloatKind.f64.format.order x x' == some Ordering.lt || FloatKind.f64.format.order x x' == some Ordering.eq) = false) :
    Calls Try.prog 69 #[.agg #[.float .f64 a, .float .f64 b, .float .f64 c, .float .f64 d], .pointer (some ⟨g, 0, none⟩)] w fun e w' => e = .returned (.bool false) ∧ Below w.heap.size w w' := by
  have H1 := Lib.hid h1
  have H2 := Lib.hid h2
  clear h1 h2
  rw [Bool.or_eq_false_iff] at k1
  obtain ⟨k1, k2⟩ := k1
  go_enter Try.func69, Try.ntmps69
  go_wp2_with fail
  refine wp_region_noPanic ?_
  refine wp_region_held_drew (S := (fun w' => Below w.heap.size w w' ∧ w.heap.size < w'.heap.size ∧ w'.cell? ⟨w.heap.size, 0, none⟩ = some (.float .f64 a) ∧ w'.cell? ⟨w.heap.size, 1, none⟩ = some (.float .f64 b) ∧ w'.cell? ⟨w.heap.size, 2, none⟩ = some (.float .f64 c) ∧ w'.cell? ⟨w.heap.size, 3, none⟩ = some (.float .f64 d) ∧ g < w'.heap.size ∧ w'.cell? ⟨g, 0, none⟩ = some (.float .f64 a') ∧ w'.cell? ⟨g, 1, none⟩ = some (.float .f64 b') ∧ w'.cell? ⟨g, 2, none⟩ = some (.float .f64 c') ∧ w'.cell? ⟨g, 3, none⟩ = some (.float .f64 d'))) (by kernel_rfl) ?_ (fun hHeld => ?_)
  · (try dsimp only); (first | assumption | exact keep8 (by assumption) (by assumption) | (repeat (first | exact kept8_arg _ (by assumption) | exact kept8_two _ _ | refine kept8_drew ?_ | refine kept8_alloc _ ?_ | refine keep8 ?_ (by assumption))))
  refine wpAnyH_take (i := 0) (v := ?v0) rfl (by kernel_rfl) (by kernel_rfl) (by kernel_rfl) (fun _ _ _ h => h) (Or.inl ⟨by rfl, ?y0⟩) (by assumption) ?r0
  case y0 => (intro w hSw; (try dsimp only at hSw); go_simp; try with_reducible rfl)
  try simp only [List.getElem_toArray, List.getElem_cons_zero, List.getElem_cons_succ, Act.put, List.setIfInBounds_toArray, List.set_cons_zero, List.set_cons_succ]
  refine wpAnyH_take (i := 2) (v := ?v2) rfl (by kernel_rfl) (by kernel_rfl) (by kernel_rfl) (fun _ _ _ h => h) (Or.inl ⟨by rfl, ?y2⟩) (by assumption) ?r2
  case y2 => (intro w hSw; (try dsimp only at hSw); go_simp; try with_reducible rfl)
  try simp only [List.getElem_toArray, List.getElem_cons_zero, List.getElem_cons_succ, Act.put, List.setIfInBounds_toArray, List.set_cons_zero, List.set_cons_succ]
  refine wpAnyH_take (i := 3) (v := ?v3) rfl (by kernel_rfl) (by kernel_rfl) (by kernel_rfl) (fun _ _ _ h => h) (Or.inl ⟨by rfl, ?y3⟩) (by assumption) ?r3
  case y3 => (intro w hSw; (try dsimp only at hSw); go_simp; try with_reducible rfl)
  try simp only [List.getElem_toArray, List.getElem_cons_zero, List.getElem_cons_succ, Act.put, List.setIfInBounds_toArray, List.set_cons_zero, List.set_cons_succ]
  refine wpAnyH_take (i := 4) (v := ?v4) rfl (by kernel_rfl) (by kernel_rfl) (by kernel_rfl) (fun _ _ _ h => h) (Or.inl ⟨by rfl, ?y4⟩) (by assumption) ?r4
  case y4 => (intro w hSw; (try dsimp only at hSw); go_simp; try with_reducible rfl)
  try simp only [List.getElem_toArray, List.getElem_cons_zero, List.getElem_cons_succ, Act.put, List.setIfInBounds_toArray, List.set_cons_zero, List.set_cons_succ]
  refine wpAnyH_ready (rs := [1]) (by kernel_rfl) (by simp) (AllReadyH.cons rfl (fun K hK => ?_) AllReadyH.nil)
  go_simp
  (first
      | (go_at_call_of 99 (.agg #[.float .f64 a, .float .f64 b, .float .f64 c, .float .f64 d] : Value); refine (width_any _ H1.out).mono ?_; rintro e w' ⟨rfl, hb⟩)
      | (go_at_call_of 99 (.agg #[.float .f64 a', .float .f64 b', .float .f64 c', .float .f64 d'] : Value); refine (width_any _ H2.out).mono ?_; rintro e w' ⟨rfl, hb⟩))
  refine hK.out _ _ ?_ (fun hHeld => ?_)
  · (try dsimp only); (first | assumption | exact keep8 (by assumption) (by assumption) | (repeat (first | exact kept8_arg _ (by assumption) | exact kept8_two _ _ | refine kept8_drew ?_ | refine kept8_alloc _ ?_ | refine keep8 ?_ (by assumption))))
  clear hK K
  try simp only [List.getElem_toArray, List.getElem_cons_zero, List.getElem_cons_succ, Act.put, List.setIfInBounds_toArray, List.set_cons_zero, List.set_cons_succ]
  refine wpAnyH_ready (rs := [5]) (by kernel_rfl) (by simp) (AllReadyH.cons rfl (fun K hK => ?_) AllReadyH.nil)
  go_simp
  (first
      | (go_at_call_of 99 (.agg #[.float .f64 a, .float .f64 b, .float .f64 c, .float .f64 d] : Value); refine (width_any _ H1.out).mono ?_; rintro e w' ⟨rfl, hb⟩)
      | (go_at_call_of 99 (.agg #[.float .f64 a', .float .f64 b', .float .f64 c', .float .f64 d'] : Value); refine (width_any _ H2.out).mono ?_; rintro e w' ⟨rfl, hb⟩))
  refine hK.out _ _ ?_ (fun hHeld => ?_)
  · (try dsimp only); (first | assumption | exact keep8 (by assumption) (by assumption) | (repeat (first | exact kept8_arg _ (by assumption) | exact kept8_two _ _ | refine kept8_drew ?_ | refine kept8_alloc _ ?_ | refine keep8 ?_ (by assumption))))
  clear hK K
  try simp only [List.getElem_toArray, List.getElem_cons_zero, List.getElem_cons_succ, Act.put, List.setIfInBounds_toArray, List.set_cons_zero, List.set_cons_succ]
  refine wpAnyH_take (i := 6) (v := ?v6) rfl (by kernel_rfl) (by kernel_rfl) (by kernel_rfl) (fun _ _ _ h => h) (Or.inl ⟨by rfl, ?y6⟩) (by assumption) ?r6
  case y6 => (intro w hSw; (try dsimp only at hSw); go_simp; try with_reducible rfl)
  try simp only [List.getElem_toArray, List.getElem_cons_zero, List.getElem_cons_succ, Act.put, List.setIfInBounds_toArray, List.set_cons_zero, List.set_cons_succ]
  refine wpAnyH_take (i := 7) (v := ?v7) rfl (by kernel_rfl) (by kernel_rfl) (by kernel_rfl) (fun _ _ _ h => h) (Or.inl ⟨by rfl, ?y7⟩) (by assumption) ?r7
  case y7 => (intro w hSw; (try dsimp only at hSw); go_simp; try with_reducible rfl)
  try simp only [List.getElem_toArray, List.getElem_cons_zero, List.getElem_cons_succ, Act.put, List.setIfInBounds_toArray, List.set_cons_zero, List.set_cons_succ]
  refine wpAnyH_take (i := 8) (v := undef) rfl (by kernel_rfl) (by kernel_rfl) (by kernel_rfl) (fun _ _ _ h => h) (Or.inr ⟨by rfl, rfl⟩) (by assumption) ?_
  try simp only [List.getElem_toArray, List.getElem_cons_zero, List.getElem_cons_succ, Act.put, List.setIfInBounds_toArray, List.set_cons_zero, List.set_cons_succ]
  refine wpAnyH_take (i := 9) (v := undef) rfl (by kernel_rfl) (by kernel_rfl) (by kernel_rfl) (fun _ _ _ h => h) (Or.inr ⟨by rfl, rfl⟩) (by assumption) ?_
  try simp only [List.getElem_toArray, List.getElem_cons_zero, List.getElem_cons_succ, Act.put, List.setIfInBounds_toArray, List.set_cons_zero, List.set_cons_succ]
  refine wpAnyH_take (i := 10) (v := undef) rfl (by kernel_rfl) (by kernel_rfl) (by kernel_rfl) (fun _ _ _ h => h) (Or.inr ⟨by rfl, rfl⟩) (by assumption) ?_
  try simp only [List.getElem_toArray, List.getElem_cons_zero, List.getElem_cons_succ, Act.put, List.setIfInBounds_toArray, List.set_cons_zero, List.set_cons_succ]
  refine wpAnyH_take (i := 11) (v := undef) rfl (by kernel_rfl) (by kernel_rfl) (by kernel_rfl) (fun _ _ _ h => h) (Or.inr ⟨by rfl, rfl⟩) (by assumption) ?_
  try simp only [List.getElem_toArray, List.getElem_cons_zero, List.getElem_cons_succ, Act.put, List.setIfInBounds_toArray, List.set_cons_zero, List.set_cons_succ]
  refine wpAnyH_take (i := 12) (v := undef) rfl (by kernel_rfl) (by kernel_rfl) (by kernel_rfl) (fun _ _ _ h => h) (Or.inr ⟨by rfl, rfl⟩) (by assumption) ?_
  try simp only [List.getElem_toArray, List.getElem_cons_zero, List.getElem_cons_succ, Act.put, List.setIfInBounds_toArray, List.set_cons_zero, List.set_cons_succ]
  refine wpAnyH_take (i := 13) (v := undef) rfl (by kernel_rfl) (by kernel_rfl) (by kernel_rfl) (fun _ _ _ h => h) (Or.inr ⟨by rfl, rfl⟩) (by assumption) ?_
  try simp only [List.getElem_toArray, List.getElem_cons_zero, List.getElem_cons_succ, Act.put, List.setIfInBounds_toArray, List.set_cons_zero, List.set_cons_succ]
  refine wpAnyH_take (i := 14) (v := undef) rfl (by kernel_rfl) (by kernel_rfl) (by kernel_rfl) (fun _ _ _ h => h) (Or.inr ⟨by rfl, rfl⟩) (by assumption) ?_
  try simp only [List.getElem_toArray, List.getElem_cons_zero, List.getElem_cons_succ, Act.put, List.setIfInBounds_toArray, List.set_cons_zero, List.set_cons_succ]
  refine wpAnyH_take (i := 15) (v := ?v15) rfl (by kernel_rfl) (by kernel_rfl) (by kernel_rfl) (fun _ _ _ h => h) (Or.inl ⟨by rfl, ?y15⟩) (by assumption) ?r15
  case y15 => (intro w hSw; (try dsimp only at hSw); go_simp; try with_reducible rfl)
  try simp only [List.getElem_toArray, List.getElem_cons_zero, List.getElem_cons_succ, Act.put, List.setIfInBounds_toArray, List.set_cons_zero, List.set_cons_succ]
  refine wpAnyH_take (i := 16) (v := ?v16) rfl (by kernel_rfl) (by kernel_rfl) (by kernel_rfl) (fun _ _ _ h => h) (Or.inl ⟨by rfl, ?y16⟩) (by assumption) ?r16
  case y16 => (intro w hSw; (try dsimp only at hSw); go_simp; try with_reducible rfl)
  try simp only [List.getElem_toArray, List.getElem_cons_zero, List.getElem_cons_succ, Act.put, List.setIfInBounds_toArray, List.set_cons_zero, List.set_cons_succ]
  refine wpAnyH_done (by kernel_rfl) ?_ _
  refine NoPanic.normal ?_
  go_wp2
  go_ret
  exact ⟨rfl, hHeld.1⟩

set_option linter.unusedSimpArgs false in
set_option maxHeartbeats 2000000 in
/-- Within: what FitsWithin says of two rectangles made anew. -/
theorem within_any {a b c d a' b' c' d' : Nat} {v : Bool} (w : World)
    (h : ∀ (W : World) (g : Nat), RectAt W g a' b' c' d' → Calls Try.prog 69 #[.agg #[.float .f64 a, .float .f64 b, .float .f64 c, .float .f64 d], .pointer (some ⟨g, 0, none⟩)] W fun e w' => e = .returned (.bool v) ∧ Below W.heap.size W w') :
    Calls Try.prog 31 #[.agg #[.float .f64 a, .float .f64 b, .float .f64 c, .float .f64 d], .agg #[.float .f64 a', .float .f64 b', .float .f64 c', .float .f64 d']] w fun e w' => e = .returned (.bool v) ∧ Below w.heap.size w w' := by
  have H := Lib.hid h
  clear h
  go_enter Try.func31, Try.ntmps31
  go_wp2_with fail
  refine wp_region_noPanic ?_
  refine wp_region_held_drew (S := (fun w' => Below w.heap.size w w' ∧ w.heap.size < w'.heap.size ∧ w'.cell? ⟨w.heap.size, 0, none⟩ = some (.float .f64 a) ∧ w'.cell? ⟨w.heap.size, 1, none⟩ = some (.float .f64 b) ∧ w'.cell? ⟨w.heap.size, 2, none⟩ = some (.float .f64 c) ∧ w'.cell? ⟨w.heap.size, 3, none⟩ = some (.float .f64 d) ∧ w.heap.size + 1 < w'.heap.size ∧ w'.cell? ⟨w.heap.size + 1, 0, none⟩ = some (.float .f64 a') ∧ w'.cell? ⟨w.heap.size + 1, 1, none⟩ = some (.float .f64 b') ∧ w'.cell? ⟨w.heap.size + 1, 2, none⟩ = some (.float .f64 c') ∧ w'.cell? ⟨w.heap.size + 1, 3, none⟩ = some (.float .f64 d'))) (by kernel_rfl) ?_ (fun hHeld => ?_)
  · (try dsimp only); (first | assumption | exact keep8 (by assumption) (by assumption) | (repeat (first | exact kept8_arg _ (by assumption) | exact kept8_two _ _ | refine kept8_drew ?_ | refine kept8_alloc _ ?_ | refine keep8 ?_ (by assumption))))
  refine wpAnyH_take (i := 0) (v := ?v0) rfl (by kernel_rfl) (by kernel_rfl) (by kernel_rfl) (fun _ _ _ h => h) (Or.inl ⟨by rfl, ?y0⟩) (by assumption) ?r0
  case y0 => (intro w hSw; (try dsimp only at hSw); go_simp; try with_reducible rfl)
  try simp only [List.getElem_toArray, List.getElem_cons_zero, List.getElem_cons_succ, Act.put, List.setIfInBounds_toArray, List.set_cons_zero, List.set_cons_succ]
  refine wpAnyH_take (i := 4) (v := ?v4) rfl (by kernel_rfl) (by kernel_rfl) (by kernel_rfl) (fun _ _ _ h => h) (Or.inl ⟨by rfl, ?y4⟩) (by assumption) ?r4
  case y4 => (intro w hSw; (try dsimp only at hSw); go_simp; try with_reducible rfl)
  try simp only [List.getElem_toArray, List.getElem_cons_zero, List.getElem_cons_succ, Act.put, List.setIfInBounds_toArray, List.set_cons_zero, List.set_cons_succ]
  refine wpAnyH_ready (rs := [1]) (by kernel_rfl) (by simp) (AllReadyH.cons rfl (fun K hK => ?_) AllReadyH.nil)
  go_simp
  (go_at_call 67; refine (rect_any a b c d _).mono ?_; rintro e w' ⟨g, rfl, hr, hb⟩)
  refine hK.out _ _ ?_ (fun hHeld => ?_)
  · (try dsimp only); (first | assumption | exact keep8 (by assumption) (by assumption) | (repeat (first | exact kept8_arg _ (by assumption) | exact kept8_two _ _ | refine kept8_drew ?_ | refine kept8_alloc _ ?_ | refine keep8 ?_ (by assumption))))
  clear hK K
  try simp only [List.getElem_toArray, List.getElem_cons_zero, List.getElem_cons_succ, Act.put, List.setIfInBounds_toArray, List.set_cons_zero, List.set_cons_succ]
  have hR := And.intro hHeld hr
  clear hr
  refine held_mono (T := fun w' => Kept8 w w.heap.size (.float .f64 a) (.float .f64 b) (.float .f64 c) (.float .f64 d) (w.heap.size + 1) (.float .f64 a') (.float .f64 b') (.float .f64 c') (.float .f64 d') w' ∧ RectAt w' g a b c d) (fun _ h => h.1) _ _ _ _ ?_
  clear hHeld
  refine wpAnyH_take (i := 2) (v := ?v2) rfl (by kernel_rfl) (by kernel_rfl) (by kernel_rfl) (fun _ _ _ h => h) (Or.inl ⟨by rfl, ?y2⟩) (by assumption) ?r2
  case y2 => (intro w hSw; (try dsimp only at hSw); go_simp; try with_reducible rfl)
  try simp only [List.getElem_toArray, List.getElem_cons_zero, List.getElem_cons_succ, Act.put, List.setIfInBounds_toArray, List.set_cons_zero, List.set_cons_succ]
  refine wpAnyH_take (i := 3) (v := ?v3) rfl (by kernel_rfl) (by kernel_rfl) (by kernel_rfl) (fun _ _ _ h => h) (Or.inl ⟨by rfl, ?y3⟩) (by assumption) ?r3
  case y3 => (intro w hSw; (try dsimp only at hSw); go_simp; try with_reducible rfl)
  try simp only [List.getElem_toArray, List.getElem_cons_zero, List.getElem_cons_succ, Act.put, List.setIfInBounds_toArray, List.set_cons_zero, List.set_cons_succ]
  refine wpAnyH_ready (rs := [5]) (by kernel_rfl) (by simp) (AllReadyH.cons rfl (fun K hK => ?_) AllReadyH.nil)
  go_simp
  (first
      | (go_at_call 67; refine (rect_any a' b' c' d' _).mono ?_; rintro e w' ⟨g', rfl, hr', hb'⟩)
      | (go_at_call 69; refine (H.out _ _ hr').mono ?_; rintro e w' ⟨rfl, hb2⟩))
  refine hK.out _ _ ?_ (fun hHeld => ?_)
  · (try dsimp only); (first | assumption | exact kept_and (by assumption) (fun h => keep8 h (by assumption)) (by assumption))
  clear hK K
  try simp only [List.getElem_toArray, List.getElem_cons_zero, List.getElem_cons_succ, Act.put, List.setIfInBounds_toArray, List.set_cons_zero, List.set_cons_succ]
  refine wpAnyH_ready (rs := [6]) (by kernel_rfl) (by simp) (AllReadyH.cons rfl (fun K hK => ?_) AllReadyH.nil)
  go_simp
  (first
      | (go_at_call 67; refine (rect_any a' b' c' d' _).mono ?_; rintro e w' ⟨g', rfl, hr', hb'⟩)
      | (go_at_call 69; refine (H.out _ _ hr').mono ?_; rintro e w' ⟨rfl, hb2⟩))
  refine hK.out _ _ ?_ (fun hHeld => ?_)
  · (try dsimp only); (first | assumption | exact kept_and (by assumption) (fun h => keep8 h (by assumption)) (by assumption))
  clear hK K
  try simp only [List.getElem_toArray, List.getElem_cons_zero, List.getElem_cons_succ, Act.put, List.setIfInBounds_toArray, List.set_cons_zero, List.set_cons_succ]
  refine wpAnyH_take (i := 7) (v := ?v7) rfl (by kernel_rfl) (by kernel_rfl) (by kernel_rfl) (fun _ _ _ h => h) (Or.inl ⟨by rfl, ?y7⟩) (by assumption) ?r7
  case y7 => (intro w hSw; (try dsimp only at hSw); go_simp; try with_reducible rfl)
  try simp only [List.getElem_toArray, List.getElem_cons_zero, List.getElem_cons_succ, Act.put, List.setIfInBounds_toArray, List.set_cons_zero, List.set_cons_succ]
  refine wpAnyH_done (by kernel_rfl) ?_ _
  refine NoPanic.normal ?_
  go_wp2
  go_ret
  exact ⟨rfl, hHeld.1.1⟩

end Go.Proofs.Ytooghncdhjdcpaa
