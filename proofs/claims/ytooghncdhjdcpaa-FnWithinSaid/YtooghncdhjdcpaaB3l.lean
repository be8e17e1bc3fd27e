/-
The law FnWithin, walked: it answers true. No condition.
-/
import Derived.Test.YtooghncdhjdcpaaB3
namespace Go.Proofs.Ytooghncdhjdcpaa
open Go.RowKit Fl

theorem probe_within (w : World) : Calls Try.prog 31 #[.agg #[.float .f64 0, .float .f64 0, .float .f64 4607182418800017408, .float .f64 4607182418800017408], .agg #[.float .f64 0, .float .f64 0, .float .f64 4611686018427387904, .float .f64 4611686018427387904]] w fun e w' => e = .returned (.bool true) ∧ Below w.heap.size w w' :=
  within_any w fun W _ hg => fits_yes (x := 4607182418800017408) (x' := 4611686018427387904) (y := 4607182418800017408) (y' := 4611686018427387904) W hg (by decide +kernel) (by decide +kernel) (by decide +kernel) (by decide +kernel) (by decide +kernel) (by decide +kernel)

set_option linter.unusedSimpArgs false in
set_option maxHeartbeats 4000000 in
theorem within_walk (a b c d a' b' c' d' : Nat) (w : World) :
    Calls Try.prog 7 #[.agg #[.float .f64 a, .float .f64 b, .float .f64 c, .float .f64 d], .agg #[.float .f64 a', .float .f64 b', .float .f64 c', .float .f64 d']] w fun e w' => e = .returned (.bool true) ∧ Below w.heap.size w w' := by
  cases hp : properB a b c d
  · have HP := Lib.hid hp
    clear hp
    go_enter Try.func7, Try.ntmps7
    go_wp2_with (go_at_call 28; refine (proper_any a b c d false _ HP.out).mono ?_; rintro e w' ⟨rfl, rfl⟩)
    go_ret
    exact ⟨rfl, (by repeat (first | exact Below.refl _ _ | refine bel_drew ?_ | refine bel_alloc _ ?_ | refine bel_trans (by assumption) ?_ | refine bel_set _ _ (by simp) ?_))⟩
  have HP := Lib.hid hp
  cases hp' : properB a' b' c' d'
  · have HP' := Lib.hid hp'
    clear hp hp'
    go_enter Try.func7, Try.ntmps7
    go_wp2_with (first | (go_at_call 28; (with_reducible refine (proper_any a b c d true _ HP.out).mono ?_); rintro e w' ⟨rfl, rfl⟩) | (go_at_call 28; refine (proper_any a' b' c' d' false _ HP'.out).mono ?_; rintro e w' ⟨rfl, rfl⟩))
    go_ret
    exact ⟨rfl, (by repeat (first | exact Below.refl _ _ | refine bel_drew ?_ | refine bel_alloc _ ?_ | refine bel_trans (by assumption) ?_ | refine bel_set _ _ (by simp) ?_))⟩
  have HP' := Lib.hid hp'
  obtain ⟨k, l, i, j, ha, hb, hc, hd, ⟨k1, k2⟩, ⟨l1, l2⟩, ⟨i1, i2⟩, ⟨j1, j2⟩, hki, hlj⟩ := properB_true hp
  obtain ⟨k', l', i', j', ha', hb', hc', hd', ⟨k1', k2'⟩, ⟨l1', l2'⟩, ⟨i1', i2'⟩, ⟨j1', j2'⟩, hki', hlj'⟩ := properB_true hp'
  obtain ⟨x, e1, r1⟩ := sub64 hc ha (by omega)
  obtain ⟨x', e2, r2⟩ := sub64 hc' ha' (by omega)
  obtain ⟨y, e3, r3⟩ := sub64 hd hb (by omega)
  obtain ⟨y', e4, r4⟩ := sub64 hd' hb' (by omega)
  have c1 := i_leq r1 r2 rfl
  have c2 := i_leq r3 r4 rfl
  have o1 := run_bin (P := Try.prog) .sub e1
  have o2 := run_bin (P := Try.prog) .sub e2
  have o3 := run_bin (P := Try.prog) .sub e3
  have o4 := run_bin (P := Try.prog) .sub e4
  have E1 := Lib.hid e1
  have E2 := Lib.hid e2
  have E3 := Lib.hid e3
  have E4 := Lib.hid e4
  clear hp hp' ha hb hc hd ha' hb' hc' hd' e1 e2 e3 e4 r1 r2 r3 r4
  by_cases h1 : i - k ≤ i' - k'
  · have C1 := Lib.hid c1
    have C2 := Lib.hid c2
    rw [decide_eq_true h1] at c1
    have K1 := Lib.hid c1
    have HW := Lib.hid (fun (W : World) (g : Nat) (hg : RectAt W g a' b' c' d') => fits_yes W hg E1.out E2.out E3.out E4.out c1 c2)
    by_cases h2 : j - l ≤ j' - l'
    · rw [decide_eq_true h2] at c2
      rw [decide_eq_true h2] at HW
      clear C1 C2 h1 h2 k1 k2 l1 l2 i1 i2 j1 j2 hki hlj k1' k2' l1' l2' i1' i2' j1' j2' hki' hlj'
      go_enter Try.func7, Try.ntmps7
      go_wp2_with (first | (go_at_call 28; (with_reducible refine (proper_any a b c d true _ HP.out).mono ?_); rintro e w' ⟨rfl, rfl⟩) | (go_at_call 28; refine (proper_any a' b' c' d' true _ HP'.out).mono ?_; rintro e w' ⟨rfl, rfl⟩) | (go_at_call 31; refine (probe_within _).mono ?_; rintro e w' ⟨rfl, hb⟩; obtain ⟨hq, hf⟩ := bcell hb; have hz := hb.size))
      clear hq hf hz
      go_region_held3 (fun w' => Below w.heap.size w w' ∧ w.heap.size < w'.heap.size ∧ w'.cell? ⟨w.heap.size, 0, none⟩ = some (.float .f64 a) ∧ w'.cell? ⟨w.heap.size, 1, none⟩ = some (.float .f64 b) ∧ w'.cell? ⟨w.heap.size, 2, none⟩ = some (.float .f64 c) ∧ w'.cell? ⟨w.heap.size, 3, none⟩ = some (.float .f64 d) ∧ w.heap.size + 1 < w'.heap.size ∧ w'.cell? ⟨w.heap.size + 1, 0, none⟩ = some (.float .f64 a') ∧ w'.cell? ⟨w.heap.size + 1, 1, none⟩ = some (.float .f64 b') ∧ w'.cell? ⟨w.heap.size + 1, 2, none⟩ = some (.float .f64 c') ∧ w'.cell? ⟨w.heap.size + 1, 3, none⟩ = some (.float .f64 d')) (first | assumption | exact keep8 (by assumption) (by assumption) | (repeat (first | exact kept8_arg _ (by assumption) | exact kept8_two _ _ | refine kept8_drew ?_ | refine kept8_alloc _ ?_ | refine keep8 ?_ (by assumption))))
        (first | (go_at_call 31; refine (within_any _ HW.out).mono ?_; rintro e w' ⟨rfl, hb2⟩))
      rename_i hh
      go_wp2
      go_ret
      exact ⟨rfl, hh.1⟩
    · rw [decide_eq_false h2] at c2
      rw [decide_eq_false h2] at HW
      clear C1 C2 h1 h2 k1 k2 l1 l2 i1 i2 j1 j2 hki hlj k1' k2' l1' l2' i1' i2' j1' j2' hki' hlj'
      go_enter Try.func7, Try.ntmps7
      go_wp2_with (first | (go_at_call 28; (with_reducible refine (proper_any a b c d true _ HP.out).mono ?_); rintro e w' ⟨rfl, rfl⟩) | (go_at_call 28; refine (proper_any a' b' c' d' true _ HP'.out).mono ?_; rintro e w' ⟨rfl, rfl⟩) | (go_at_call 31; refine (probe_within _).mono ?_; rintro e w' ⟨rfl, hb⟩))
      go_region_held3 (fun w' => Below w.heap.size w w' ∧ w.heap.size < w'.heap.size ∧ w'.cell? ⟨w.heap.size, 0, none⟩ = some (.float .f64 a) ∧ w'.cell? ⟨w.heap.size, 1, none⟩ = some (.float .f64 b) ∧ w'.cell? ⟨w.heap.size, 2, none⟩ = some (.float .f64 c) ∧ w'.cell? ⟨w.heap.size, 3, none⟩ = some (.float .f64 d) ∧ w.heap.size + 1 < w'.heap.size ∧ w'.cell? ⟨w.heap.size + 1, 0, none⟩ = some (.float .f64 a') ∧ w'.cell? ⟨w.heap.size + 1, 1, none⟩ = some (.float .f64 b') ∧ w'.cell? ⟨w.heap.size + 1, 2, none⟩ = some (.float .f64 c') ∧ w'.cell? ⟨w.heap.size + 1, 3, none⟩ = some (.float .f64 d')) (first | assumption | exact keep8 (by assumption) (by assumption) | (repeat (first | exact kept8_arg _ (by assumption) | exact kept8_two _ _ | refine kept8_drew ?_ | refine kept8_alloc _ ?_ | refine keep8 ?_ (by assumption))))
        (first | (go_at_call 31; refine (within_any _ HW.out).mono ?_; rintro e w' ⟨rfl, hb2⟩))
      rename_i hh
      go_wp2
      go_ret
      exact ⟨rfl, hh.1⟩
  · rw [decide_eq_false h1] at c1
    have K1 := Lib.hid c1
    have HW := Lib.hid (fun (W : World) (g : Nat) (hg : RectAt W g a' b' c' d') => fits_no (b := b) (d := d) W hg E1.out E2.out c1)
    clear c2 h1 k1 k2 l1 l2 i1 i2 j1 j2 hki hlj k1' k2' l1' l2' i1' i2' j1' j2' hki' hlj'
    rw [Bool.or_eq_false_iff] at c1
    obtain ⟨c1, c2⟩ := c1
    go_enter Try.func7, Try.ntmps7
    go_wp2_with (first | (go_at_call 28; (with_reducible refine (proper_any a b c d true _ HP.out).mono ?_); rintro e w' ⟨rfl, rfl⟩) | (go_at_call 28; refine (proper_any a' b' c' d' true _ HP'.out).mono ?_; rintro e w' ⟨rfl, rfl⟩) | (go_at_call 31; refine (probe_within _).mono ?_; rintro e w' ⟨rfl, hb⟩))
    refine wp_region_noPanic ?_
    refine wp_region_held_drew (S := (fun w' => Below w.heap.size w w' ∧ w.heap.size < w'.heap.size ∧ w'.cell? ⟨w.heap.size, 0, none⟩ = some (.float .f64 a) ∧ w'.cell? ⟨w.heap.size, 1, none⟩ = some (.float .f64 b) ∧ w'.cell? ⟨w.heap.size, 2, none⟩ = some (.float .f64 c) ∧ w'.cell? ⟨w.heap.size, 3, none⟩ = some (.float .f64 d) ∧ w.heap.size + 1 < w'.heap.size ∧ w'.cell? ⟨w.heap.size + 1, 0, none⟩ = some (.float .f64 a') ∧ w'.cell? ⟨w.heap.size + 1, 1, none⟩ = some (.float .f64 b') ∧ w'.cell? ⟨w.heap.size + 1, 2, none⟩ = some (.float .f64 c') ∧ w'.cell? ⟨w.heap.size + 1, 3, none⟩ = some (.float .f64 d'))) (by kernel_rfl) ?_ (fun hHeld => ?_)
    · (try dsimp only); (first | assumption | exact keep8 (by assumption) (by assumption) | (repeat (first | exact kept8_arg _ (by assumption) | exact kept8_two _ _ | refine kept8_drew ?_ | refine kept8_alloc _ ?_ | refine keep8 ?_ (by assumption))))
    refine wpAnyH_take (i := 0) (v := ?v0) rfl (by kernel_rfl) (by kernel_rfl) (by kernel_rfl) (fun _ _ _ h => h) (Or.inl ⟨by rfl, ?y0⟩) (by assumption) ?r0
    case y0 => (intro w hSw; (try dsimp only at hSw); go_simp; try with_reducible rfl)
    try simp only [List.getElem_toArray, List.getElem_cons_zero, List.getElem_cons_succ, Act.put, List.setIfInBounds_toArray, List.set_cons_zero, List.set_cons_succ]
    refine wpAnyH_take (i := 1) (v := ?v1) rfl (by kernel_rfl) (by kernel_rfl) (by kernel_rfl) (fun _ _ _ h => h) (Or.inl ⟨by rfl, ?y1⟩) (by assumption) ?r1
    case y1 => (intro w hSw; (try dsimp only at hSw); go_simp; try with_reducible rfl)
    try simp only [List.getElem_toArray, List.getElem_cons_zero, List.getElem_cons_succ, Act.put, List.setIfInBounds_toArray, List.set_cons_zero, List.set_cons_succ]
    refine wpAnyH_take (i := 2) (v := ?v2) rfl (by kernel_rfl) (by kernel_rfl) (by kernel_rfl) (fun _ _ _ h => h) (Or.inl ⟨by rfl, ?y2⟩) (by assumption) ?r2
    case y2 => (intro w hSw; (try dsimp only at hSw); go_simp; try with_reducible rfl)
    try simp only [List.getElem_toArray, List.getElem_cons_zero, List.getElem_cons_succ, Act.put, List.setIfInBounds_toArray, List.set_cons_zero, List.set_cons_succ]
    refine wpAnyH_take (i := 3) (v := ?v3) rfl (by kernel_rfl) (by kernel_rfl) (by kernel_rfl) (fun _ _ _ h => h) (Or.inl ⟨by rfl, ?y3⟩) (by assumption) ?r3
    case y3 => (intro w hSw; (try dsimp only at hSw); go_simp; try with_reducible rfl)
    try simp only [List.getElem_toArray, List.getElem_cons_zero, List.getElem_cons_succ, Act.put, List.setIfInBounds_toArray, List.set_cons_zero, List.set_cons_succ]
    refine wpAnyH_take (i := 5) (v := ?v5) rfl (by kernel_rfl) (by kernel_rfl) (by kernel_rfl) (fun _ _ _ h => h) (Or.inl ⟨by rfl, ?y5⟩) (by assumption) ?r5
    case y5 => (intro w hSw; (try dsimp only at hSw); go_simp; try with_reducible rfl)
    try simp only [List.getElem_toArray, List.getElem_cons_zero, List.getElem_cons_succ, Act.put, List.setIfInBounds_toArray, List.set_cons_zero, List.set_cons_succ]
    refine wpAnyH_take (i := 6) (v := ?v6) rfl (by kernel_rfl) (by kernel_rfl) (by kernel_rfl) (fun _ _ _ h => h) (Or.inl ⟨by rfl, ?y6⟩) (by assumption) ?r6
    case y6 => (intro w hSw; (try dsimp only at hSw); go_simp; try with_reducible rfl)
    try simp only [List.getElem_toArray, List.getElem_cons_zero, List.getElem_cons_succ, Act.put, List.setIfInBounds_toArray, List.set_cons_zero, List.set_cons_succ]
    refine wpAnyH_take (i := 7) (v := ?v7) rfl (by kernel_rfl) (by kernel_rfl) (by kernel_rfl) (fun _ _ _ h => h) (Or.inl ⟨by rfl, ?y7⟩) (by assumption) ?r7
    case y7 => (intro w hSw; (try dsimp only at hSw); go_simp; try with_reducible rfl)
    try simp only [List.getElem_toArray, List.getElem_cons_zero, List.getElem_cons_succ, Act.put, List.setIfInBounds_toArray, List.set_cons_zero, List.set_cons_succ]
    refine wpAnyH_take (i := 8) (v := ?v8) rfl (by kernel_rfl) (by kernel_rfl) (by kernel_rfl) (fun _ _ _ h => h) (Or.inl ⟨by rfl, ?y8⟩) (by assumption) ?r8
    case y8 => (intro w hSw; (try dsimp only at hSw); go_simp; try with_reducible rfl)
    try simp only [List.getElem_toArray, List.getElem_cons_zero, List.getElem_cons_succ, Act.put, List.setIfInBounds_toArray, List.set_cons_zero, List.set_cons_succ]
    refine wpAnyH_take (i := 9) (v := ?v9) rfl (by kernel_rfl) (by kernel_rfl) (by kernel_rfl) (fun _ _ _ h => h) (Or.inl ⟨by rfl, ?y9⟩) (by assumption) ?r9
    case y9 => (intro w hSw; (try dsimp only at hSw); go_simp; try with_reducible rfl)
    try simp only [List.getElem_toArray, List.getElem_cons_zero, List.getElem_cons_succ, Act.put, List.setIfInBounds_toArray, List.set_cons_zero, List.set_cons_succ]
    refine wpAnyH_take (i := 10) (v := ?v10) rfl (by kernel_rfl) (by kernel_rfl) (by kernel_rfl) (fun _ _ _ h => h) (Or.inl ⟨by rfl, ?y10⟩) (by assumption) ?r10
    case y10 => (intro w hSw; (try dsimp only at hSw); go_simp; try with_reducible rfl)
    try simp only [List.getElem_toArray, List.getElem_cons_zero, List.getElem_cons_succ, Act.put, List.setIfInBounds_toArray, List.set_cons_zero, List.set_cons_succ]
    refine wpAnyH_take (i := 11) (v := ?v11) rfl (by kernel_rfl) (by kernel_rfl) (by kernel_rfl) (fun _ _ _ h => h) (Or.inl ⟨by rfl, ?y11⟩) (by assumption) ?r11
    case y11 => (intro w hSw; (try dsimp only at hSw); go_simp; try with_reducible rfl)
    try simp only [List.getElem_toArray, List.getElem_cons_zero, List.getElem_cons_succ, Act.put, List.setIfInBounds_toArray, List.set_cons_zero, List.set_cons_succ]
    refine wpAnyH_take (i := 12) (v := ?v12) rfl (by kernel_rfl) (by kernel_rfl) (by kernel_rfl) (fun _ _ _ h => h) (Or.inl ⟨by rfl, ?y12⟩) (by assumption) ?r12
    case y12 => (intro w hSw; (try dsimp only at hSw); go_simp; try with_reducible rfl)
    try simp only [List.getElem_toArray, List.getElem_cons_zero, List.getElem_cons_succ, Act.put, List.setIfInBounds_toArray, List.set_cons_zero, List.set_cons_succ]
    refine wpAnyH_take (i := 13) (v := ?v13) rfl (by kernel_rfl) (by kernel_rfl) (by kernel_rfl) (fun _ _ _ h => h) (Or.inl ⟨by rfl, ?y13⟩) (by assumption) ?r13
    case y13 => (intro w hSw; (try dsimp only at hSw); go_simp; try with_reducible rfl)
    try simp only [List.getElem_toArray, List.getElem_cons_zero, List.getElem_cons_succ, Act.put, List.setIfInBounds_toArray, List.set_cons_zero, List.set_cons_succ]
    refine wpAnyH_take (i := 14) (v := ?v14) rfl (by kernel_rfl) (by kernel_rfl) (by kernel_rfl) (fun _ _ _ h => h) (Or.inl ⟨by rfl, ?y14⟩) (by assumption) ?r14
    case y14 => (intro w hSw; (try dsimp only at hSw); go_simp; try with_reducible rfl)
    try simp only [List.getElem_toArray, List.getElem_cons_zero, List.getElem_cons_succ, Act.put, List.setIfInBounds_toArray, List.set_cons_zero, List.set_cons_succ]
    refine wpAnyH_take (i := 15) (v := ?v15) rfl (by kernel_rfl) (by kernel_rfl) (by kernel_rfl) (fun _ _ _ h => h) (Or.inl ⟨by rfl, ?y15⟩) (by assumption) ?r15
    case y15 => (intro w hSw; (try dsimp only at hSw); go_simp; try with_reducible rfl)
    try simp only [List.getElem_toArray, List.getElem_cons_zero, List.getElem_cons_succ, Act.put, List.setIfInBounds_toArray, List.set_cons_zero, List.set_cons_succ]
    refine wpAnyH_ready (rs := [4]) (by kernel_rfl) (by simp) (AllReadyH.cons rfl (fun K hK => ?_) AllReadyH.nil)
    go_simp
    (go_at_call 31; refine (within_any _ HW.out).mono ?_; rintro e w' ⟨rfl, hb2⟩)
    refine hK.out _ _ ?_ (fun hHeld => ?_)
    · (try dsimp only); (first | assumption | exact keep8 (by assumption) (by assumption) | (repeat (first | exact kept8_arg _ (by assumption) | exact kept8_two _ _ | refine kept8_drew ?_ | refine kept8_alloc _ ?_ | refine keep8 ?_ (by assumption))))
    clear hK K
    try simp only [List.getElem_toArray, List.getElem_cons_zero, List.getElem_cons_succ, Act.put, List.setIfInBounds_toArray, List.set_cons_zero, List.set_cons_succ]
    refine wpAnyH_take (i := 16) (v := ?v16) rfl (by kernel_rfl) (by kernel_rfl) (by kernel_rfl) (fun _ _ _ h => h) (Or.inl ⟨by rfl, ?y16⟩) (by assumption) ?r16
    case y16 => (intro w hSw; (try dsimp only at hSw); go_simp; try with_reducible rfl)
    try simp only [List.getElem_toArray, List.getElem_cons_zero, List.getElem_cons_succ, Act.put, List.setIfInBounds_toArray, List.set_cons_zero, List.set_cons_succ]
    refine wpAnyH_take (i := 17) (v := undef) rfl (by kernel_rfl) (by kernel_rfl) (by kernel_rfl) (fun _ _ _ h => h) (Or.inr ⟨by rfl, rfl⟩) (by assumption) ?_
    try simp only [List.getElem_toArray, List.getElem_cons_zero, List.getElem_cons_succ, Act.put, List.setIfInBounds_toArray, List.set_cons_zero, List.set_cons_succ]
    refine wpAnyH_take (i := 18) (v := undef) rfl (by kernel_rfl) (by kernel_rfl) (by kernel_rfl) (fun _ _ _ h => h) (Or.inr ⟨by rfl, rfl⟩) (by assumption) ?_
    try simp only [List.getElem_toArray, List.getElem_cons_zero, List.getElem_cons_succ, Act.put, List.setIfInBounds_toArray, List.set_cons_zero, List.set_cons_succ]
    refine wpAnyH_take (i := 19) (v := undef) rfl (by kernel_rfl) (by kernel_rfl) (by kernel_rfl) (fun _ _ _ h => h) (Or.inr ⟨by rfl, rfl⟩) (by assumption) ?_
    try simp only [List.getElem_toArray, List.getElem_cons_zero, List.getElem_cons_succ, Act.put, List.setIfInBounds_toArray, List.set_cons_zero, List.set_cons_succ]
    refine wpAnyH_take (i := 20) (v := undef) rfl (by kernel_rfl) (by kernel_rfl) (by kernel_rfl) (fun _ _ _ h => h) (Or.inr ⟨by rfl, rfl⟩) (by assumption) ?_
    try simp only [List.getElem_toArray, List.getElem_cons_zero, List.getElem_cons_succ, Act.put, List.setIfInBounds_toArray, List.set_cons_zero, List.set_cons_succ]
    refine wpAnyH_take (i := 21) (v := undef) rfl (by kernel_rfl) (by kernel_rfl) (by kernel_rfl) (fun _ _ _ h => h) (Or.inr ⟨by rfl, rfl⟩) (by assumption) ?_
    try simp only [List.getElem_toArray, List.getElem_cons_zero, List.getElem_cons_succ, Act.put, List.setIfInBounds_toArray, List.set_cons_zero, List.set_cons_succ]
    refine wpAnyH_take (i := 22) (v := undef) rfl (by kernel_rfl) (by kernel_rfl) (by kernel_rfl) (fun _ _ _ h => h) (Or.inr ⟨by rfl, rfl⟩) (by assumption) ?_
    try simp only [List.getElem_toArray, List.getElem_cons_zero, List.getElem_cons_succ, Act.put, List.setIfInBounds_toArray, List.set_cons_zero, List.set_cons_succ]
    refine wpAnyH_take (i := 23) (v := undef) rfl (by kernel_rfl) (by kernel_rfl) (by kernel_rfl) (fun _ _ _ h => h) (Or.inr ⟨by rfl, rfl⟩) (by assumption) ?_
    try simp only [List.getElem_toArray, List.getElem_cons_zero, List.getElem_cons_succ, Act.put, List.setIfInBounds_toArray, List.set_cons_zero, List.set_cons_succ]
    refine wpAnyH_take (i := 24) (v := undef) rfl (by kernel_rfl) (by kernel_rfl) (by kernel_rfl) (fun _ _ _ h => h) (Or.inr ⟨by rfl, rfl⟩) (by assumption) ?_
    try simp only [List.getElem_toArray, List.getElem_cons_zero, List.getElem_cons_succ, Act.put, List.setIfInBounds_toArray, List.set_cons_zero, List.set_cons_succ]
    refine wpAnyH_take (i := 25) (v := undef) rfl (by kernel_rfl) (by kernel_rfl) (by kernel_rfl) (fun _ _ _ h => h) (Or.inr ⟨by rfl, rfl⟩) (by assumption) ?_
    try simp only [List.getElem_toArray, List.getElem_cons_zero, List.getElem_cons_succ, Act.put, List.setIfInBounds_toArray, List.set_cons_zero, List.set_cons_succ]
    refine wpAnyH_take (i := 26) (v := undef) rfl (by kernel_rfl) (by kernel_rfl) (by kernel_rfl) (fun _ _ _ h => h) (Or.inr ⟨by rfl, rfl⟩) (by assumption) ?_
    try simp only [List.getElem_toArray, List.getElem_cons_zero, List.getElem_cons_succ, Act.put, List.setIfInBounds_toArray, List.set_cons_zero, List.set_cons_succ]
    refine wpAnyH_take (i := 27) (v := undef) rfl (by kernel_rfl) (by kernel_rfl) (by kernel_rfl) (fun _ _ _ h => h) (Or.inr ⟨by rfl, rfl⟩) (by assumption) ?_
    try simp only [List.getElem_toArray, List.getElem_cons_zero, List.getElem_cons_succ, Act.put, List.setIfInBounds_toArray, List.set_cons_zero, List.set_cons_succ]
    refine wpAnyH_take (i := 28) (v := ?v28) rfl (by kernel_rfl) (by kernel_rfl) (by kernel_rfl) (fun _ _ _ h => h) (Or.inl ⟨by rfl, ?y28⟩) (by assumption) ?r28
    case y28 => (intro w hSw; (try dsimp only at hSw); go_simp; try with_reducible rfl)
    try simp only [List.getElem_toArray, List.getElem_cons_zero, List.getElem_cons_succ, Act.put, List.setIfInBounds_toArray, List.set_cons_zero, List.set_cons_succ]
    refine wpAnyH_take (i := 29) (v := ?v29) rfl (by kernel_rfl) (by kernel_rfl) (by kernel_rfl) (fun _ _ _ h => h) (Or.inl ⟨by rfl, ?y29⟩) (by assumption) ?r29
    case y29 => (intro w hSw; (try dsimp only at hSw); go_simp; try with_reducible rfl)
    try simp only [List.getElem_toArray, List.getElem_cons_zero, List.getElem_cons_succ, Act.put, List.setIfInBounds_toArray, List.set_cons_zero, List.set_cons_succ]
    refine wpAnyH_take (i := 30) (v := ?v30) rfl (by kernel_rfl) (by kernel_rfl) (by kernel_rfl) (fun _ _ _ h => h) (Or.inl ⟨by rfl, ?y30⟩) (by assumption) ?r30
    case y30 => (intro w hSw; (try dsimp only at hSw); go_simp; try with_reducible rfl)
    try simp only [List.getElem_toArray, List.getElem_cons_zero, List.getElem_cons_succ, Act.put, List.setIfInBounds_toArray, List.set_cons_zero, List.set_cons_succ]
    refine wpAnyH_take (i := 31) (v := ?v31) rfl (by kernel_rfl) (by kernel_rfl) (by kernel_rfl) (fun _ _ _ h => h) (Or.inl ⟨by rfl, ?y31⟩) (by assumption) ?r31
    case y31 => (intro w hSw; (try dsimp only at hSw); go_simp; try with_reducible rfl)
    try simp only [List.getElem_toArray, List.getElem_cons_zero, List.getElem_cons_succ, Act.put, List.setIfInBounds_toArray, List.set_cons_zero, List.set_cons_succ]
    refine wpAnyH_done (by kernel_rfl) ?_ _
    refine NoPanic.normal ?_
    go_wp2
    go_ret
    exact ⟨rfl, hHeld.1⟩

end Go.Proofs.Ytooghncdhjdcpaa
