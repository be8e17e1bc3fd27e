/-
The law FnFitted: impl.Fitted and its own function walked. Conditions: the operations' words and the tests' answers are given; Near says yes.
-/
import Derived.Test.YtooghncdhjdcpaaB21p
import Derived.Test.YtooghncdhjdcpaaA6
import Derived.BigQuiet
import Derived.Deep.QuietTactic
namespace Go.Proofs.Ytooghncdhjdcpaa
open Go.RowKit Fl

/-- What BestFitRectIntoRect does at two rectangles. -/
def FitDoes (a b c d a' b' c' d' : Nat) (orient up : Bool) (A B C D E : Nat) : Prop := ∀ (W : World) (g g' : Nat), RectAt W g a b c d → RectAt W g' a' b' c' d' →
  Calls Try.prog 97 #[.pointer (some ⟨g, 0, none⟩), .pointer (some ⟨g', 0, none⟩), .bool orient, .bool up] W fun e w' => e = .returned (.tuple #[.float .f64 A, .float .f64 B, .float .f64 C, .float .f64 D, .float .f64 E]) ∧ Below W.heap.size W w'
set_option linter.unusedSimpArgs false in
set_option maxHeartbeats 4000000 in
theorem fitted_any {a b c d a' b' c' d' : Nat} {orient up : Bool} {A B C D E : Nat} (h : FitDoes a b c d a' b' c' d' orient up A B C D E) (w : World) :
    Calls Try.prog 59 #[.agg #[.float .f64 a, .float .f64 b, .float .f64 c, .float .f64 d], .agg #[.float .f64 a', .float .f64 b', .float .f64 c', .float .f64 d'], .bool orient, .bool up] w fun e w' => e = .returned (.tuple #[.float .f64 A, .float .f64 B, .float .f64 C, .float .f64 D, .float .f64 E]) ∧ Below w.heap.size w w' := by
  have H := Lib.hid h
  clear h
  have hF : TwoR w w.heap.size a b c d (w.heap.size + 1) a' b' c' d' ((w.alloc (.cells #[.float .f64 a, .float .f64 b, .float .f64 c, .float .f64 d] 36)).alloc (.cells #[.float .f64 a', .float .f64 b', .float .f64 c', .float .f64 d'] 36)) :=
    ⟨below2 _ _ _, (rectAt_new w _ a b c d 36 rfl).below (below1 _ _), rectAt_new _ _ a' b' c' d' 36 (by simp)⟩
  go_enter Try.func59, Try.ntmps59
  go_wp2_with fail
  refine wp_abs21 (TwoR w w.heap.size a b c d (w.heap.size + 1) a' b' c' d') hF ?_
  clear hF
  intro W hF
  refine wp_region_held_drew (S := TwoR w w.heap.size a b c d (w.heap.size + 1) a' b' c' d') (by kernel_rfl) ?_ (fun hHeld => ?_)
  · exact hF.keep (Below.refl _ _).drew
  refine wpAnyH_take (i := 0) (v := .agg #[.float .f64 a, .float .f64 b, .float .f64 c, .float .f64 d]) rfl (by kernel_rfl) (by kernel_rfl) (by kernel_rfl) (fun _ _ _ h => h) (Or.inl ⟨by rfl, ?y1⟩) (by assumption) ?r1
  case y1 =>
    intro w1 hSw
    obtain ⟨_, k1, k2, k3, k4⟩ := hSw.one
    go_simp
    try with_reducible rfl
  try simp only [List.getElem_toArray, List.getElem_cons_zero, List.getElem_cons_succ, Act.put, List.setIfInBounds_toArray, List.set_cons_zero, List.set_cons_succ]
  refine wpAnyH_take (i := 2) (v := .agg #[.float .f64 a', .float .f64 b', .float .f64 c', .float .f64 d']) rfl (by kernel_rfl) (by kernel_rfl) (by kernel_rfl) (fun _ _ _ h => h) (Or.inl ⟨by rfl, ?y2⟩) (by assumption) ?r2
  case y2 =>
    intro w1 hSw
    obtain ⟨_, k1, k2, k3, k4⟩ := hSw.two
    go_simp
    try with_reducible rfl
  try simp only [List.getElem_toArray, List.getElem_cons_zero, List.getElem_cons_succ, Act.put, List.setIfInBounds_toArray, List.set_cons_zero, List.set_cons_succ]
  refine wpAnyH_take (i := 4) (v := .bool orient) rfl (by kernel_rfl) (by kernel_rfl) (by kernel_rfl) (fun _ _ _ h => h) (Or.inl ⟨by rfl, ?y3⟩) (by assumption) ?r3
  case y3 =>
    intro w1 hSw
    go_simp
    try with_reducible rfl
  try simp only [List.getElem_toArray, List.getElem_cons_zero, List.getElem_cons_succ, Act.put, List.setIfInBounds_toArray, List.set_cons_zero, List.set_cons_succ]
  refine wpAnyH_take (i := 5) (v := .bool up) rfl (by kernel_rfl) (by kernel_rfl) (by kernel_rfl) (fun _ _ _ h => h) (Or.inl ⟨by rfl, ?y4⟩) (by assumption) ?r4
  case y4 =>
    intro w1 hSw
    go_simp
    try with_reducible rfl
  try simp only [List.getElem_toArray, List.getElem_cons_zero, List.getElem_cons_succ, Act.put, List.setIfInBounds_toArray, List.set_cons_zero, List.set_cons_succ]
  refine wpAnyH_ready (rs := [1]) (by kernel_rfl) (by simp) (AllReadyH.cons rfl (fun K hK => ?_) AllReadyH.nil)
  go_simp
  go_at_call 67
  refine (rect_any a b c d _).mono ?_
  rintro e V1 ⟨g, rfl, hr1, hb1⟩
  refine hK.out _ _ (hHeld.keep hb1) (fun hHeld => ?_)
  clear hK K
  try simp only [List.getElem_toArray, List.getElem_cons_zero, List.getElem_cons_succ, Act.put, List.setIfInBounds_toArray, List.set_cons_zero, List.set_cons_succ]
  refine wpAnyH_ready (rs := [3]) (by kernel_rfl) (by simp) (AllReadyH.cons rfl (fun K hK => ?_) AllReadyH.nil)
  go_simp
  go_at_call 67
  refine (rect_any a' b' c' d' _).mono ?_
  rintro e V3 ⟨g', rfl, hr3, hb3⟩
  refine hK.out _ _ (hHeld.keep hb3) (fun hHeld => ?_)
  clear hK K
  have hr2 := hr1.below hb3
  try simp only [List.getElem_toArray, List.getElem_cons_zero, List.getElem_cons_succ, Act.put, List.setIfInBounds_toArray, List.set_cons_zero, List.set_cons_succ]
  refine wpAnyH_ready (rs := [6]) (by kernel_rfl) (by simp) (AllReadyH.cons rfl (fun K hK => ?_) AllReadyH.nil)
  go_simp
  go_at_call 97
  refine (H.out _ g g' hr2 hr3).mono ?_
  rintro e V6 ⟨rfl, hb6⟩
  refine hK.out _ _ (hHeld.keep hb6) (fun hHeld => ?_)
  clear hK K
  try simp only [List.getElem_toArray, List.getElem_cons_zero, List.getElem_cons_succ, Act.put, List.setIfInBounds_toArray, List.set_cons_zero, List.set_cons_succ]
  refine wpAnyH_take (i := 7) (v := .float .f64 A) rfl (by kernel_rfl) (by kernel_rfl) (by kernel_rfl) (fun _ _ _ h => h) (Or.inl ⟨by rfl, ?y5⟩) (by assumption) ?r5
  case y5 =>
    intro w1 hSw
    go_simp
    try with_reducible rfl
  try simp only [List.getElem_toArray, List.getElem_cons_zero, List.getElem_cons_succ, Act.put, List.setIfInBounds_toArray, List.set_cons_zero, List.set_cons_succ]
  refine wpAnyH_take (i := 8) (v := .float .f64 B) rfl (by kernel_rfl) (by kernel_rfl) (by kernel_rfl) (fun _ _ _ h => h) (Or.inl ⟨by rfl, ?y6⟩) (by assumption) ?r6
  case y6 =>
    intro w1 hSw
    go_simp
    try with_reducible rfl
  try simp only [List.getElem_toArray, List.getElem_cons_zero, List.getElem_cons_succ, Act.put, List.setIfInBounds_toArray, List.set_cons_zero, List.set_cons_succ]
  refine wpAnyH_take (i := 9) (v := .float .f64 C) rfl (by kernel_rfl) (by kernel_rfl) (by kernel_rfl) (fun _ _ _ h => h) (Or.inl ⟨by rfl, ?y7⟩) (by assumption) ?r7
  case y7 =>
    intro w1 hSw
    go_simp
    try with_reducible rfl
  try simp only [List.getElem_toArray, List.getElem_cons_zero, List.getElem_cons_succ, Act.put, List.setIfInBounds_toArray, List.set_cons_zero, List.set_cons_succ]
  refine wpAnyH_take (i := 10) (v := .float .f64 D) rfl (by kernel_rfl) (by kernel_rfl) (by kernel_rfl) (fun _ _ _ h => h) (Or.inl ⟨by rfl, ?y8⟩) (by assumption) ?r8
  case y8 =>
    intro w1 hSw
    go_simp
    try with_reducible rfl
  try simp only [List.getElem_toArray, List.getElem_cons_zero, List.getElem_cons_succ, Act.put, List.setIfInBounds_toArray, List.set_cons_zero, List.set_cons_succ]
  refine wpAnyH_take (i := 11) (v := .float .f64 E) rfl (by kernel_rfl) (by kernel_rfl) (by kernel_rfl) (fun _ _ _ h => h) (Or.inl ⟨by rfl, ?y9⟩) (by assumption) ?r9
  case y9 =>
    intro w1 hSw
    go_simp
    try with_reducible rfl
  try simp only [List.getElem_toArray, List.getElem_cons_zero, List.getElem_cons_succ, Act.put, List.setIfInBounds_toArray, List.set_cons_zero, List.set_cons_succ]
  refine wpAnyH_take (i := 12) (v := .float .f64 A) rfl (by kernel_rfl) (by kernel_rfl) (by kernel_rfl) (fun _ _ _ h => h) (Or.inl ⟨by rfl, ?y10⟩) (by assumption) ?r10
  case y10 =>
    intro w1 hSw
    go_simp
    try with_reducible rfl
  try simp only [List.getElem_toArray, List.getElem_cons_zero, List.getElem_cons_succ, Act.put, List.setIfInBounds_toArray, List.set_cons_zero, List.set_cons_succ]
  refine wpAnyH_take (i := 13) (v := .float .f64 B) rfl (by kernel_rfl) (by kernel_rfl) (by kernel_rfl) (fun _ _ _ h => h) (Or.inl ⟨by rfl, ?y11⟩) (by assumption) ?r11
  case y11 =>
    intro w1 hSw
    go_simp
    try with_reducible rfl
  try simp only [List.getElem_toArray, List.getElem_cons_zero, List.getElem_cons_succ, Act.put, List.setIfInBounds_toArray, List.set_cons_zero, List.set_cons_succ]
  refine wpAnyH_take (i := 14) (v := .float .f64 C) rfl (by kernel_rfl) (by kernel_rfl) (by kernel_rfl) (fun _ _ _ h => h) (Or.inl ⟨by rfl, ?y12⟩) (by assumption) ?r12
  case y12 =>
    intro w1 hSw
    go_simp
    try with_reducible rfl
  try simp only [List.getElem_toArray, List.getElem_cons_zero, List.getElem_cons_succ, Act.put, List.setIfInBounds_toArray, List.set_cons_zero, List.set_cons_succ]
  refine wpAnyH_take (i := 15) (v := .float .f64 D) rfl (by kernel_rfl) (by kernel_rfl) (by kernel_rfl) (fun _ _ _ h => h) (Or.inl ⟨by rfl, ?y13⟩) (by assumption) ?r13
  case y13 =>
    intro w1 hSw
    go_simp
    try with_reducible rfl
  try simp only [List.getElem_toArray, List.getElem_cons_zero, List.getElem_cons_succ, Act.put, List.setIfInBounds_toArray, List.set_cons_zero, List.set_cons_succ]
  refine wpAnyH_take (i := 16) (v := .float .f64 E) rfl (by kernel_rfl) (by kernel_rfl) (by kernel_rfl) (fun _ _ _ h => h) (Or.inl ⟨by rfl, ?y14⟩) (by assumption) ?r14
  case y14 =>
    intro w1 hSw
    go_simp
    try with_reducible rfl
  try simp only [List.getElem_toArray, List.getElem_cons_zero, List.getElem_cons_succ, Act.put, List.setIfInBounds_toArray, List.set_cons_zero, List.set_cons_succ]
  refine wpAnyH_done (by kernel_rfl) ?_ _
  go_wp2_with fail
  exact bodyPost_ret (v := .tuple #[.float .f64 A, .float .f64 B, .float .f64 C, .float .f64 D, .float .f64 E]) (by simp [results, Try.results59, go_sem]) rfl ⟨rfl, hHeld.below⟩

abbrev eqf (x y : Nat) : Bool := FloatKind.f64.format.order x y == some Ordering.eq
abbrev leqf (x y : Nat) : Bool := FloatKind.f64.format.order x y == some Ordering.lt || FloatKind.f64.format.order x y == some Ordering.eq
/-- The four differences. -/
structure Diffs (a b c d a' b' c' d' x y X Y : Nat) : Prop where
  hx : floatBits .sub .f64 c a = some x
  hy : floatBits .sub .f64 d b = some y
  hX : floatBits .sub .f64 c' a' = some X
  hY : floatBits .sub .f64 d' b' = some Y
set_option maxHeartbeats 8000000 in
set_option maxRecDepth 100000 in
/-- Where the law does not ask: a rectangle that is not proper, a square. -/
theorem fitlaw_far {a b c d a' b' c' d' : Nat} (orient up : Bool) (w : World) (h : properB a b c d = false ∨ properB a' b' c' d' = false ∨ (properB a b c d = true ∧ properB a' b' c' d' = true ∧ ∃ x y X Y, Diffs a b c d a' b' c' d' x y X Y ∧ (eqf x y = true ∨ eqf X Y = true))) :
    Calls Try.prog 21 #[.agg #[.float .f64 a, .float .f64 b, .float .f64 c, .float .f64 d], .agg #[.float .f64 a', .float .f64 b', .float .f64 c', .float .f64 d'], .bool orient, .bool up] w fun e w' => e = .returned (.bool true) ∧ Below w.heap.size w w' := by
  cases h1 : properB a b c d
  · have H1 := Lib.hid h1
    clear h h1
    go_enter Try.func21, Try.ntmps21
    go_wp2_with (go_at_call 28; refine (proper_any a b c d false _ H1.out).mono ?_; rintro e w' ⟨rfl, rfl⟩)
    go_ret
    exact ⟨rfl, (by repeat (first | exact Below.refl _ _ | refine bel_drew ?_ | refine bel_alloc _ ?_ | refine bel_drewN _ ?_ | refine bel_trans (by assumption) ?_ | refine bel_set _ _ (by simp) ?_))⟩
  have H1 := Lib.hid h1
  cases h2 : properB a' b' c' d'
  · have H2 := Lib.hid h2
    clear h h1 h2
    go_enter Try.func21, Try.ntmps21
    go_wp2_with (first | (go_at_call 28; (with_reducible refine (proper_any a b c d true _ H1.out).mono ?_); rintro e w' ⟨rfl, rfl⟩) | (go_at_call 28; (with_reducible refine (proper_any a' b' c' d' false _ H2.out).mono ?_); rintro e w' ⟨rfl, rfl⟩))
    go_ret
    exact ⟨rfl, (by repeat (first | exact Below.refl _ _ | refine bel_drew ?_ | refine bel_alloc _ ?_ | refine bel_drewN _ ?_ | refine bel_trans (by assumption) ?_ | refine bel_set _ _ (by simp) ?_))⟩
  have H2 := Lib.hid h2
  rw [h1, h2] at h
  obtain ⟨x, y, X, Y, hD, hE⟩ : ∃ x y X Y, Diffs a b c d a' b' c' d' x y X Y ∧ (eqf x y = true ∨ eqf X Y = true) := by
    rcases h with h | h | ⟨_, _, h⟩
    · cases h
    · cases h
    · exact h
  have o1 := run_bin (P := Try.prog) .sub hD.hx
  have o2 := run_bin (P := Try.prog) .sub hD.hy
  have o3 := run_bin (P := Try.prog) .sub hD.hX
  have o4 := run_bin (P := Try.prog) .sub hD.hY
  clear h h1 h2 hD
  rcases Bool.eq_false_or_eq_true (eqf x y) with f1 | f1
  · clear hE
    go_enter Try.func21, Try.ntmps21
    go_wp2_with (first | (go_at_call 28; (with_reducible refine (proper_any a b c d true _ H1.out).mono ?_); rintro e w' ⟨rfl, rfl⟩) | (go_at_call 28; (with_reducible refine (proper_any a' b' c' d' true _ H2.out).mono ?_); rintro e w' ⟨rfl, rfl⟩))
    go_quiet (fail)
    go_wp2_with fail
    go_quiet (fail)
    go_wp2_with fail
    go_ret
    exact ⟨rfl, (by repeat (first | exact Below.refl _ _ | refine bel_drew ?_ | refine bel_alloc _ ?_ | refine bel_drewN _ ?_ | refine bel_trans (by assumption) ?_ | refine bel_set _ _ (by simp) ?_))⟩
  · have f2 : eqf X Y = true := by
      rcases hE with h | h
      · rw [f1] at h; cases h
      · exact h
    clear hE
    go_enter Try.func21, Try.ntmps21
    go_wp2_with (first | (go_at_call 28; (with_reducible refine (proper_any a b c d true _ H1.out).mono ?_); rintro e w' ⟨rfl, rfl⟩) | (go_at_call 28; (with_reducible refine (proper_any a' b' c' d' true _ H2.out).mono ?_); rintro e w' ⟨rfl, rfl⟩))
    go_quiet (fail)
    go_wp2_with fail
    go_quiet (fail)
    go_wp2_with fail
    go_ret
    exact ⟨rfl, (by repeat (first | exact Below.refl _ _ | refine bel_drew ?_ | refine bel_alloc _ ?_ | refine bel_drewN _ ?_ | refine bel_trans (by assumption) ?_ | refine bel_set _ _ (by simp) ?_))⟩

set_option maxHeartbeats 8000000 in
set_option maxRecDepth 100000 in
theorem fitlaw_in {a b c d a' b' c' d' x y X Y A B C D : Nat} (orient : Bool) (w : World) (H1 : Hid (properB a b c d = true)) (H2 : Hid (properB a' b' c' d' = true)) (hD : Diffs a b c d a' b' c' d' x y X Y) (f1 : eqf x y = false) (f2 : eqf X Y = false) (g1 : leqf x X = true) (g2 : leqf y Y = true)
    (hF : FitDoes a b c d a' b' c' d' orient false A B C D 0) (k1 k2 l1 l2 : Nat) (e1 : floatBits .sub .f64 X x = some k1) (e2 : floatBits .quo .f64 k1 w2 = some k2) (e3 : floatBits .sub .f64 Y y = some l1) (e4 : floatBits .quo .f64 l1 w2 = some l2)
    (n1 : NearT A x) (n2 : NearT B y) (n3 : NearT C k2) (n4 : NearT D l2) :
    Calls Try.prog 21 #[.agg #[.float .f64 a, .float .f64 b, .float .f64 c, .float .f64 d], .agg #[.float .f64 a', .float .f64 b', .float .f64 c', .float .f64 d'], .bool orient, .bool false] w fun e w' => e = .returned (.bool true) ∧ Below w.heap.size w w' := by
  have o1 := run_bin (P := Try.prog) .sub hD.hx
  have o2 := run_bin (P := Try.prog) .sub hD.hy
  have o3 := run_bin (P := Try.prog) .sub hD.hX
  have o4 := run_bin (P := Try.prog) .sub hD.hY
  have HF := Lib.hid hF
  have q1 := run_bin (P := Try.prog) .sub e1
  have q2 := run_bin (P := Try.prog) .quo e2
  have q3 := run_bin (P := Try.prog) .sub e3
  have q4 := run_bin (P := Try.prog) .quo e4
  have z0 : (FloatKind.f64.format.order 0 0 == some Ordering.eq) = true := by decide +kernel
  have N1 := Lib.hid n1
  have N2 := Lib.hid n2
  have N3 := Lib.hid n3
  have N4 := Lib.hid n4
  clear hD hF e1 e2 e3 e4 n1 n2 n3 n4
  go_enter Try.func21, Try.ntmps21
  go_wp2_with (first | (go_at_call 28; (with_reducible refine (proper_any a b c d true _ H1.out).mono ?_); rintro e w' ⟨rfl, rfl⟩) | (go_at_call 28; (with_reducible refine (proper_any a' b' c' d' true _ H2.out).mono ?_); rintro e w' ⟨rfl, rfl⟩))
  go_quiet (fail)
  go_wp2_with fail
  go_quiet (fail)
  go_wp2_with (first | (go_at_call 59; (with_reducible refine (fitted_any HF.out _).mono ?_); rintro e w3 ⟨rfl, hb⟩) | (go_at_call 24; (with_reducible refine (N1.out _).mono ?_); rintro e w' ⟨rfl, rfl⟩) | (go_at_call 24; (with_reducible refine (N2.out _).mono ?_); rintro e w' ⟨rfl, rfl⟩) | (go_at_call 24; (with_reducible refine (N3.out _).mono ?_); rintro e w' ⟨rfl, rfl⟩) | (go_at_call 24; (with_reducible refine (N4.out _).mono ?_); rintro e w' ⟨rfl, rfl⟩))
  go_ret
  exact ⟨rfl, bel_trans hb (by repeat (first | exact Below.refl _ _ | refine bel_drew ?_ | refine bel_alloc _ ?_ | refine bel_drewN _ ?_ | refine bel_trans (by assumption) ?_ | refine bel_set _ _ (by simp) ?_))⟩

set_option maxHeartbeats 8000000 in
set_option maxRecDepth 100000 in
theorem fitlaw_u_n {a b c d a' b' c' d' x y X Y A B C D : Nat} (w : World) (H1 : Hid (properB a b c d = true)) (H2 : Hid (properB a' b' c' d' = true)) (hD : Diffs a b c d a' b' c' d' x y X Y) (f1 : eqf x y = false) (f2 : eqf X Y = false) 
    (hF : FitDoes a b c d a' b' c' d' false true A B C D 0) (q1 q2 sc k1 k2 k3 l1 l2 l3 : Nat) (e1 : floatBits .quo .f64 X x = some q1) (e2 : floatBits .quo .f64 Y y = some q2) (em : ∀ ts t w, (Builtin.min_ ts t #[.float .f64 q1, .float .f64 q2]).run Try.prog w = .ok (.float .f64 sc) w)
    (e3 : floatBits .mul .f64 x sc = some k1) (e4 : floatBits .sub .f64 X k1 = some k2) (e5 : floatBits .quo .f64 k2 w2 = some k3) (e6 : floatBits .mul .f64 y sc = some l1) (e7 : floatBits .sub .f64 Y l1 = some l2) (e8 : floatBits .quo .f64 l2 w2 = some l3)
    (n1 : NearT A k1) (n2 : NearT B l1) (n3 : NearT C k3) (n4 : NearT D l3) :
    Calls Try.prog 21 #[.agg #[.float .f64 a, .float .f64 b, .float .f64 c, .float .f64 d], .agg #[.float .f64 a', .float .f64 b', .float .f64 c', .float .f64 d'], .bool false, .bool true] w fun e w' => e = .returned (.bool true) ∧ Below w.heap.size w w' := by
  have o1 := run_bin (P := Try.prog) .sub hD.hx
  have o2 := run_bin (P := Try.prog) .sub hD.hy
  have o3 := run_bin (P := Try.prog) .sub hD.hX
  have o4 := run_bin (P := Try.prog) .sub hD.hY
  have HF := Lib.hid hF
  have p1 := run_bin (P := Try.prog) .quo e1
  have p2 := run_bin (P := Try.prog) .quo e2
  have p3 := run_bin (P := Try.prog) .mul e3
  have p4 := run_bin (P := Try.prog) .sub e4
  have p5 := run_bin (P := Try.prog) .quo e5
  have p6 := run_bin (P := Try.prog) .mul e6
  have p7 := run_bin (P := Try.prog) .sub e7
  have p8 := run_bin (P := Try.prog) .quo e8
  have z0 : (FloatKind.f64.format.order 0 0 == some Ordering.eq) = true := by decide +kernel
  have N1 := Lib.hid n1
  have N2 := Lib.hid n2
  have N3 := Lib.hid n3
  have N4 := Lib.hid n4
  clear hD hF e1 e2 e3 e4 e5 e6 e7 e8 n1 n2 n3 n4
  go_enter Try.func21, Try.ntmps21
  go_wp2_with (first | (go_at_call 28; (with_reducible refine (proper_any a b c d true _ H1.out).mono ?_); rintro e w' ⟨rfl, rfl⟩) | (go_at_call 28; (with_reducible refine (proper_any a' b' c' d' true _ H2.out).mono ?_); rintro e w' ⟨rfl, rfl⟩))
  go_quiet (fail)
  go_wp2_with fail
  go_quiet (fail)
  go_wp2_with (first | (go_at_call 59; (with_reducible refine (fitted_any HF.out _).mono ?_); rintro e w3 ⟨rfl, hb⟩) | (go_at_call 24; (with_reducible refine (N1.out _).mono ?_); rintro e w' ⟨rfl, rfl⟩) | (go_at_call 24; (with_reducible refine (N2.out _).mono ?_); rintro e w' ⟨rfl, rfl⟩) | (go_at_call 24; (with_reducible refine (N3.out _).mono ?_); rintro e w' ⟨rfl, rfl⟩) | (go_at_call 24; (with_reducible refine (N4.out _).mono ?_); rintro e w' ⟨rfl, rfl⟩))
  go_ret
  exact ⟨rfl, bel_trans hb (by repeat (first | exact Below.refl _ _ | refine bel_drew ?_ | refine bel_alloc _ ?_ | refine bel_drewN _ ?_ | refine bel_trans (by assumption) ?_ | refine bel_set _ _ (by simp) ?_))⟩

set_option maxHeartbeats 8000000 in
set_option maxRecDepth 100000 in
theorem fitlaw_u_ff {a b c d a' b' c' d' x y X Y A B C D : Nat} (w : World) (H1 : Hid (properB a b c d = true)) (H2 : Hid (properB a' b' c' d' = true)) (hD : Diffs a b c d a' b' c' d' x y X Y) (f1 : eqf x y = false) (f2 : eqf X Y = false) (t1 : gt x y = false) (t2 : gt X Y = false) 
    (hF : FitDoes a b c d a' b' c' d' true true A B C D 0) (q1 q2 sc k1 k2 k3 l1 l2 l3 : Nat) (e1 : floatBits .quo .f64 X x = some q1) (e2 : floatBits .quo .f64 Y y = some q2) (em : ∀ ts t w, (Builtin.min_ ts t #[.float .f64 q1, .float .f64 q2]).run Try.prog w = .ok (.float .f64 sc) w)
    (e3 : floatBits .mul .f64 x sc = some k1) (e4 : floatBits .sub .f64 X k1 = some k2) (e5 : floatBits .quo .f64 k2 w2 = some k3) (e6 : floatBits .mul .f64 y sc = some l1) (e7 : floatBits .sub .f64 Y l1 = some l2) (e8 : floatBits .quo .f64 l2 w2 = some l3)
    (n1 : NearT A k1) (n2 : NearT B l1) (n3 : NearT C k3) (n4 : NearT D l3) :
    Calls Try.prog 21 #[.agg #[.float .f64 a, .float .f64 b, .float .f64 c, .float .f64 d], .agg #[.float .f64 a', .float .f64 b', .float .f64 c', .float .f64 d'], .bool true, .bool true] w fun e w' => e = .returned (.bool true) ∧ Below w.heap.size w w' := by
  have o1 := run_bin (P := Try.prog) .sub hD.hx
  have o2 := run_bin (P := Try.prog) .sub hD.hy
  have o3 := run_bin (P := Try.prog) .sub hD.hX
  have o4 := run_bin (P := Try.prog) .sub hD.hY
  have HF := Lib.hid hF
  have p1 := run_bin (P := Try.prog) .quo e1
  have p2 := run_bin (P := Try.prog) .quo e2
  have p3 := run_bin (P := Try.prog) .mul e3
  have p4 := run_bin (P := Try.prog) .sub e4
  have p5 := run_bin (P := Try.prog) .quo e5
  have p6 := run_bin (P := Try.prog) .mul e6
  have p7 := run_bin (P := Try.prog) .sub e7
  have p8 := run_bin (P := Try.prog) .quo e8
  have z0 : (FloatKind.f64.format.order 0 0 == some Ordering.eq) = true := by decide +kernel
  have N1 := Lib.hid n1
  have N2 := Lib.hid n2
  have N3 := Lib.hid n3
  have N4 := Lib.hid n4
  clear hD hF e1 e2 e3 e4 e5 e6 e7 e8 n1 n2 n3 n4
  go_enter Try.func21, Try.ntmps21
  go_wp2_with (first | (go_at_call 28; (with_reducible refine (proper_any a b c d true _ H1.out).mono ?_); rintro e w' ⟨rfl, rfl⟩) | (go_at_call 28; (with_reducible refine (proper_any a' b' c' d' true _ H2.out).mono ?_); rintro e w' ⟨rfl, rfl⟩))
  go_quiet (fail)
  go_wp2_with fail
  go_quiet (fail)
  go_wp2_with (first | (go_at_call 59; (with_reducible refine (fitted_any HF.out _).mono ?_); rintro e w3 ⟨rfl, hb⟩) | (go_at_call 24; (with_reducible refine (N1.out _).mono ?_); rintro e w' ⟨rfl, rfl⟩) | (go_at_call 24; (with_reducible refine (N2.out _).mono ?_); rintro e w' ⟨rfl, rfl⟩) | (go_at_call 24; (with_reducible refine (N3.out _).mono ?_); rintro e w' ⟨rfl, rfl⟩) | (go_at_call 24; (with_reducible refine (N4.out _).mono ?_); rintro e w' ⟨rfl, rfl⟩))
  go_ret
  exact ⟨rfl, bel_trans hb (by repeat (first | exact Below.refl _ _ | refine bel_drew ?_ | refine bel_alloc _ ?_ | refine bel_drewN _ ?_ | refine bel_trans (by assumption) ?_ | refine bel_set _ _ (by simp) ?_))⟩

set_option maxHeartbeats 8000000 in
set_option maxRecDepth 100000 in
theorem fitlaw_u_tt {a b c d a' b' c' d' x y X Y A B C D : Nat} (w : World) (H1 : Hid (properB a b c d = true)) (H2 : Hid (properB a' b' c' d' = true)) (hD : Diffs a b c d a' b' c' d' x y X Y) (f1 : eqf x y = false) (f2 : eqf X Y = false) (t1 : gt x y = true) (t2 : gt X Y = true) 
    (hF : FitDoes a b c d a' b' c' d' true true A B C D 0) (q1 q2 sc k1 k2 k3 l1 l2 l3 : Nat) (e1 : floatBits .quo .f64 X x = some q1) (e2 : floatBits .quo .f64 Y y = some q2) (em : ∀ ts t w, (Builtin.min_ ts t #[.float .f64 q1, .float .f64 q2]).run Try.prog w = .ok (.float .f64 sc) w)
    (e3 : floatBits .mul .f64 x sc = some k1) (e4 : floatBits .sub .f64 X k1 = some k2) (e5 : floatBits .quo .f64 k2 w2 = some k3) (e6 : floatBits .mul .f64 y sc = some l1) (e7 : floatBits .sub .f64 Y l1 = some l2) (e8 : floatBits .quo .f64 l2 w2 = some l3)
    (n1 : NearT A k1) (n2 : NearT B l1) (n3 : NearT C k3) (n4 : NearT D l3) :
    Calls Try.prog 21 #[.agg #[.float .f64 a, .float .f64 b, .float .f64 c, .float .f64 d], .agg #[.float .f64 a', .float .f64 b', .float .f64 c', .float .f64 d'], .bool true, .bool true] w fun e w' => e = .returned (.bool true) ∧ Below w.heap.size w w' := by
  have o1 := run_bin (P := Try.prog) .sub hD.hx
  have o2 := run_bin (P := Try.prog) .sub hD.hy
  have o3 := run_bin (P := Try.prog) .sub hD.hX
  have o4 := run_bin (P := Try.prog) .sub hD.hY
  have HF := Lib.hid hF
  have p1 := run_bin (P := Try.prog) .quo e1
  have p2 := run_bin (P := Try.prog) .quo e2
  have p3 := run_bin (P := Try.prog) .mul e3
  have p4 := run_bin (P := Try.prog) .sub e4
  have p5 := run_bin (P := Try.prog) .quo e5
  have p6 := run_bin (P := Try.prog) .mul e6
  have p7 := run_bin (P := Try.prog) .sub e7
  have p8 := run_bin (P := Try.prog) .quo e8
  have z0 : (FloatKind.f64.format.order 0 0 == some Ordering.eq) = true := by decide +kernel
  have N1 := Lib.hid n1
  have N2 := Lib.hid n2
  have N3 := Lib.hid n3
  have N4 := Lib.hid n4
  clear hD hF e1 e2 e3 e4 e5 e6 e7 e8 n1 n2 n3 n4
  go_enter Try.func21, Try.ntmps21
  go_wp2_with (first | (go_at_call 28; (with_reducible refine (proper_any a b c d true _ H1.out).mono ?_); rintro e w' ⟨rfl, rfl⟩) | (go_at_call 28; (with_reducible refine (proper_any a' b' c' d' true _ H2.out).mono ?_); rintro e w' ⟨rfl, rfl⟩))
  go_quiet (fail)
  go_wp2_with fail
  go_quiet (fail)
  go_wp2_with (first | (go_at_call 59; (with_reducible refine (fitted_any HF.out _).mono ?_); rintro e w3 ⟨rfl, hb⟩) | (go_at_call 24; (with_reducible refine (N1.out _).mono ?_); rintro e w' ⟨rfl, rfl⟩) | (go_at_call 24; (with_reducible refine (N2.out _).mono ?_); rintro e w' ⟨rfl, rfl⟩) | (go_at_call 24; (with_reducible refine (N3.out _).mono ?_); rintro e w' ⟨rfl, rfl⟩) | (go_at_call 24; (with_reducible refine (N4.out _).mono ?_); rintro e w' ⟨rfl, rfl⟩))
  go_ret
  exact ⟨rfl, bel_trans hb (by repeat (first | exact Below.refl _ _ | refine bel_drew ?_ | refine bel_alloc _ ?_ | refine bel_drewN _ ?_ | refine bel_trans (by assumption) ?_ | refine bel_set _ _ (by simp) ?_))⟩

set_option maxHeartbeats 8000000 in
set_option maxRecDepth 100000 in
theorem fitlaw_u_ft {a b c d a' b' c' d' x y X Y A B C D : Nat} (w : World) (H1 : Hid (properB a b c d = true)) (H2 : Hid (properB a' b' c' d' = true)) (hD : Diffs a b c d a' b' c' d' x y X Y) (f1 : eqf x y = false) (f2 : eqf X Y = false) (t1 : gt x y = false) (t2 : gt X Y = true) 
    (hF : FitDoes a b c d a' b' c' d' true true A B C D 4636033603912859648) (q1 q2 sc k1 k2 k3 l1 l2 l3 : Nat) (e1 : floatBits .quo .f64 Y x = some q1) (e2 : floatBits .quo .f64 X y = some q2) (em : ∀ ts t w, (Builtin.min_ ts t #[.float .f64 q1, .float .f64 q2]).run Try.prog w = .ok (.float .f64 sc) w)
    (e3 : floatBits .mul .f64 x sc = some k1) (e4 : floatBits .sub .f64 Y k1 = some k2) (e5 : floatBits .quo .f64 k2 w2 = some k3) (e6 : floatBits .mul .f64 y sc = some l1) (e7 : floatBits .sub .f64 X l1 = some l2) (e8 : floatBits .quo .f64 l2 w2 = some l3)
    (n1 : NearT A k1) (n2 : NearT B l1) (n3 : NearT C l3) (n4 : NearT D k3) :
    Calls Try.prog 21 #[.agg #[.float .f64 a, .float .f64 b, .float .f64 c, .float .f64 d], .agg #[.float .f64 a', .float .f64 b', .float .f64 c', .float .f64 d'], .bool true, .bool true] w fun e w' => e = .returned (.bool true) ∧ Below w.heap.size w w' := by
  have o1 := run_bin (P := Try.prog) .sub hD.hx
  have o2 := run_bin (P := Try.prog) .sub hD.hy
  have o3 := run_bin (P := Try.prog) .sub hD.hX
  have o4 := run_bin (P := Try.prog) .sub hD.hY
  have HF := Lib.hid hF
  have p1 := run_bin (P := Try.prog) .quo e1
  have p2 := run_bin (P := Try.prog) .quo e2
  have p3 := run_bin (P := Try.prog) .mul e3
  have p4 := run_bin (P := Try.prog) .sub e4
  have p5 := run_bin (P := Try.prog) .quo e5
  have p6 := run_bin (P := Try.prog) .mul e6
  have p7 := run_bin (P := Try.prog) .sub e7
  have p8 := run_bin (P := Try.prog) .quo e8
  have z0 : (FloatKind.f64.format.order 4636033603912859648 4636033603912859648 == some Ordering.eq) = true := by decide +kernel
  have N1 := Lib.hid n1
  have N2 := Lib.hid n2
  have N3 := Lib.hid n3
  have N4 := Lib.hid n4
  clear hD hF e1 e2 e3 e4 e5 e6 e7 e8 n1 n2 n3 n4
  go_enter Try.func21, Try.ntmps21
  go_wp2_with (first | (go_at_call 28; (with_reducible refine (proper_any a b c d true _ H1.out).mono ?_); rintro e w' ⟨rfl, rfl⟩) | (go_at_call 28; (with_reducible refine (proper_any a' b' c' d' true _ H2.out).mono ?_); rintro e w' ⟨rfl, rfl⟩))
  go_quiet (fail)
  go_wp2_with fail
  go_quiet (fail)
  go_wp2_with (first | (go_at_call 59; (with_reducible refine (fitted_any HF.out _).mono ?_); rintro e w3 ⟨rfl, hb⟩) | (go_at_call 24; (with_reducible refine (N1.out _).mono ?_); rintro e w' ⟨rfl, rfl⟩) | (go_at_call 24; (with_reducible refine (N2.out _).mono ?_); rintro e w' ⟨rfl, rfl⟩) | (go_at_call 24; (with_reducible refine (N3.out _).mono ?_); rintro e w' ⟨rfl, rfl⟩) | (go_at_call 24; (with_reducible refine (N4.out _).mono ?_); rintro e w' ⟨rfl, rfl⟩))
  go_ret
  exact ⟨rfl, bel_trans hb (by repeat (first | exact Below.refl _ _ | refine bel_drew ?_ | refine bel_alloc _ ?_ | refine bel_drewN _ ?_ | refine bel_trans (by assumption) ?_ | refine bel_set _ _ (by simp) ?_))⟩

set_option maxHeartbeats 8000000 in
set_option maxRecDepth 100000 in
theorem fitlaw_u_tf {a b c d a' b' c' d' x y X Y A B C D : Nat} (w : World) (H1 : Hid (properB a b c d = true)) (H2 : Hid (properB a' b' c' d' = true)) (hD : Diffs a b c d a' b' c' d' x y X Y) (f1 : eqf x y = false) (f2 : eqf X Y = false) (t1 : gt x y = true) (t2 : gt X Y = false) 
    (hF : FitDoes a b c d a' b' c' d' true true A B C D 4636033603912859648) (q1 q2 sc k1 k2 k3 l1 l2 l3 : Nat) (e1 : floatBits .quo .f64 Y x = some q1) (e2 : floatBits .quo .f64 X y = some q2) (em : ∀ ts t w, (Builtin.min_ ts t #[.float .f64 q1, .float .f64 q2]).run Try.prog w = .ok (.float .f64 sc) w)
    (e3 : floatBits .mul .f64 x sc = some k1) (e4 : floatBits .sub .f64 Y k1 = some k2) (e5 : floatBits .quo .f64 k2 w2 = some k3) (e6 : floatBits .mul .f64 y sc = some l1) (e7 : floatBits .sub .f64 X l1 = some l2) (e8 : floatBits .quo .f64 l2 w2 = some l3)
    (n1 : NearT A k1) (n2 : NearT B l1) (n3 : NearT C l3) (n4 : NearT D k3) :
    Calls Try.prog 21 #[.agg #[.float .f64 a, .float .f64 b, .float .f64 c, .float .f64 d], .agg #[.float .f64 a', .float .f64 b', .float .f64 c', .float .f64 d'], .bool true, .bool true] w fun e w' => e = .returned (.bool true) ∧ Below w.heap.size w w' := by
  have o1 := run_bin (P := Try.prog) .sub hD.hx
  have o2 := run_bin (P := Try.prog) .sub hD.hy
  have o3 := run_bin (P := Try.prog) .sub hD.hX
  have o4 := run_bin (P := Try.prog) .sub hD.hY
  have HF := Lib.hid hF
  have p1 := run_bin (P := Try.prog) .quo e1
  have p2 := run_bin (P := Try.prog) .quo e2
  have p3 := run_bin (P := Try.prog) .mul e3
  have p4 := run_bin (P := Try.prog) .sub e4
  have p5 := run_bin (P := Try.prog) .quo e5
  have p6 := run_bin (P := Try.prog) .mul e6
  have p7 := run_bin (P := Try.prog) .sub e7
  have p8 := run_bin (P := Try.prog) .quo e8
  have z0 : (FloatKind.f64.format.order 4636033603912859648 4636033603912859648 == some Ordering.eq) = true := by decide +kernel
  have N1 := Lib.hid n1
  have N2 := Lib.hid n2
  have N3 := Lib.hid n3
  have N4 := Lib.hid n4
  clear hD hF e1 e2 e3 e4 e5 e6 e7 e8 n1 n2 n3 n4
  go_enter Try.func21, Try.ntmps21
  go_wp2_with (first | (go_at_call 28; (with_reducible refine (proper_any a b c d true _ H1.out).mono ?_); rintro e w' ⟨rfl, rfl⟩) | (go_at_call 28; (with_reducible refine (proper_any a' b' c' d' true _ H2.out).mono ?_); rintro e w' ⟨rfl, rfl⟩))
  go_quiet (fail)
  go_wp2_with fail
  go_quiet (fail)
  go_wp2_with (first | (go_at_call 59; (with_reducible refine (fitted_any HF.out _).mono ?_); rintro e w3 ⟨rfl, hb⟩) | (go_at_call 24; (with_reducible refine (N1.out _).mono ?_); rintro e w' ⟨rfl, rfl⟩) | (go_at_call 24; (with_reducible refine (N2.out _).mono ?_); rintro e w' ⟨rfl, rfl⟩) | (go_at_call 24; (with_reducible refine (N3.out _).mono ?_); rintro e w' ⟨rfl, rfl⟩) | (go_at_call 24; (with_reducible refine (N4.out _).mono ?_); rintro e w' ⟨rfl, rfl⟩))
  go_ret
  exact ⟨rfl, bel_trans hb (by repeat (first | exact Below.refl _ _ | refine bel_drew ?_ | refine bel_alloc _ ?_ | refine bel_drewN _ ?_ | refine bel_trans (by assumption) ?_ | refine bel_set _ _ (by simp) ?_))⟩

set_option maxHeartbeats 8000000 in
set_option maxRecDepth 100000 in
theorem fitlaw_x_n {a b c d a' b' c' d' x y X Y A B C D : Nat} (w : World) (H1 : Hid (properB a b c d = true)) (H2 : Hid (properB a' b' c' d' = true)) (hD : Diffs a b c d a' b' c' d' x y X Y) (f1 : eqf x y = false) (f2 : eqf X Y = false) (g1 : leqf x X = false) 
    (hF : FitDoes a b c d a' b' c' d' false false A B C D 0) (q1 q2 sc k1 k2 k3 l1 l2 l3 : Nat) (e1 : floatBits .quo .f64 X x = some q1) (e2 : floatBits .quo .f64 Y y = some q2) (em : ∀ ts t w, (Builtin.min_ ts t #[.float .f64 q1, .float .f64 q2]).run Try.prog w = .ok (.float .f64 sc) w)
    (e3 : floatBits .mul .f64 x sc = some k1) (e4 : floatBits .sub .f64 X k1 = some k2) (e5 : floatBits .quo .f64 k2 w2 = some k3) (e6 : floatBits .mul .f64 y sc = some l1) (e7 : floatBits .sub .f64 Y l1 = some l2) (e8 : floatBits .quo .f64 l2 w2 = some l3)
    (n1 : NearT A k1) (n2 : NearT B l1) (n3 : NearT C k3) (n4 : NearT D l3) :
    Calls Try.prog 21 #[.agg #[.float .f64 a, .float .f64 b, .float .f64 c, .float .f64 d], .agg #[.float .f64 a', .float .f64 b', .float .f64 c', .float .f64 d'], .bool false, .bool false] w fun e w' => e = .returned (.bool true) ∧ Below w.heap.size w w' := by
  have o1 := run_bin (P := Try.prog) .sub hD.hx
  have o2 := run_bin (P := Try.prog) .sub hD.hy
  have o3 := run_bin (P := Try.prog) .sub hD.hX
  have o4 := run_bin (P := Try.prog) .sub hD.hY
  have HF := Lib.hid hF
  have p1 := run_bin (P := Try.prog) .quo e1
  have p2 := run_bin (P := Try.prog) .quo e2
  have p3 := run_bin (P := Try.prog) .mul e3
  have p4 := run_bin (P := Try.prog) .sub e4
  have p5 := run_bin (P := Try.prog) .quo e5
  have p6 := run_bin (P := Try.prog) .mul e6
  have p7 := run_bin (P := Try.prog) .sub e7
  have p8 := run_bin (P := Try.prog) .quo e8
  have z0 : (FloatKind.f64.format.order 0 0 == some Ordering.eq) = true := by decide +kernel
  have N1 := Lib.hid n1
  have N2 := Lib.hid n2
  have N3 := Lib.hid n3
  have N4 := Lib.hid n4
  clear hD hF e1 e2 e3 e4 e5 e6 e7 e8 n1 n2 n3 n4
  go_enter Try.func21, Try.ntmps21
  go_wp2_with (first | (go_at_call 28; (with_reducible refine (proper_any a b c d true _ H1.out).mono ?_); rintro e w' ⟨rfl, rfl⟩) | (go_at_call 28; (with_reducible refine (proper_any a' b' c' d' true _ H2.out).mono ?_); rintro e w' ⟨rfl, rfl⟩))
  go_quiet (fail)
  go_wp2_with fail
  go_quiet (fail)
  go_wp2_with (first | (go_at_call 59; (with_reducible refine (fitted_any HF.out _).mono ?_); rintro e w3 ⟨rfl, hb⟩) | (go_at_call 24; (with_reducible refine (N1.out _).mono ?_); rintro e w' ⟨rfl, rfl⟩) | (go_at_call 24; (with_reducible refine (N2.out _).mono ?_); rintro e w' ⟨rfl, rfl⟩) | (go_at_call 24; (with_reducible refine (N3.out _).mono ?_); rintro e w' ⟨rfl, rfl⟩) | (go_at_call 24; (with_reducible refine (N4.out _).mono ?_); rintro e w' ⟨rfl, rfl⟩))
  go_ret
  exact ⟨rfl, bel_trans hb (by repeat (first | exact Below.refl _ _ | refine bel_drew ?_ | refine bel_alloc _ ?_ | refine bel_drewN _ ?_ | refine bel_trans (by assumption) ?_ | refine bel_set _ _ (by simp) ?_))⟩

set_option maxHeartbeats 8000000 in
set_option maxRecDepth 100000 in
theorem fitlaw_x_ff {a b c d a' b' c' d' x y X Y A B C D : Nat} (w : World) (H1 : Hid (properB a b c d = true)) (H2 : Hid (properB a' b' c' d' = true)) (hD : Diffs a b c d a' b' c' d' x y X Y) (f1 : eqf x y = false) (f2 : eqf X Y = false) (g1 : leqf x X = false) (t1 : gt x y = false) (t2 : gt X Y = false) 
    (hF : FitDoes a b c d a' b' c' d' true false A B C D 0) (q1 q2 sc k1 k2 k3 l1 l2 l3 : Nat) (e1 : floatBits .quo .f64 X x = some q1) (e2 : floatBits .quo .f64 Y y = some q2) (em : ∀ ts t w, (Builtin.min_ ts t #[.float .f64 q1, .float .f64 q2]).run Try.prog w = .ok (.float .f64 sc) w)
    (e3 : floatBits .mul .f64 x sc = some k1) (e4 : floatBits .sub .f64 X k1 = some k2) (e5 : floatBits .quo .f64 k2 w2 = some k3) (e6 : floatBits .mul .f64 y sc = some l1) (e7 : floatBits .sub .f64 Y l1 = some l2) (e8 : floatBits .quo .f64 l2 w2 = some l3)
    (n1 : NearT A k1) (n2 : NearT B l1) (n3 : NearT C k3) (n4 : NearT D l3) :
    Calls Try.prog 21 #[.agg #[.float .f64 a, .float .f64 b, .float .f64 c, .float .f64 d], .agg #[.float .f64 a', .float .f64 b', .float .f64 c', .float .f64 d'], .bool true, .bool false] w fun e w' => e = .returned (.bool true) ∧ Below w.heap.size w w' := by
  have o1 := run_bin (P := Try.prog) .sub hD.hx
  have o2 := run_bin (P := Try.prog) .sub hD.hy
  have o3 := run_bin (P := Try.prog) .sub hD.hX
  have o4 := run_bin (P := Try.prog) .sub hD.hY
  have HF := Lib.hid hF
  have p1 := run_bin (P := Try.prog) .quo e1
  have p2 := run_bin (P := Try.prog) .quo e2
  have p3 := run_bin (P := Try.prog) .mul e3
  have p4 := run_bin (P := Try.prog) .sub e4
  have p5 := run_bin (P := Try.prog) .quo e5
  have p6 := run_bin (P := Try.prog) .mul e6
  have p7 := run_bin (P := Try.prog) .sub e7
  have p8 := run_bin (P := Try.prog) .quo e8
  have z0 : (FloatKind.f64.format.order 0 0 == some Ordering.eq) = true := by decide +kernel
  have N1 := Lib.hid n1
  have N2 := Lib.hid n2
  have N3 := Lib.hid n3
  have N4 := Lib.hid n4
  clear hD hF e1 e2 e3 e4 e5 e6 e7 e8 n1 n2 n3 n4
  go_enter Try.func21, Try.ntmps21
  go_wp2_with (first | (go_at_call 28; (with_reducible refine (proper_any a b c d true _ H1.out).mono ?_); rintro e w' ⟨rfl, rfl⟩) | (go_at_call 28; (with_reducible refine (proper_any a' b' c' d' true _ H2.out).mono ?_); rintro e w' ⟨rfl, rfl⟩))
  go_quiet (fail)
  go_wp2_with fail
  go_quiet (fail)
  go_wp2_with (first | (go_at_call 59; (with_reducible refine (fitted_any HF.out _).mono ?_); rintro e w3 ⟨rfl, hb⟩) | (go_at_call 24; (with_reducible refine (N1.out _).mono ?_); rintro e w' ⟨rfl, rfl⟩) | (go_at_call 24; (with_reducible refine (N2.out _).mono ?_); rintro e w' ⟨rfl, rfl⟩) | (go_at_call 24; (with_reducible refine (N3.out _).mono ?_); rintro e w' ⟨rfl, rfl⟩) | (go_at_call 24; (with_reducible refine (N4.out _).mono ?_); rintro e w' ⟨rfl, rfl⟩))
  go_ret
  exact ⟨rfl, bel_trans hb (by repeat (first | exact Below.refl _ _ | refine bel_drew ?_ | refine bel_alloc _ ?_ | refine bel_drewN _ ?_ | refine bel_trans (by assumption) ?_ | refine bel_set _ _ (by simp) ?_))⟩

set_option maxHeartbeats 8000000 in
set_option maxRecDepth 100000 in
theorem fitlaw_x_tt {a b c d a' b' c' d' x y X Y A B C D : Nat} (w : World) (H1 : Hid (properB a b c d = true)) (H2 : Hid (properB a' b' c' d' = true)) (hD : Diffs a b c d a' b' c' d' x y X Y) (f1 : eqf x y = false) (f2 : eqf X Y = false) (g1 : leqf x X = false) (t1 : gt x y = true) (t2 : gt X Y = true) 
    (hF : FitDoes a b c d a' b' c' d' true false A B C D 0) (q1 q2 sc k1 k2 k3 l1 l2 l3 : Nat) (e1 : floatBits .quo .f64 X x = some q1) (e2 : floatBits .quo .f64 Y y = some q2) (em : ∀ ts t w, (Builtin.min_ ts t #[.float .f64 q1, .float .f64 q2]).run Try.prog w = .ok (.float .f64 sc) w)
    (e3 : floatBits .mul .f64 x sc = some k1) (e4 : floatBits .sub .f64 X k1 = some k2) (e5 : floatBits .quo .f64 k2 w2 = some k3) (e6 : floatBits .mul .f64 y sc = some l1) (e7 : floatBits .sub .f64 Y l1 = some l2) (e8 : floatBits .quo .f64 l2 w2 = some l3)
    (n1 : NearT A k1) (n2 : NearT B l1) (n3 : NearT C k3) (n4 : NearT D l3) :
    Calls Try.prog 21 #[.agg #[.float .f64 a, .float .f64 b, .float .f64 c, .float .f64 d], .agg #[.float .f64 a', .float .f64 b', .float .f64 c', .float .f64 d'], .bool true, .bool false] w fun e w' => e = .returned (.bool true) ∧ Below w.heap.size w w' := by
  have o1 := run_bin (P := Try.prog) .sub hD.hx
  have o2 := run_bin (P := Try.prog) .sub hD.hy
  have o3 := run_bin (P := Try.prog) .sub hD.hX
  have o4 := run_bin (P := Try.prog) .sub hD.hY
  have HF := Lib.hid hF
  have p1 := run_bin (P := Try.prog) .quo e1
  have p2 := run_bin (P := Try.prog) .quo e2
  have p3 := run_bin (P := Try.prog) .mul e3
  have p4 := run_bin (P := Try.prog) .sub e4
  have p5 := run_bin (P := Try.prog) .quo e5
  have p6 := run_bin (P := Try.prog) .mul e6
  have p7 := run_bin (P := Try.prog) .sub e7
  have p8 := run_bin (P := Try.prog) .quo e8
  have z0 : (FloatKind.f64.format.order 0 0 == some Ordering.eq) = true := by decide +kernel
  have N1 := Lib.hid n1
  have N2 := Lib.hid n2
  have N3 := Lib.hid n3
  have N4 := Lib.hid n4
  clear hD hF e1 e2 e3 e4 e5 e6 e7 e8 n1 n2 n3 n4
  go_enter Try.func21, Try.ntmps21
  go_wp2_with (first | (go_at_call 28; (with_reducible refine (proper_any a b c d true _ H1.out).mono ?_); rintro e w' ⟨rfl, rfl⟩) | (go_at_call 28; (with_reducible refine (proper_any a' b' c' d' true _ H2.out).mono ?_); rintro e w' ⟨rfl, rfl⟩))
  go_quiet (fail)
  go_wp2_with fail
  go_quiet (fail)
  go_wp2_with (first | (go_at_call 59; (with_reducible refine (fitted_any HF.out _).mono ?_); rintro e w3 ⟨rfl, hb⟩) | (go_at_call 24; (with_reducible refine (N1.out _).mono ?_); rintro e w' ⟨rfl, rfl⟩) | (go_at_call 24; (with_reducible refine (N2.out _).mono ?_); rintro e w' ⟨rfl, rfl⟩) | (go_at_call 24; (with_reducible refine (N3.out _).mono ?_); rintro e w' ⟨rfl, rfl⟩) | (go_at_call 24; (with_reducible refine (N4.out _).mono ?_); rintro e w' ⟨rfl, rfl⟩))
  go_ret
  exact ⟨rfl, bel_trans hb (by repeat (first | exact Below.refl _ _ | refine bel_drew ?_ | refine bel_alloc _ ?_ | refine bel_drewN _ ?_ | refine bel_trans (by assumption) ?_ | refine bel_set _ _ (by simp) ?_))⟩

set_option maxHeartbeats 8000000 in
set_option maxRecDepth 100000 in
theorem fitlaw_x_ft {a b c d a' b' c' d' x y X Y A B C D : Nat} (w : World) (H1 : Hid (properB a b c d = true)) (H2 : Hid (properB a' b' c' d' = true)) (hD : Diffs a b c d a' b' c' d' x y X Y) (f1 : eqf x y = false) (f2 : eqf X Y = false) (g1 : leqf x X = false) (t1 : gt x y = false) (t2 : gt X Y = true) 
    (hF : FitDoes a b c d a' b' c' d' true false A B C D 4636033603912859648) (q1 q2 sc k1 k2 k3 l1 l2 l3 : Nat) (e1 : floatBits .quo .f64 Y x = some q1) (e2 : floatBits .quo .f64 X y = some q2) (em : ∀ ts t w, (Builtin.min_ ts t #[.float .f64 q1, .float .f64 q2]).run Try.prog w = .ok (.float .f64 sc) w)
    (e3 : floatBits .mul .f64 x sc = some k1) (e4 : floatBits .sub .f64 Y k1 = some k2) (e5 : floatBits .quo .f64 k2 w2 = some k3) (e6 : floatBits .mul .f64 y sc = some l1) (e7 : floatBits .sub .f64 X l1 = some l2) (e8 : floatBits .quo .f64 l2 w2 = some l3)
    (n1 : NearT A k1) (n2 : NearT B l1) (n3 : NearT C l3) (n4 : NearT D k3) :
    Calls Try.prog 21 #[.agg #[.float .f64 a, .float .f64 b, .float .f64 c, .float .f64 d], .agg #[.float .f64 a', .float .f64 b', .float .f64 c', .float .f64 d'], .bool true, .bool false] w fun e w' => e = .returned (.bool true) ∧ Below w.heap.size w w' := by
  have o1 := run_bin (P := Try.prog) .sub hD.hx
  have o2 := run_bin (P := Try.prog) .sub hD.hy
  have o3 := run_bin (P := Try.prog) .sub hD.hX
  have o4 := run_bin (P := Try.prog) .sub hD.hY
  have HF := Lib.hid hF
  have p1 := run_bin (P := Try.prog) .quo e1
  have p2 := run_bin (P := Try.prog) .quo e2
  have p3 := run_bin (P := Try.prog) .mul e3
  have p4 := run_bin (P := Try.prog) .sub e4
  have p5 := run_bin (P := Try.prog) .quo e5
  have p6 := run_bin (P := Try.prog) .mul e6
  have p7 := run_bin (P := Try.prog) .sub e7
  have p8 := run_bin (P := Try.prog) .quo e8
  have z0 : (FloatKind.f64.format.order 4636033603912859648 4636033603912859648 == some Ordering.eq) = true := by decide +kernel
  have N1 := Lib.hid n1
  have N2 := Lib.hid n2
  have N3 := Lib.hid n3
  have N4 := Lib.hid n4
  clear hD hF e1 e2 e3 e4 e5 e6 e7 e8 n1 n2 n3 n4
  go_enter Try.func21, Try.ntmps21
  go_wp2_with (first | (go_at_call 28; (with_reducible refine (proper_any a b c d true _ H1.out).mono ?_); rintro e w' ⟨rfl, rfl⟩) | (go_at_call 28; (with_reducible refine (proper_any a' b' c' d' true _ H2.out).mono ?_); rintro e w' ⟨rfl, rfl⟩))
  go_quiet (fail)
  go_wp2_with fail
  go_quiet (fail)
  go_wp2_with (first | (go_at_call 59; (with_reducible refine (fitted_any HF.out _).mono ?_); rintro e w3 ⟨rfl, hb⟩) | (go_at_call 24; (with_reducible refine (N1.out _).mono ?_); rintro e w' ⟨rfl, rfl⟩) | (go_at_call 24; (with_reducible refine (N2.out _).mono ?_); rintro e w' ⟨rfl, rfl⟩) | (go_at_call 24; (with_reducible refine (N3.out _).mono ?_); rintro e w' ⟨rfl, rfl⟩) | (go_at_call 24; (with_reducible refine (N4.out _).mono ?_); rintro e w' ⟨rfl, rfl⟩))
  go_ret
  exact ⟨rfl, bel_trans hb (by repeat (first | exact Below.refl _ _ | refine bel_drew ?_ | refine bel_alloc _ ?_ | refine bel_drewN _ ?_ | refine bel_trans (by assumption) ?_ | refine bel_set _ _ (by simp) ?_))⟩

set_option maxHeartbeats 8000000 in
set_option maxRecDepth 100000 in
theorem fitlaw_x_tf {a b c d a' b' c' d' x y X Y A B C D : Nat} (w : World) (H1 : Hid (properB a b c d = true)) (H2 : Hid (properB a' b' c' d' = true)) (hD : Diffs a b c d a' b' c' d' x y X Y) (f1 : eqf x y = false) (f2 : eqf X Y = false) (g1 : leqf x X = false) (t1 : gt x y = true) (t2 : gt X Y = false) 
    (hF : FitDoes a b c d a' b' c' d' true false A B C D 4636033603912859648) (q1 q2 sc k1 k2 k3 l1 l2 l3 : Nat) (e1 : floatBits .quo .f64 Y x = some q1) (e2 : floatBits .quo .f64 X y = some q2) (em : ∀ ts t w, (Builtin.min_ ts t #[.float .f64 q1, .float .f64 q2]).run Try.prog w = .ok (.float .f64 sc) w)
    (e3 : floatBits .mul .f64 x sc = some k1) (e4 : floatBits .sub .f64 Y k1 = some k2) (e5 : floatBits .quo .f64 k2 w2 = some k3) (e6 : floatBits .mul .f64 y sc = some l1) (e7 : floatBits .sub .f64 X l1 = some l2) (e8 : floatBits .quo .f64 l2 w2 = some l3)
    (n1 : NearT A k1) (n2 : NearT B l1) (n3 : NearT C l3) (n4 : NearT D k3) :
    Calls Try.prog 21 #[.agg #[.float .f64 a, .float .f64 b, .float .f64 c, .float .f64 d], .agg #[.float .f64 a', .float .f64 b', .float .f64 c', .float .f64 d'], .bool true, .bool false] w fun e w' => e = .returned (.bool true) ∧ Below w.heap.size w w' := by
  have o1 := run_bin (P := Try.prog) .sub hD.hx
  have o2 := run_bin (P := Try.prog) .sub hD.hy
  have o3 := run_bin (P := Try.prog) .sub hD.hX
  have o4 := run_bin (P := Try.prog) .sub hD.hY
  have HF := Lib.hid hF
  have p1 := run_bin (P := Try.prog) .quo e1
  have p2 := run_bin (P := Try.prog) .quo e2
  have p3 := run_bin (P := Try.prog) .mul e3
  have p4 := run_bin (P := Try.prog) .sub e4
  have p5 := run_bin (P := Try.prog) .quo e5
  have p6 := run_bin (P := Try.prog) .mul e6
  have p7 := run_bin (P := Try.prog) .sub e7
  have p8 := run_bin (P := Try.prog) .quo e8
  have z0 : (FloatKind.f64.format.order 4636033603912859648 4636033603912859648 == some Ordering.eq) = true := by decide +kernel
  have N1 := Lib.hid n1
  have N2 := Lib.hid n2
  have N3 := Lib.hid n3
  have N4 := Lib.hid n4
  clear hD hF e1 e2 e3 e4 e5 e6 e7 e8 n1 n2 n3 n4
  go_enter Try.func21, Try.ntmps21
  go_wp2_with (first | (go_at_call 28; (with_reducible refine (proper_any a b c d true _ H1.out).mono ?_); rintro e w' ⟨rfl, rfl⟩) | (go_at_call 28; (with_reducible refine (proper_any a' b' c' d' true _ H2.out).mono ?_); rintro e w' ⟨rfl, rfl⟩))
  go_quiet (fail)
  go_wp2_with fail
  go_quiet (fail)
  go_wp2_with (first | (go_at_call 59; (with_reducible refine (fitted_any HF.out _).mono ?_); rintro e w3 ⟨rfl, hb⟩) | (go_at_call 24; (with_reducible refine (N1.out _).mono ?_); rintro e w' ⟨rfl, rfl⟩) | (go_at_call 24; (with_reducible refine (N2.out _).mono ?_); rintro e w' ⟨rfl, rfl⟩) | (go_at_call 24; (with_reducible refine (N3.out _).mono ?_); rintro e w' ⟨rfl, rfl⟩) | (go_at_call 24; (with_reducible refine (N4.out _).mono ?_); rintro e w' ⟨rfl, rfl⟩))
  go_ret
  exact ⟨rfl, bel_trans hb (by repeat (first | exact Below.refl _ _ | refine bel_drew ?_ | refine bel_alloc _ ?_ | refine bel_drewN _ ?_ | refine bel_trans (by assumption) ?_ | refine bel_set _ _ (by simp) ?_))⟩

set_option maxHeartbeats 8000000 in
set_option maxRecDepth 100000 in
theorem fitlaw_y_n {a b c d a' b' c' d' x y X Y A B C D : Nat} (w : World) (H1 : Hid (properB a b c d = true)) (H2 : Hid (properB a' b' c' d' = true)) (hD : Diffs a b c d a' b' c' d' x y X Y) (f1 : eqf x y = false) (f2 : eqf X Y = false) (g1 : leqf x X = true) (g2 : leqf y Y = false) 
    (hF : FitDoes a b c d a' b' c' d' false false A B C D 0) (q1 q2 sc k1 k2 k3 l1 l2 l3 : Nat) (e1 : floatBits .quo .f64 X x = some q1) (e2 : floatBits .quo .f64 Y y = some q2) (em : ∀ ts t w, (Builtin.min_ ts t #[.float .f64 q1, .float .f64 q2]).run Try.prog w = .ok (.float .f64 sc) w)
    (e3 : floatBits .mul .f64 x sc = some k1) (e4 : floatBits .sub .f64 X k1 = some k2) (e5 : floatBits .quo .f64 k2 w2 = some k3) (e6 : floatBits .mul .f64 y sc = some l1) (e7 : floatBits .sub .f64 Y l1 = some l2) (e8 : floatBits .quo .f64 l2 w2 = some l3)
    (n1 : NearT A k1) (n2 : NearT B l1) (n3 : NearT C k3) (n4 : NearT D l3) :
    Calls Try.prog 21 #[.agg #[.float .f64 a, .float .f64 b, .float .f64 c, .float .f64 d], .agg #[.float .f64 a', .float .f64 b', .float .f64 c', .float .f64 d'], .bool false, .bool false] w fun e w' => e = .returned (.bool true) ∧ Below w.heap.size w w' := by
  have o1 := run_bin (P := Try.prog) .sub hD.hx
  have o2 := run_bin (P := Try.prog) .sub hD.hy
  have o3 := run_bin (P := Try.prog) .sub hD.hX
  have o4 := run_bin (P := Try.prog) .sub hD.hY
  have HF := Lib.hid hF
  have p1 := run_bin (P := Try.prog) .quo e1
  have p2 := run_bin (P := Try.prog) .quo e2
  have p3 := run_bin (P := Try.prog) .mul e3
  have p4 := run_bin (P := Try.prog) .sub e4
  have p5 := run_bin (P := Try.prog) .quo e5
  have p6 := run_bin (P := Try.prog) .mul e6
  have p7 := run_bin (P := Try.prog) .sub e7
  have p8 := run_bin (P := Try.prog) .quo e8
  have z0 : (FloatKind.f64.format.order 0 0 == some Ordering.eq) = true := by decide +kernel
  have N1 := Lib.hid n1
  have N2 := Lib.hid n2
  have N3 := Lib.hid n3
  have N4 := Lib.hid n4
  clear hD hF e1 e2 e3 e4 e5 e6 e7 e8 n1 n2 n3 n4
  go_enter Try.func21, Try.ntmps21
  go_wp2_with (first | (go_at_call 28; (with_reducible refine (proper_any a b c d true _ H1.out).mono ?_); rintro e w' ⟨rfl, rfl⟩) | (go_at_call 28; (with_reducible refine (proper_any a' b' c' d' true _ H2.out).mono ?_); rintro e w' ⟨rfl, rfl⟩))
  go_quiet (fail)
  go_wp2_with fail
  go_quiet (fail)
  go_wp2_with (first | (go_at_call 59; (with_reducible refine (fitted_any HF.out _).mono ?_); rintro e w3 ⟨rfl, hb⟩) | (go_at_call 24; (with_reducible refine (N1.out _).mono ?_); rintro e w' ⟨rfl, rfl⟩) | (go_at_call 24; (with_reducible refine (N2.out _).mono ?_); rintro e w' ⟨rfl, rfl⟩) | (go_at_call 24; (with_reducible refine (N3.out _).mono ?_); rintro e w' ⟨rfl, rfl⟩) | (go_at_call 24; (with_reducible refine (N4.out _).mono ?_); rintro e w' ⟨rfl, rfl⟩))
  go_ret
  exact ⟨rfl, bel_trans hb (by repeat (first | exact Below.refl _ _ | refine bel_drew ?_ | refine bel_alloc _ ?_ | refine bel_drewN _ ?_ | refine bel_trans (by assumption) ?_ | refine bel_set _ _ (by simp) ?_))⟩

set_option maxHeartbeats 8000000 in
set_option maxRecDepth 100000 in
theorem fitlaw_y_ff {a b c d a' b' c' d' x y X Y A B C D : Nat} (w : World) (H1 : Hid (properB a b c d = true)) (H2 : Hid (properB a' b' c' d' = true)) (hD : Diffs a b c d a' b' c' d' x y X Y) (f1 : eqf x y = false) (f2 : eqf X Y = false) (g1 : leqf x X = true) (g2 : leqf y Y = false) (t1 : gt x y = false) (t2 : gt X Y = false) 
    (hF : FitDoes a b c d a' b' c' d' true false A B C D 0) (q1 q2 sc k1 k2 k3 l1 l2 l3 : Nat) (e1 : floatBits .quo .f64 X x = some q1) (e2 : floatBits .quo .f64 Y y = some q2) (em : ∀ ts t w, (Builtin.min_ ts t #[.float .f64 q1, .float .f64 q2]).run Try.prog w = .ok (.float .f64 sc) w)
    (e3 : floatBits .mul .f64 x sc = some k1) (e4 : floatBits .sub .f64 X k1 = some k2) (e5 : floatBits .quo .f64 k2 w2 = some k3) (e6 : floatBits .mul .f64 y sc = some l1) (e7 : floatBits .sub .f64 Y l1 = some l2) (e8 : floatBits .quo .f64 l2 w2 = some l3)
    (n1 : NearT A k1) (n2 : NearT B l1) (n3 : NearT C k3) (n4 : NearT D l3) :
    Calls Try.prog 21 #[.agg #[.float .f64 a, .float .f64 b, .float .f64 c, .float .f64 d], .agg #[.float .f64 a', .float .f64 b', .float .f64 c', .float .f64 d'], .bool true, .bool false] w fun e w' => e = .returned (.bool true) ∧ Below w.heap.size w w' := by
  have o1 := run_bin (P := Try.prog) .sub hD.hx
  have o2 := run_bin (P := Try.prog) .sub hD.hy
  have o3 := run_bin (P := Try.prog) .sub hD.hX
  have o4 := run_bin (P := Try.prog) .sub hD.hY
  have HF := Lib.hid hF
  have p1 := run_bin (P := Try.prog) .quo e1
  have p2 := run_bin (P := Try.prog) .quo e2
  have p3 := run_bin (P := Try.prog) .mul e3
  have p4 := run_bin (P := Try.prog) .sub e4
  have p5 := run_bin (P := Try.prog) .quo e5
  have p6 := run_bin (P := Try.prog) .mul e6
  have p7 := run_bin (P := Try.prog) .sub e7
  have p8 := run_bin (P := Try.prog) .quo e8
  have z0 : (FloatKind.f64.format.order 0 0 == some Ordering.eq) = true := by decide +kernel
  have N1 := Lib.hid n1
  have N2 := Lib.hid n2
  have N3 := Lib.hid n3
  have N4 := Lib.hid n4
  clear hD hF e1 e2 e3 e4 e5 e6 e7 e8 n1 n2 n3 n4
  go_enter Try.func21, Try.ntmps21
  go_wp2_with (first | (go_at_call 28; (with_reducible refine (proper_any a b c d true _ H1.out).mono ?_); rintro e w' ⟨rfl, rfl⟩) | (go_at_call 28; (with_reducible refine (proper_any a' b' c' d' true _ H2.out).mono ?_); rintro e w' ⟨rfl, rfl⟩))
  go_quiet (fail)
  go_wp2_with fail
  go_quiet (fail)
  go_wp2_with (first | (go_at_call 59; (with_reducible refine (fitted_any HF.out _).mono ?_); rintro e w3 ⟨rfl, hb⟩) | (go_at_call 24; (with_reducible refine (N1.out _).mono ?_); rintro e w' ⟨rfl, rfl⟩) | (go_at_call 24; (with_reducible refine (N2.out _).mono ?_); rintro e w' ⟨rfl, rfl⟩) | (go_at_call 24; (with_reducible refine (N3.out _).mono ?_); rintro e w' ⟨rfl, rfl⟩) | (go_at_call 24; (with_reducible refine (N4.out _).mono ?_); rintro e w' ⟨rfl, rfl⟩))
  go_ret
  exact ⟨rfl, bel_trans hb (by repeat (first | exact Below.refl _ _ | refine bel_drew ?_ | refine bel_alloc _ ?_ | refine bel_drewN _ ?_ | refine bel_trans (by assumption) ?_ | refine bel_set _ _ (by simp) ?_))⟩

set_option maxHeartbeats 8000000 in
set_option maxRecDepth 100000 in
theorem fitlaw_y_tt {a b c d a' b' c' d' x y X Y A B C D : Nat} (w : World) (H1 : Hid (properB a b c d = true)) (H2 : Hid (properB a' b' c' d' = true)) (hD : Diffs a b c d a' b' c' d' x y X Y) (f1 : eqf x y = false) (f2 : eqf X Y = false) (g1 : leqf x X = true) (g2 : leqf y Y = false) (t1 : gt x y = true) (t2 : gt X Y = true) 
    (hF : FitDoes a b c d a' b' c' d' true false A B C D 0) (q1 q2 sc k1 k2 k3 l1 l2 l3 : Nat) (e1 : floatBits .quo .f64 X x = some q1) (e2 : floatBits .quo .f64 Y y = some q2) (em : ∀ ts t w, (Builtin.min_ ts t #[.float .f64 q1, .float .f64 q2]).run Try.prog w = .ok (.float .f64 sc) w)
    (e3 : floatBits .mul .f64 x sc = some k1) (e4 : floatBits .sub .f64 X k1 = some k2) (e5 : floatBits .quo .f64 k2 w2 = some k3) (e6 : floatBits .mul .f64 y sc = some l1) (e7 : floatBits .sub .f64 Y l1 = some l2) (e8 : floatBits .quo .f64 l2 w2 = some l3)
    (n1 : NearT A k1) (n2 : NearT B l1) (n3 : NearT C k3) (n4 : NearT D l3) :
    Calls Try.prog 21 #[.agg #[.float .f64 a, .float .f64 b, .float .f64 c, .float .f64 d], .agg #[.float .f64 a', .float .f64 b', .float .f64 c', .float .f64 d'], .bool true, .bool false] w fun e w' => e = .returned (.bool true) ∧ Below w.heap.size w w' := by
  have o1 := run_bin (P := Try.prog) .sub hD.hx
  have o2 := run_bin (P := Try.prog) .sub hD.hy
  have o3 := run_bin (P := Try.prog) .sub hD.hX
  have o4 := run_bin (P := Try.prog) .sub hD.hY
  have HF := Lib.hid hF
  have p1 := run_bin (P := Try.prog) .quo e1
  have p2 := run_bin (P := Try.prog) .quo e2
  have p3 := run_bin (P := Try.prog) .mul e3
  have p4 := run_bin (P := Try.prog) .sub e4
  have p5 := run_bin (P := Try.prog) .quo e5
  have p6 := run_bin (P := Try.prog) .mul e6
  have p7 := run_bin (P := Try.prog) .sub e7
  have p8 := run_bin (P := Try.prog) .quo e8
  have z0 : (FloatKind.f64.format.order 0 0 == some Ordering.eq) = true := by decide +kernel
  have N1 := Lib.hid n1
  have N2 := Lib.hid n2
  have N3 := Lib.hid n3
  have N4 := Lib.hid n4
  clear hD hF e1 e2 e3 e4 e5 e6 e7 e8 n1 n2 n3 n4
  go_enter Try.func21, Try.ntmps21
  go_wp2_with (first | (go_at_call 28; (with_reducible refine (proper_any a b c d true _ H1.out).mono ?_); rintro e w' ⟨rfl, rfl⟩) | (go_at_call 28; (with_reducible refine (proper_any a' b' c' d' true _ H2.out).mono ?_); rintro e w' ⟨rfl, rfl⟩))
  go_quiet (fail)
  go_wp2_with fail
  go_quiet (fail)
  go_wp2_with (first | (go_at_call 59; (with_reducible refine (fitted_any HF.out _).mono ?_); rintro e w3 ⟨rfl, hb⟩) | (go_at_call 24; (with_reducible refine (N1.out _).mono ?_); rintro e w' ⟨rfl, rfl⟩) | (go_at_call 24; (with_reducible refine (N2.out _).mono ?_); rintro e w' ⟨rfl, rfl⟩) | (go_at_call 24; (with_reducible refine (N3.out _).mono ?_); rintro e w' ⟨rfl, rfl⟩) | (go_at_call 24; (with_reducible refine (N4.out _).mono ?_); rintro e w' ⟨rfl, rfl⟩))
  go_ret
  exact ⟨rfl, bel_trans hb (by repeat (first | exact Below.refl _ _ | refine bel_drew ?_ | refine bel_alloc _ ?_ | refine bel_drewN _ ?_ | refine bel_trans (by assumption) ?_ | refine bel_set _ _ (by simp) ?_))⟩

set_option maxHeartbeats 8000000 in
set_option maxRecDepth 100000 in
theorem fitlaw_y_ft {a b c d a' b' c' d' x y X Y A B C D : Nat} (w : World) (H1 : Hid (properB a b c d = true)) (H2 : Hid (properB a' b' c' d' = true)) (hD : Diffs a b c d a' b' c' d' x y X Y) (f1 : eqf x y = false) (f2 : eqf X Y = false) (g1 : leqf x X = true) (g2 : leqf y Y = false) (t1 : gt x y = false) (t2 : gt X Y = true) 
    (hF : FitDoes a b c d a' b' c' d' true false A B C D 4636033603912859648) (q1 q2 sc k1 k2 k3 l1 l2 l3 : Nat) (e1 : floatBits .quo .f64 Y x = some q1) (e2 : floatBits .quo .f64 X y = some q2) (em : ∀ ts t w, (Builtin.min_ ts t #[.float .f64 q1, .float .f64 q2]).run Try.prog w = .ok (.float .f64 sc) w)
    (e3 : floatBits .mul .f64 x sc = some k1) (e4 : floatBits .sub .f64 Y k1 = some k2) (e5 : floatBits .quo .f64 k2 w2 = some k3) (e6 : floatBits .mul .f64 y sc = some l1) (e7 : floatBits .sub .f64 X l1 = some l2) (e8 : floatBits .quo .f64 l2 w2 = some l3)
    (n1 : NearT A k1) (n2 : NearT B l1) (n3 : NearT C l3) (n4 : NearT D k3) :
    Calls Try.prog 21 #[.agg #[.float .f64 a, .float .f64 b, .float .f64 c, .float .f64 d], .agg #[.float .f64 a', .float .f64 b', .float .f64 c', .float .f64 d'], .bool true, .bool false] w fun e w' => e = .returned (.bool true) ∧ Below w.heap.size w w' := by
  have o1 := run_bin (P := Try.prog) .sub hD.hx
  have o2 := run_bin (P := Try.prog) .sub hD.hy
  have o3 := run_bin (P := Try.prog) .sub hD.hX
  have o4 := run_bin (P := Try.prog) .sub hD.hY
  have HF := Lib.hid hF
  have p1 := run_bin (P := Try.prog) .quo e1
  have p2 := run_bin (P := Try.prog) .quo e2
  have p3 := run_bin (P := Try.prog) .mul e3
  have p4 := run_bin (P := Try.prog) .sub e4
  have p5 := run_bin (P := Try.prog) .quo e5
  have p6 := run_bin (P := Try.prog) .mul e6
  have p7 := run_bin (P := Try.prog) .sub e7
  have p8 := run_bin (P := Try.prog) .quo e8
  have z0 : (FloatKind.f64.format.order 4636033603912859648 4636033603912859648 == some Ordering.eq) = true := by decide +kernel
  have N1 := Lib.hid n1
  have N2 := Lib.hid n2
  have N3 := Lib.hid n3
  have N4 := Lib.hid n4
  clear hD hF e1 e2 e3 e4 e5 e6 e7 e8 n1 n2 n3 n4
  go_enter Try.func21, Try.ntmps21
  go_wp2_with (first | (go_at_call 28; (with_reducible refine (proper_any a b c d true _ H1.out).mono ?_); rintro e w' ⟨rfl, rfl⟩) | (go_at_call 28; (with_reducible refine (proper_any a' b' c' d' true _ H2.out).mono ?_); rintro e w' ⟨rfl, rfl⟩))
  go_quiet (fail)
  go_wp2_with fail
  go_quiet (fail)
  go_wp2_with (first | (go_at_call 59; (with_reducible refine (fitted_any HF.out _).mono ?_); rintro e w3 ⟨rfl, hb⟩) | (go_at_call 24; (with_reducible refine (N1.out _).mono ?_); rintro e w' ⟨rfl, rfl⟩) | (go_at_call 24; (with_reducible refine (N2.out _).mono ?_); rintro e w' ⟨rfl, rfl⟩) | (go_at_call 24; (with_reducible refine (N3.out _).mono ?_); rintro e w' ⟨rfl, rfl⟩) | (go_at_call 24; (with_reducible refine (N4.out _).mono ?_); rintro e w' ⟨rfl, rfl⟩))
  go_ret
  exact ⟨rfl, bel_trans hb (by repeat (first | exact Below.refl _ _ | refine bel_drew ?_ | refine bel_alloc _ ?_ | refine bel_drewN _ ?_ | refine bel_trans (by assumption) ?_ | refine bel_set _ _ (by simp) ?_))⟩

set_option maxHeartbeats 8000000 in
set_option maxRecDepth 100000 in
theorem fitlaw_y_tf {a b c d a' b' c' d' x y X Y A B C D : Nat} (w : World) (H1 : Hid (properB a b c d = true)) (H2 : Hid (properB a' b' c' d' = true)) (hD : Diffs a b c d a' b' c' d' x y X Y) (f1 : eqf x y = false) (f2 : eqf X Y = false) (g1 : leqf x X = true) (g2 : leqf y Y = false) (t1 : gt x y = true) (t2 : gt X Y = false) 
    (hF : FitDoes a b c d a' b' c' d' true false A B C D 4636033603912859648) (q1 q2 sc k1 k2 k3 l1 l2 l3 : Nat) (e1 : floatBits .quo .f64 Y x = some q1) (e2 : floatBits .quo .f64 X y = some q2) (em : ∀ ts t w, (Builtin.min_ ts t #[.float .f64 q1, .float .f64 q2]).run Try.prog w = .ok (.float .f64 sc) w)
    (e3 : floatBits .mul .f64 x sc = some k1) (e4 : floatBits .sub .f64 Y k1 = some k2) (e5 : floatBits .quo .f64 k2 w2 = some k3) (e6 : floatBits .mul .f64 y sc = some l1) (e7 : floatBits .sub .f64 X l1 = some l2) (e8 : floatBits .quo .f64 l2 w2 = some l3)
    (n1 : NearT A k1) (n2 : NearT B l1) (n3 : NearT C l3) (n4 : NearT D k3) :
    Calls Try.prog 21 #[.agg #[.float .f64 a, .float .f64 b, .float .f64 c, .float .f64 d], .agg #[.float .f64 a', .float .f64 b', .float .f64 c', .float .f64 d'], .bool true, .bool false] w fun e w' => e = .returned (.bool true) ∧ Below w.heap.size w w' := by
  have o1 := run_bin (P := Try.prog) .sub hD.hx
  have o2 := run_bin (P := Try.prog) .sub hD.hy
  have o3 := run_bin (P := Try.prog) .sub hD.hX
  have o4 := run_bin (P := Try.prog) .sub hD.hY
  have HF := Lib.hid hF
  have p1 := run_bin (P := Try.prog) .quo e1
  have p2 := run_bin (P := Try.prog) .quo e2
  have p3 := run_bin (P := Try.prog) .mul e3
  have p4 := run_bin (P := Try.prog) .sub e4
  have p5 := run_bin (P := Try.prog) .quo e5
  have p6 := run_bin (P := Try.prog) .mul e6
  have p7 := run_bin (P := Try.prog) .sub e7
  have p8 := run_bin (P := Try.prog) .quo e8
  have z0 : (FloatKind.f64.format.order 4636033603912859648 4636033603912859648 == some Ordering.eq) = true := by decide +kernel
  have N1 := Lib.hid n1
  have N2 := Lib.hid n2
  have N3 := Lib.hid n3
  have N4 := Lib.hid n4
  clear hD hF e1 e2 e3 e4 e5 e6 e7 e8 n1 n2 n3 n4
  go_enter Try.func21, Try.ntmps21
  go_wp2_with (first | (go_at_call 28; (with_reducible refine (proper_any a b c d true _ H1.out).mono ?_); rintro e w' ⟨rfl, rfl⟩) | (go_at_call 28; (with_reducible refine (proper_any a' b' c' d' true _ H2.out).mono ?_); rintro e w' ⟨rfl, rfl⟩))
  go_quiet (fail)
  go_wp2_with fail
  go_quiet (fail)
  go_wp2_with (first | (go_at_call 59; (with_reducible refine (fitted_any HF.out _).mono ?_); rintro e w3 ⟨rfl, hb⟩) | (go_at_call 24; (with_reducible refine (N1.out _).mono ?_); rintro e w' ⟨rfl, rfl⟩) | (go_at_call 24; (with_reducible refine (N2.out _).mono ?_); rintro e w' ⟨rfl, rfl⟩) | (go_at_call 24; (with_reducible refine (N3.out _).mono ?_); rintro e w' ⟨rfl, rfl⟩) | (go_at_call 24; (with_reducible refine (N4.out _).mono ?_); rintro e w' ⟨rfl, rfl⟩))
  go_ret
  exact ⟨rfl, bel_trans hb (by repeat (first | exact Below.refl _ _ | refine bel_drew ?_ | refine bel_alloc _ ?_ | refine bel_drewN _ ?_ | refine bel_trans (by assumption) ?_ | refine bel_set _ _ (by simp) ?_))⟩

end Go.Proofs.Ytooghncdhjdcpaa
