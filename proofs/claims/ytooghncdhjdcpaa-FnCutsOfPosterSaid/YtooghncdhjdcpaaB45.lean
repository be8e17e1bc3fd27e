/-
FnCutsOfPoster: where the law does not ask. No condition.
-/
import Derived.Test.YtooghncdhjdcpaaB44
namespace Go.Proofs.Ytooghncdhjdcpaa
open Go.RowKit Fl

set_option maxRecDepth 100000 in
set_option maxHeartbeats 4000000 in
theorem poster_far (x y P Q : Nat) (w : World) (h : [x, y, P, Q].all smallB = false ∨ ltp x 4607182418800017408 = true ∨ ltp y 4607182418800017408 = true ∨ leqp P 0 = true ∨ leqp Q 0 = true ∨ gtp P x = true ∨ gtp Q y = true) : Calls Try.prog 19 #[.float .f64 x, .float .f64 y, pt P Q] w fun e w' => e = .returned (.bool true) ∧ Below w.heap.size w w' := by
  cases h0 : [x, y, P, Q].all smallB
  · have HS := Lib.hid h0
    clear h h0
    try unfold ltp at *
    try unfold leqp at *
    try unfold gtp at *
    go_enter Try.func19, Try.ntmps19
    go_wp2_with (go_at_call 22; refine (small_at [x, y, P, Q] false _ _ (by simp) HS.out (by simp)).mono ?_; rintro e w' ⟨rfl, rfl⟩)
    go_ret
    exact ⟨rfl, below2 _ _ _⟩
  have HS := Lib.hid h0
  rw [h0] at h
  clear h0
  rcases Bool.eq_false_or_eq_true (ltp x 4607182418800017408) with f0 | f0
  · clear h
    try unfold ltp at *
    try unfold leqp at *
    try unfold gtp at *
    go_enter Try.func19, Try.ntmps19
    go_wp2_with (go_at_call 22; refine (small_at [x, y, P, Q] true _ _ (by simp) HS.out (by simp)).mono ?_; rintro e w' ⟨rfl, rfl⟩)
    go_ret
    exact ⟨rfl, below2 _ _ _⟩
  rcases Bool.eq_false_or_eq_true (ltp y 4607182418800017408) with f1 | f1
  · clear h
    try unfold ltp at *
    try unfold leqp at *
    try unfold gtp at *
    go_enter Try.func19, Try.ntmps19
    go_wp2_with (go_at_call 22; refine (small_at [x, y, P, Q] true _ _ (by simp) HS.out (by simp)).mono ?_; rintro e w' ⟨rfl, rfl⟩)
    go_ret
    exact ⟨rfl, below2 _ _ _⟩
  rcases Bool.eq_false_or_eq_true (leqp P 0) with f2 | f2
  · clear h
    try unfold ltp at *
    try unfold leqp at *
    try unfold gtp at *
    go_enter Try.func19, Try.ntmps19
    go_wp2_with (go_at_call 22; refine (small_at [x, y, P, Q] true _ _ (by simp) HS.out (by simp)).mono ?_; rintro e w' ⟨rfl, rfl⟩)
    go_ret
    exact ⟨rfl, below2 _ _ _⟩
  rcases Bool.eq_false_or_eq_true (leqp Q 0) with f3 | f3
  · clear h
    try unfold ltp at *
    try unfold leqp at *
    try unfold gtp at *
    go_enter Try.func19, Try.ntmps19
    go_wp2_with (go_at_call 22; refine (small_at [x, y, P, Q] true _ _ (by simp) HS.out (by simp)).mono ?_; rintro e w' ⟨rfl, rfl⟩)
    go_ret
    exact ⟨rfl, below2 _ _ _⟩
  rcases Bool.eq_false_or_eq_true (gtp P x) with f4 | f4
  · clear h
    try unfold ltp at *
    try unfold leqp at *
    try unfold gtp at *
    go_enter Try.func19, Try.ntmps19
    go_wp2_with (go_at_call 22; refine (small_at [x, y, P, Q] true _ _ (by simp) HS.out (by simp)).mono ?_; rintro e w' ⟨rfl, rfl⟩)
    go_ret
    exact ⟨rfl, below2 _ _ _⟩
  rcases Bool.eq_false_or_eq_true (gtp Q y) with f5 | f5
  · clear h
    try unfold ltp at *
    try unfold leqp at *
    try unfold gtp at *
    go_enter Try.func19, Try.ntmps19
    go_wp2_with (go_at_call 22; refine (small_at [x, y, P, Q] true _ _ (by simp) HS.out (by simp)).mono ?_; rintro e w' ⟨rfl, rfl⟩)
    go_ret
    exact ⟨rfl, below2 _ _ _⟩
  exfalso
  rcases h with h | h | h | h | h | h | h
  · cases h
  · rw [f0] at h; cases h
  · rw [f1] at h; cases h
  · rw [f2] at h; cases h
  · rw [f3] at h; cases h
  · rw [f4] at h; cases h
  · rw [f5] at h; cases h
set_option maxRecDepth 100000 in
set_option maxHeartbeats 4000000 in
theorem poster_far1 (x y P Q q1 : Nat) (w : World) (hs : [x, y, P, Q].all smallB = true) (f0 : ltp x 4607182418800017408 = false) (f1 : ltp y 4607182418800017408 = false) (f2 : leqp P 0 = false) (f3 : leqp Q 0 = false) (f4 : gtp P x = false) (f5 : gtp Q y = false) (e1 : floatBits .quo .f64 x P = some q1) (g : gtp q1 4632233691727265792 = true) : Calls Try.prog 19 #[.float .f64 x, .float .f64 y, pt P Q] w fun e w' => e = .returned (.bool true) ∧ Below w.heap.size w w' := by
  have HS := Lib.hid hs
  have o1 := run_bin (P := Try.prog) .quo e1
  clear hs e1
  try unfold ltp at *
  try unfold leqp at *
  try unfold gtp at *
  go_enter Try.func19, Try.ntmps19
  go_wp2_with (go_at_call 22; refine (small_at [x, y, P, Q] true _ _ (by simp) HS.out (by simp)).mono ?_; rintro e w' ⟨rfl, rfl⟩)
  go_ret
  exact ⟨rfl, below2 _ _ _⟩
set_option maxRecDepth 100000 in
set_option maxHeartbeats 4000000 in
theorem poster_far2 (x y P Q q1 q2 : Nat) (w : World) (hs : [x, y, P, Q].all smallB = true) (f0 : ltp x 4607182418800017408 = false) (f1 : ltp y 4607182418800017408 = false) (f2 : leqp P 0 = false) (f3 : leqp Q 0 = false) (f4 : gtp P x = false) (f5 : gtp Q y = false) (e1 : floatBits .quo .f64 x P = some q1) (g : gtp q1 4632233691727265792 = false) (e2 : floatBits .quo .f64 y Q = some q2) (g2 : gtp q2 4632233691727265792 = true) : Calls Try.prog 19 #[.float .f64 x, .float .f64 y, pt P Q] w fun e w' => e = .returned (.bool true) ∧ Below w.heap.size w w' := by
  have HS := Lib.hid hs
  have o1 := run_bin (P := Try.prog) .quo e1
  have o2 := run_bin (P := Try.prog) .quo e2
  clear hs e1 e2
  try unfold ltp at *
  try unfold leqp at *
  try unfold gtp at *
  go_enter Try.func19, Try.ntmps19
  go_wp2_with (go_at_call 22; refine (small_at [x, y, P, Q] true _ _ (by simp) HS.out (by simp)).mono ?_; rintro e w' ⟨rfl, rfl⟩)
  go_ret
  exact ⟨rfl, below2 _ _ _⟩
end Go.Proofs.Ytooghncdhjdcpaa
