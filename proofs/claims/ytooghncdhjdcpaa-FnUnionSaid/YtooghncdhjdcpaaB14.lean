/-
The law FnUnion: its functions walked. Conditions: the comparisons' answers are given.
-/
import Derived.Test.YtooghncdhjdcpaaA6
import Derived.Test.YtooghncdhjdcpaaFx
namespace Go.Proofs.Ytooghncdhjdcpaa
open Go.RowKit Fl

/-- The greater and the less of two by a told comparison. -/
abbrev pick (b : Bool) (x y : Nat) : Nat := if b then x else y

set_option maxHeartbeats 4000000 in
theorem around_point {g a b c d x y : Nat} (b1 b2 b3 b4 : Bool) (w : World) (hr : RectAt w g a b c d)
    (o1 : (FloatKind.f64.format.order x a == some Ordering.lt) = b1) (o2 : (FloatKind.f64.format.order x c == some Ordering.gt) = b2)
    (o3 : (FloatKind.f64.format.order y b == some Ordering.lt) = b3) (o4 : (FloatKind.f64.format.order y d == some Ordering.gt) = b4)
    (n1 : b1 = true → b2 = false) (n2 : b3 = true → b4 = false) :
    Calls Try.prog 104 #[.pointer (some ⟨g, 0, none⟩), .agg #[.float .f64 x, .float .f64 y]] w (IsRect (pick b1 x a) (pick b3 y b) (pick b2 x c) (pick b4 y d) w) := by
  obtain ⟨g0, g1, g2, g3, g4⟩ := hr
  unfold IsRect pick
  cases b1 <;> cases b2 <;> cases b3 <;> cases b4 <;> simp at n1 n2 <;> clear n1 n2
  all_goals
    go_enter Try.func104, Try.ntmps104
    go_wp2_with fail
    repeat (go_quiet (fail); go_wp2_with (go_at_call 98; go_in))
    go_ret
    exact ⟨_, rfl, rectAt_new _ _ _ _ _ _ _ (by simp), (by repeat (first | exact Below.refl _ _ | refine bel_drew ?_ | refine bel_alloc _ ?_ | refine bel_drewN _ ?_ | refine bel_trans (by assumption) ?_ | refine bel_set _ _ (by simp) ?_))⟩

set_option maxHeartbeats 1000000 in
theorem bound_any {g h a b c d e f p q A B C D A' B' C' D' : Nat} (w : World) (hg : RectAt w g a b c d) (hh : RectAt w h e f p q)
    (H1 : ∀ W g, RectAt W g a b c d → Calls Try.prog 104 #[.pointer (some ⟨g, 0, none⟩), .agg #[.float .f64 e, .float .f64 f]] W (IsRect A B C D W))
    (H2 : ∀ W g, RectAt W g A B C D → Calls Try.prog 104 #[.pointer (some ⟨g, 0, none⟩), .agg #[.float .f64 p, .float .f64 q]] W (IsRect A' B' C' D' W)) :
    Calls Try.prog 79 #[.pointer (some ⟨g, 0, none⟩), .pointer (some ⟨h, 0, none⟩)] w (IsRect A' B' C' D' w) := by
  have K1 := Lib.hid H1
  have K2 := Lib.hid H2
  have hG := Lib.hid hg
  have hH := Lib.hid hh
  obtain ⟨z0, z1, z2, z3, z4⟩ := hh
  clear H1 H2 hg
  unfold IsRect
  go_enter Try.func79, Try.ntmps79
  go_wp2_with (first
    | (go_at_call_of 104 (.agg #[.float .f64 e, .float .f64 f] : Value); refine (K1.out _ _ hG.out).mono ?_; rintro e w1 ⟨g1, rfl, hr1, hb1⟩; have hR1 := Lib.hid hr1; obtain ⟨y0, y1, y2, y3, y4⟩ := hH.out.below hb1; clear hr1)
    | (go_at_call_of 104 (.agg #[.float .f64 p, .float .f64 q] : Value); refine (K2.out _ _ hR1.out).mono ?_; rintro e w2 ⟨g2, rfl, hr2, hb2⟩))
  go_ret
  exact ⟨_, rfl, hr2, (by repeat (first | exact Below.refl _ _ | refine bel_drew ?_ | refine bel_alloc _ ?_ | refine bel_drewN _ ?_ | refine bel_trans (by assumption) ?_ | refine bel_set _ _ (by simp) ?_))⟩

theorem kept8_set {w W : World} {n g : Nat} {v0 v1 v2 v3 u0 u1 u2 u3 v : Value} (p : Addr) (hn : n ≠ p.block) (hg : g ≠ p.block) (hp : w.heap.size ≤ p.block) (h : Kept8 w n v0 v1 v2 v3 g u0 u1 u2 u3 W) : Kept8 w n v0 v1 v2 v3 g u0 u1 u2 u3 (W.setCell p v) := by
  obtain ⟨hb, h1, h2, h3, h4, h5, h6, h7, h8, h9, h10⟩ := h
  refine ⟨hb.setCell hp v, by simpa using h1, ?_, ?_, ?_, ?_, by simpa using h6, ?_, ?_, ?_, ?_⟩
  all_goals rw [World.cell?_setCell_other (h := by intro h; first | exact hn (congrArg Addr.block h).symm | exact hg (congrArg Addr.block h).symm)]; assumption

set_option linter.unusedSimpArgs false in
set_option maxHeartbeats 4000000 in
theorem union_any {a b c d e f p q A B C D : Nat} (w : World)
    (h : ∀ W g h, RectAt W g a b c d → RectAt W h e f p q → Calls Try.prog 79 #[.pointer (some ⟨g, 0, none⟩), .pointer (some ⟨h, 0, none⟩)] W (IsRect A B C D W)) :
    Calls Try.prog 45 #[.agg #[.float .f64 a, .float .f64 b, .float .f64 c, .float .f64 d], .agg #[.float .f64 e, .float .f64 f, .float .f64 p, .float .f64 q]] w fun e w' => e = .returned (.agg #[.float .f64 A, .float .f64 B, .float .f64 C, .float .f64 D]) ∧ Below w.heap.size w w' := by
  have H := Lib.hid h
  clear h
  go_enter Try.func45, Try.ntmps45
  go_wp2_with fail
  refine wp_region_noPanic ?_
  refine wp_region_held_drew (S := (fun w' => Below w.heap.size w w' ∧ w.heap.size < w'.heap.size ∧ w'.cell? ⟨w.heap.size, 0, none⟩ = some (.float .f64 a) ∧ w'.cell? ⟨w.heap.size, 1, none⟩ = some (.float .f64 b) ∧ w'.cell? ⟨w.heap.size, 2, none⟩ = some (.float .f64 c) ∧ w'.cell? ⟨w.heap.size, 3, none⟩ = some (.float .f64 d) ∧ w.heap.size + 1 < w'.heap.size ∧ w'.cell? ⟨w.heap.size + 1, 0, none⟩ = some (.float .f64 e) ∧ w'.cell? ⟨w.heap.size + 1, 1, none⟩ = some (.float .f64 f) ∧ w'.cell? ⟨w.heap.size + 1, 2, none⟩ = some (.float .f64 p) ∧ w'.cell? ⟨w.heap.size + 1, 3, none⟩ = some (.float .f64 q))) (by kernel_rfl) ?_ (fun hHeld => ?_)
  · (try dsimp only); (first | assumption | exact keep8 (by assumption) (by assumption) | (repeat (first | exact kept8_arg _ (by assumption) | exact kept8_two _ _ | refine kept8_drew ?_ | refine kept8_alloc _ ?_ | refine keep8 ?_ (by assumption))))
  refine wpAnyH_take (i := 0) (v := ?v0) rfl (by kernel_rfl) (by kernel_rfl) (by kernel_rfl) (fun _ _ _ h => h) (Or.inl ⟨by rfl, ?y0⟩) (by assumption) ?r0
  case y0 => (intro w hSw; (try dsimp only at hSw); go_simp; try with_reducible rfl)
  try simp only [List.getElem_toArray, List.getElem_cons_zero, List.getElem_cons_succ, Act.put, List.setIfInBounds_toArray, List.set_cons_zero, List.set_cons_succ]
  refine wpAnyH_take (i := 2) (v := ?v2) rfl (by kernel_rfl) (by kernel_rfl) (by kernel_rfl) (fun _ _ _ h => h) (Or.inl ⟨by rfl, ?y2⟩) (by assumption) ?r2
  case y2 => (intro w hSw; (try dsimp only at hSw); go_simp; try with_reducible rfl)
  try simp only [List.getElem_toArray, List.getElem_cons_zero, List.getElem_cons_succ, Act.put, List.setIfInBounds_toArray, List.set_cons_zero, List.set_cons_succ]
  refine wpAnyH_ready (rs := [1]) (by kernel_rfl) (by simp) (AllReadyH.cons rfl (fun K hK => ?_) AllReadyH.nil)
  go_simp
  (first
      | (go_at_call_of 67 (.agg #[.float .f64 a, .float .f64 b, .float .f64 c, .float .f64 d] : Value); refine (rect_any a b c d _).mono ?_; rintro e w1 ⟨g1, rfl, hr1, hb1⟩; have hB := (blank4_below (n := w.heap.size + 2) (v0 := .float .f64 0) (v1 := .float .f64 0) (v2 := .float .f64 0) (v3 := .float .f64 0) (by repeat (first | exact blank4_base _ _ _ _ _ _ _ (by simp) | refine blank4_drew ?_ | refine blank4_alloc _ ?_ | refine blank4_below ?_ (by assumption))) hb1))
      | (go_at_call_of 67 (.agg #[.float .f64 e, .float .f64 f, .float .f64 p, .float .f64 q] : Value); refine (rect_any e f p q _).mono ?_; rintro e w2 ⟨g2, rfl, hr2, hb2⟩; have hR1 := hr1.below hb2; have hB2 := blank4_below hB hb2)
      | (go_at_call 79; refine (H.out _ _ _ hR1 hr2).mono ?_; rintro e w3 ⟨g3, rfl, hr3, hb3⟩; have hB3 := blank4_below hB2 hb3)
      | (go_at_call 66; refine (told_any _ hr3).mono ?_; rintro e w4 ⟨rfl, hb4⟩; have hB4 := blank4_below hB3 hb4))
  refine hK.out _ _ ?_ (fun hHeld => ?_)
  · (try dsimp only); (first | assumption | exact keep8 (by assumption) (by assumption) | (repeat (first | exact kept8_arg _ (by assumption) | exact kept8_two _ _ | refine kept8_drew ?_ | refine kept8_alloc _ ?_ | refine keep8 ?_ (by assumption))))
  clear hK K
  try simp only [List.getElem_toArray, List.getElem_cons_zero, List.getElem_cons_succ, Act.put, List.setIfInBounds_toArray, List.set_cons_zero, List.set_cons_succ]
  refine wpAnyH_ready (rs := [3]) (by kernel_rfl) (by simp) (AllReadyH.cons rfl (fun K hK => ?_) AllReadyH.nil)
  go_simp
  (first
      | (go_at_call_of 67 (.agg #[.float .f64 a, .float .f64 b, .float .f64 c, .float .f64 d] : Value); refine (rect_any a b c d _).mono ?_; rintro e w1 ⟨g1, rfl, hr1, hb1⟩; have hB := (blank4_below (n := w.heap.size + 2) (v0 := .float .f64 0) (v1 := .float .f64 0) (v2 := .float .f64 0) (v3 := .float .f64 0) (by repeat (first | exact blank4_base _ _ _ _ _ _ _ (by simp) | refine blank4_drew ?_ | refine blank4_alloc _ ?_ | refine blank4_below ?_ (by assumption))) hb1))
      | (go_at_call_of 67 (.agg #[.float .f64 e, .float .f64 f, .float .f64 p, .float .f64 q] : Value); refine (rect_any e f p q _).mono ?_; rintro e w2 ⟨g2, rfl, hr2, hb2⟩; have hR1 := hr1.below hb2; have hB2 := blank4_below hB hb2)
      | (go_at_call 79; refine (H.out _ _ _ hR1 hr2).mono ?_; rintro e w3 ⟨g3, rfl, hr3, hb3⟩; have hB3 := blank4_below hB2 hb3)
      | (go_at_call 66; refine (told_any _ hr3).mono ?_; rintro e w4 ⟨rfl, hb4⟩; have hB4 := blank4_below hB3 hb4))
  refine hK.out _ _ ?_ (fun hHeld => ?_)
  · (try dsimp only); (first | assumption | exact keep8 (by assumption) (by assumption) | (repeat (first | exact kept8_arg _ (by assumption) | exact kept8_two _ _ | refine kept8_drew ?_ | refine kept8_alloc _ ?_ | refine keep8 ?_ (by assumption))))
  clear hK K
  try simp only [List.getElem_toArray, List.getElem_cons_zero, List.getElem_cons_succ, Act.put, List.setIfInBounds_toArray, List.set_cons_zero, List.set_cons_succ]
  refine wpAnyH_ready (rs := [4]) (by kernel_rfl) (by simp) (AllReadyH.cons rfl (fun K hK => ?_) AllReadyH.nil)
  go_simp
  (first
      | (go_at_call_of 67 (.agg #[.float .f64 a, .float .f64 b, .float .f64 c, .float .f64 d] : Value); refine (rect_any a b c d _).mono ?_; rintro e w1 ⟨g1, rfl, hr1, hb1⟩; have hB := (blank4_below (n := w.heap.size + 2) (v0 := .float .f64 0) (v1 := .float .f64 0) (v2 := .float .f64 0) (v3 := .float .f64 0) (by repeat (first | exact blank4_base _ _ _ _ _ _ _ (by simp) | refine blank4_drew ?_ | refine blank4_alloc _ ?_ | refine blank4_below ?_ (by assumption))) hb1))
      | (go_at_call_of 67 (.agg #[.float .f64 e, .float .f64 f, .float .f64 p, .float .f64 q] : Value); refine (rect_any e f p q _).mono ?_; rintro e w2 ⟨g2, rfl, hr2, hb2⟩; have hR1 := hr1.below hb2; have hB2 := blank4_below hB hb2)
      | (go_at_call 79; refine (H.out _ _ _ hR1 hr2).mono ?_; rintro e w3 ⟨g3, rfl, hr3, hb3⟩; have hB3 := blank4_below hB2 hb3)
      | (go_at_call 66; refine (told_any _ hr3).mono ?_; rintro e w4 ⟨rfl, hb4⟩; have hB4 := blank4_below hB3 hb4))
  refine hK.out _ _ ?_ (fun hHeld => ?_)
  · (try dsimp only); (first | assumption | exact keep8 (by assumption) (by assumption) | (repeat (first | exact kept8_arg _ (by assumption) | exact kept8_two _ _ | refine kept8_drew ?_ | refine kept8_alloc _ ?_ | refine keep8 ?_ (by assumption))))
  clear hK K
  try simp only [List.getElem_toArray, List.getElem_cons_zero, List.getElem_cons_succ, Act.put, List.setIfInBounds_toArray, List.set_cons_zero, List.set_cons_succ]
  refine wpAnyH_ready (rs := [5]) (by kernel_rfl) (by simp) (AllReadyH.cons rfl (fun K hK => ?_) AllReadyH.nil)
  go_simp
  (first
      | (go_at_call_of 67 (.agg #[.float .f64 a, .float .f64 b, .float .f64 c, .float .f64 d] : Value); refine (rect_any a b c d _).mono ?_; rintro e w1 ⟨g1, rfl, hr1, hb1⟩; have hB := (blank4_below (n := w.heap.size + 2) (v0 := .float .f64 0) (v1 := .float .f64 0) (v2 := .float .f64 0) (v3 := .float .f64 0) (by repeat (first | exact blank4_base _ _ _ _ _ _ _ (by simp) | refine blank4_drew ?_ | refine blank4_alloc _ ?_ | refine blank4_below ?_ (by assumption))) hb1))
      | (go_at_call_of 67 (.agg #[.float .f64 e, .float .f64 f, .float .f64 p, .float .f64 q] : Value); refine (rect_any e f p q _).mono ?_; rintro e w2 ⟨g2, rfl, hr2, hb2⟩; have hR1 := hr1.below hb2; have hB2 := blank4_below hB hb2)
      | (go_at_call 79; refine (H.out _ _ _ hR1 hr2).mono ?_; rintro e w3 ⟨g3, rfl, hr3, hb3⟩; have hB3 := blank4_below hB2 hb3)
      | (go_at_call 66; refine (told_any _ hr3).mono ?_; rintro e w4 ⟨rfl, hb4⟩; have hB4 := blank4_below hB3 hb4))
  refine hK.out _ _ ?_ (fun hHeld => ?_)
  · (try dsimp only); (first | assumption | exact keep8 (by assumption) (by assumption) | (repeat (first | exact kept8_arg _ (by assumption) | exact kept8_two _ _ | refine kept8_drew ?_ | refine kept8_alloc _ ?_ | refine keep8 ?_ (by assumption))))
  clear hK K
  try simp only [List.getElem_toArray, List.getElem_cons_zero, List.getElem_cons_succ, Act.put, List.setIfInBounds_toArray, List.set_cons_zero, List.set_cons_succ]
  obtain ⟨z0, z1, z2, z3, z4, z5, z6, z7, z8⟩ := hB4
  refine wpAnyH_ready (rs := [6]) (by kernel_rfl) (by simp) (AllReadyH.cons rfl (fun K hK => ?_) AllReadyH.nil)
  go_simp
  refine hK.out _ _ ?_ (fun hHeld => ?_)
  · (try dsimp only)
    repeat (first | assumption | refine kept8_set _ (by first | (simp; done) | (simp; omega)) (by first | (simp; done) | (simp; omega)) (by first | (simp; done) | (simp; omega)) ?_)
  clear hK K
  refine wpAnyH_done (by kernel_rfl) ?_ _
  refine NoPanic.normal ?_
  go_wp2
  exact bodyPost_ret (v := .agg #[.float .f64 A, .float .f64 B, .float .f64 C, .float .f64 D]) (by simp [results, Try.results45, go_sem, z0, z1, z2, z3, z4]) rfl ⟨rfl, hHeld.1⟩

end Go.Proofs.Ytooghncdhjdcpaa
