/-
The law FnMultiplied: its own function walked. Conditions: the words of the products and sums; Near and nearWide say yes.
-/
import Derived.Test.YtooghncdhjdcpaaB19
import Derived.Deep.DeepCutAuto
import Derived.Tactics2
namespace Go.Proofs.Ytooghncdhjdcpaa
open Go.RowKit Fl

theorem PtAt.keep3 {w w' : World} {b x y : Nat} (h : PtAt w b x y) (hb : Below w.heap.size w w') (l : b < w.heap.size) : PtAt w' b x y := h.old hb l
/-- What the blocks hold. -/
structure MulS (w : World) (px py : Nat) (A B P : Nat → Nat) (g : Nat) (W : World) : Prop where
  below : Below w.heap.size w W
  a : MatAt W w.heap.size A
  b : MatAt W (w.heap.size + 1) B
  p : PtAt W (w.heap.size + 1 + 1) px py
  m : MatAt W g P
  size : g < W.heap.size
  more : w.heap.size + 1 + 1 < W.heap.size
theorem MulS.keep {w W W' : World} {px py : Nat} {A B P : Nat → Nat} {g : Nat} (h : MulS w px py A B P g W) (hb : Below W.heap.size W W') : MulS w px py A B P g W' := by
  have hs := hb.size
  have h1 := h.size
  have h2 := h.more
  exact ⟨h.below.trans (hb.mono h.below.size), h.a.old hb (by omega), h.b.old hb (by omega), h.p.old hb h2, h.m.old hb h1, by omega, by omega⟩
theorem mat_cells {w : World} {b : Nat} {X : Nat → Nat} (h : MatAt w b X) : w.cell? ⟨b, 0, none⟩ = some (.float .f64 (X 0)) ∧ w.cell? ⟨b, 1, none⟩ = some (.float .f64 (X 1)) ∧ w.cell? ⟨b, 2, none⟩ = some (.float .f64 (X 2)) ∧ w.cell? ⟨b, 3, none⟩ = some (.float .f64 (X 3)) ∧ w.cell? ⟨b, 4, none⟩ = some (.float .f64 (X 4)) ∧ w.cell? ⟨b, 5, none⟩ = some (.float .f64 (X 5)) ∧ w.cell? ⟨b, 6, none⟩ = some (.float .f64 (X 6)) ∧ w.cell? ⟨b, 7, none⟩ = some (.float .f64 (X 7)) ∧ w.cell? ⟨b, 8, none⟩ = some (.float .f64 (X 8)) :=
  ⟨(h 0 (by omega)).1, (h 1 (by omega)).1, (h 2 (by omega)).1, (h 3 (by omega)).1, (h 4 (by omega)).1, (h 5 (by omega)).1, (h 6 (by omega)).1, (h 7 (by omega)).1, (h 8 (by omega)).1⟩
theorem wp_abs {P : Program} {c : Code} {Q : Exit → Act → World → Prop} {a : Act} {W : World} (S : World → Prop) (hs : S W) (h : ∀ w', S w' → c.wp P Q a w') : c.wp P Q a W := h W hs
theorem near2 (x y : Nat) (h1 : NearT x x) (h2 : NearT y y) (w : World) : Calls Try.prog 26 #[pt x y, pt x y] w fun e w' => e = .returned (.bool true) ∧ Below w.heap.size w w' :=
  (nearpair x y x y w h1 h2).mono fun _ _ ⟨he, hw⟩ => ⟨he, hw ▸ below2 _ _ _⟩
/-- Until the matrices and the point are boxed. -/
theorem mul_start (w : World) (A B : Nat → Nat) (px py : Nat) : MatAt (((w.alloc (.cells #[.float .f64 (A 0), .float .f64 (A 1), .float .f64 (A 2), .float .f64 (A 3), .float .f64 (A 4), .float .f64 (A 5), .float .f64 (A 6), .float .f64 (A 7), .float .f64 (A 8)] 43)).alloc (.cells #[.float .f64 (B 0), .float .f64 (B 1), .float .f64 (B 2), .float .f64 (B 3), .float .f64 (B 4), .float .f64 (B 5), .float .f64 (B 6), .float .f64 (B 7), .float .f64 (B 8)] 43)).alloc (.cells #[.float .f64 px, .float .f64 py] 28)) w.heap.size A ∧
    MatAt (((w.alloc (.cells #[.float .f64 (A 0), .float .f64 (A 1), .float .f64 (A 2), .float .f64 (A 3), .float .f64 (A 4), .float .f64 (A 5), .float .f64 (A 6), .float .f64 (A 7), .float .f64 (A 8)] 43)).alloc (.cells #[.float .f64 (B 0), .float .f64 (B 1), .float .f64 (B 2), .float .f64 (B 3), .float .f64 (B 4), .float .f64 (B 5), .float .f64 (B 6), .float .f64 (B 7), .float .f64 (B 8)] 43)).alloc (.cells #[.float .f64 px, .float .f64 py] 28)) (w.heap.size + 1) B ∧
    PtAt (((w.alloc (.cells #[.float .f64 (A 0), .float .f64 (A 1), .float .f64 (A 2), .float .f64 (A 3), .float .f64 (A 4), .float .f64 (A 5), .float .f64 (A 6), .float .f64 (A 7), .float .f64 (A 8)] 43)).alloc (.cells #[.float .f64 (B 0), .float .f64 (B 1), .float .f64 (B 2), .float .f64 (B 3), .float .f64 (B 4), .float .f64 (B 5), .float .f64 (B 6), .float .f64 (B 7), .float .f64 (B 8)] 43)).alloc (.cells #[.float .f64 px, .float .f64 py] 28)) (w.heap.size + 1 + 1) px py := by
  refine ⟨?_, ?_, ?_⟩
  · exact (((MatAt.new w A 43).old (below1 _ _) (by simp)).old (below1 _ _) (by simp <;> omega))
  · exact (((MatAt.new _ B 43).at (by simp)).old (below1 _ _) (by simp))
  · exact (PtAt.new _ px py 28).at (by simp)

set_option maxHeartbeats 2000000 in
theorem mul_far (A B : Nat → Nat) (px py : Nat) (w : World) (hv : affB A = false ∨ affB B = false ∨ [px, py].all smallB = false) :
    Calls Try.prog 8 #[matV A, matV B, pt px py] w fun e w' => e = .returned (.bool true) ∧ Below w.heap.size w w' := by
  by_cases h1 : affB A = false
  · have H1 := Lib.hid h1
    clear h1 hv
    go_enter Try.func8, Try.ntmps8
    go_wp2_with (go_at_call 32; refine (affine_any A _).mono ?_; rintro e w1 ⟨he, hb⟩; rw [H1.out] at he; subst he)
    go_ret
    exact ⟨rfl, (below3 _ _ _ _).trans (hb.mono (by simp <;> omega))⟩
  have H1 : Hid (affB A = true) := Lib.hid (by simpa using h1)
  by_cases h2 : affB B = false
  · have H2 := Lib.hid h2
    clear h1 h2 hv
    obtain ⟨m1, m2, m3⟩ := mul_start w A B px py
    have M := Lib.hid m2
    clear m1 m2 m3
    go_enter Try.func8, Try.ntmps8
    go_wp2_with fail
    go_at_call 32
    refine (affine_any A _).mono ?_
    rintro e w1 ⟨he, hb⟩
    rw [H1.out] at he
    subst he
    obtain ⟨k0, k1, k2, k3, k4, k5, k6, k7, k8⟩ := mat_cells (M.out.old hb (by simp <;> omega))
    have HB := Lib.hid hb
    clear hb
    go_wp2_with (go_at_call 32; refine (affine_any B _).mono ?_; rintro e w2 ⟨he, hb2⟩; rw [H2.out] at he; subst he)
    go_ret
    exact ⟨rfl, ((below3 _ _ _ _).trans (HB.out.mono (by simp <;> omega))).trans (hb2.mono (by have := HB.out.size; simp at this; omega))⟩
  have H2 : Hid (affB B = true) := Lib.hid (by simpa using h2)
  have H3 : Hid ([px, py].all smallB = false) := Lib.hid (by rcases hv with h | h | h; exact absurd h h1; exact absurd h h2; exact h)
  clear h1 h2 hv
  obtain ⟨m1, m2, m3⟩ := mul_start w A B px py
  have M := Lib.hid m2
  have P := Lib.hid m3
  clear m1 m2 m3
  go_enter Try.func8, Try.ntmps8
  go_wp2_with fail
  go_at_call 32
  refine (affine_any A _).mono ?_
  rintro e w1 ⟨he, hb⟩
  rw [H1.out] at he
  subst he
  obtain ⟨k0, k1, k2, k3, k4, k5, k6, k7, k8⟩ := mat_cells (M.out.old hb (by simp <;> omega))
  have P1 := Lib.hid (P.out.old hb (by simp <;> omega))
  have HB := Lib.hid hb
  have hz : w.heap.size + 1 + 1 < w1.heap.size := by have := hb.size; simp at this; omega
  clear hb
  go_wp2_with fail
  go_at_call 32
  refine (affine_any B _).mono ?_
  rintro e w2 ⟨he, hb2⟩
  rw [H2.out] at he
  subst he
  clear k0 k1 k2 k3 k4 k5 k6 k7 k8
  obtain ⟨k0, k1, _, _⟩ := P1.out.old hb2 (by omega)
  have HB2 := Lib.hid hb2
  clear hb2
  go_wp2_with (go_at_call 22; refine (small_at [px, py] false _ _ (by simp) H3.out (by simp)).mono ?_; rintro e w' ⟨rfl, rfl⟩)
  go_ret
  exact ⟨rfl, bel_alloc _ (((below3 _ _ _ _).trans (HB.out.mono (by simp <;> omega))).trans (HB2.out.mono (by omega)))⟩

set_option linter.unusedSimpArgs false in
set_option maxHeartbeats 8000000 in
set_option maxRecDepth 100000 in
theorem mul_near (A B : Nat → Nat) (px py : Nat) (m s : Nat → Nat → Nat → Nat) (hM : Mul3 A B m s) (cx cy ax ay bx byy a1 a2 a3 a4 a5 a6 b1 b2 b3 b4 b5 b6 c1 c2 c3 c4 c5 c6 : Nat)
    (hA1 : Tr1 A 0 px py ax a1 a2 a3) (hA2 : Tr1 A 1 px py ay a4 a5 a6) (hB1 : Tr1 B 0 ax ay bx b1 b2 b3) (hB2 : Tr1 B 1 ax ay byy b4 b5 b6) (hC1 : Tr1 (prodM s) 0 px py cx c1 c2 c3) (hC2 : Tr1 (prodM s) 1 px py cy c4 c5 c6)
    (hN : ∀ o, o < 9 → NearT (prodM s o) (prodM s o)) (hN1 : NearT ax ax) (hN2 : NearT ay ay) (hW1 : NearW cx bx) (hW2 : NearW cy byy) (w : World) (h1 : affB A = true) (h2 : affB B = true) (h3 : [px, py].all smallB = true) :
    Calls Try.prog 8 #[matV A, matV B, pt px py] w fun e w' => e = .returned (.bool true) ∧ Below w.heap.size w w' := by
  have H := Lib.hid hM
  have H1 := Lib.hid h1
  have H2 := Lib.hid h2
  have H3 := Lib.hid h3
  have A1 := Lib.hid hA1
  have A2 := Lib.hid hA2
  have B1 := Lib.hid hB1
  have B2 := Lib.hid hB2
  have C1 := Lib.hid hC1
  have C2 := Lib.hid hC2
  have HN := Lib.hid hN
  have N1 := Lib.hid hN1
  have N2 := Lib.hid hN2
  have W1 := Lib.hid hW1
  have W2 := Lib.hid hW2
  clear hM h1 h2 h3 hA1 hA2 hB1 hB2 hC1 hC2 hN hN1 hN2 hW1 hW2
  obtain ⟨m1, m2, m3⟩ := mul_start w A B px py
  have M0 := Lib.hid m1
  have M := Lib.hid m2
  have P := Lib.hid m3
  clear m1 m2 m3
  go_enter Try.func8, Try.ntmps8
  go_wp2_with fail
  go_at_call 32
  refine (affine_any A _).mono ?_
  rintro e w1 ⟨he, hb⟩
  rw [H1.out] at he
  subst he
  have M1 := Lib.hid (M0.out.old hb (by simp <;> omega))
  have M2 := Lib.hid (M.out.old hb (by simp <;> omega))
  obtain ⟨k0, k1, k2, k3, k4, k5, k6, k7, k8⟩ := mat_cells M2.out
  have P1 := Lib.hid (P.out.old hb (by simp <;> omega))
  have HB : Hid (Below w.heap.size w w1) := Lib.hid ((below3 _ _ _ _).trans (hb.mono (by simp <;> omega)))
  have hz : w.heap.size + 1 + 1 < w1.heap.size := by have := hb.size; simp at this; omega
  clear hb M0 M P
  go_wp2_with fail
  go_at_call 32
  refine (affine_any B _).mono ?_
  rintro e w2 ⟨he, hb2⟩
  rw [H2.out] at he
  subst he
  clear k0 k1 k2 k3 k4 k5 k6 k7 k8
  have M3 := Lib.hid (M1.out.old hb2 (by omega))
  have M4 := Lib.hid (M2.out.old hb2 (by omega))
  have P2 := Lib.hid (P1.out.old hb2 (by omega))
  have HB2 : Hid (Below w.heap.size w w2) := Lib.hid (HB.out.trans (hb2.mono HB.out.size))
  have hz2 : w.heap.size + 1 + 1 < w2.heap.size := by have := hb2.size; omega
  clear hb2 M1 M2 P1 HB hz
  have hz0 : w.heap.size < w2.heap.size := by omega
  have hz1 : w.heap.size + 1 < w2.heap.size := by omega
  obtain ⟨k0, k1, _, _⟩ := P2.out
  obtain ⟨i0, i1, i2, i3, i4, i5, i6, i7, i8⟩ := mat_cells M3.out
  obtain ⟨j0, j1, j2, j3, j4, j5, j6, j7, j8⟩ := mat_cells M4.out
  go_wp2_with (first | (go_at_call 22; refine (small_at [px, py] true _ _ (by simp) H3.out (by simp)).mono ?_; rintro e w' ⟨rfl, rfl⟩) | (go_at_call 33; refine (multiplied A B m s H.out _).mono ?_; rintro e w3 ⟨rfl, hb3⟩))
  have hz3 : w2.heap.size + 1 ≤ w3.heap.size := by simpa using hb3.size
  have hF : MulS w px py A B (prodM s) w3.heap.size (w3.alloc (Obj.cells #[.float .f64 (prodM s 0), .float .f64 (prodM s 1), .float .f64 (prodM s 2), .float .f64 (prodM s 3), .float .f64 (prodM s 4), .float .f64 (prodM s 5), .float .f64 (prodM s 6), .float .f64 (prodM s 7), .float .f64 (prodM s 8)] 43)) := by
    have hb4 := (below1 w2 _).trans (hb3.mono (by simp))
    have hb5 := hb4.trans ((below1 w3 (Obj.cells #[.float .f64 (prodM s 0), .float .f64 (prodM s 1), .float .f64 (prodM s 2), .float .f64 (prodM s 3), .float .f64 (prodM s 4), .float .f64 (prodM s 5), .float .f64 (prodM s 6), .float .f64 (prodM s 7), .float .f64 (prodM s 8)] 43)).mono hb4.size)
    exact ⟨HB2.out.trans (hb5.mono HB2.out.size), M3.out.old hb5 (by omega), M4.out.old hb5 (by omega), P2.out.old hb5 hz2, MatAt.new _ _ _, by simp, by simp; omega⟩
  refine wp_abs (MulS w px py A B (prodM s) w3.heap.size) hF ?_
  clear hF hb3 hz2 hz3 k0 k1 i0 i1 i2 i3 i4 i5 i6 i7 i8 j0 j1 j2 j3 j4 j5 j6 j7 j8 M3 M4 P2 HB2
  generalize w3.heap.size = g
  intro W hF
  refine wp_region_held_drew (S := MulS w px py A B (prodM s) g) (by kernel_rfl) ?_ (fun hHeld => ?_)
  · exact hF.keep (Below.refl _ _).drew
  refine wpAnyH_take (i := 0) (v := matV (prodM s)) rfl (by kernel_rfl) (by kernel_rfl) (by kernel_rfl) (fun _ _ _ h => h) (Or.inl ⟨by rfl, ?y1⟩) (by assumption) ?r1
  case y1 =>
    intro w1 hSw
    obtain ⟨k0, k1, k2, k3, k4, k5, k6, k7, k8⟩ := mat_cells hSw.m
    go_simp
    try with_reducible rfl
  try simp only [List.getElem_toArray, List.getElem_cons_zero, List.getElem_cons_succ, Act.put, List.setIfInBounds_toArray, List.set_cons_zero, List.set_cons_succ]
  refine wpAnyH_take (i := 1) (v := matV A) rfl (by kernel_rfl) (by kernel_rfl) (by kernel_rfl) (fun _ _ _ h => h) (Or.inl ⟨by rfl, ?y2⟩) (by assumption) ?r2
  case y2 =>
    intro w1 hSw
    obtain ⟨k0, k1, k2, k3, k4, k5, k6, k7, k8⟩ := mat_cells hSw.a
    go_simp
    try with_reducible rfl
  try simp only [List.getElem_toArray, List.getElem_cons_zero, List.getElem_cons_succ, Act.put, List.setIfInBounds_toArray, List.set_cons_zero, List.set_cons_succ]
  refine wpAnyH_take (i := 2) (v := matV B) rfl (by kernel_rfl) (by kernel_rfl) (by kernel_rfl) (fun _ _ _ h => h) (Or.inl ⟨by rfl, ?y3⟩) (by assumption) ?r3
  case y3 =>
    intro w1 hSw
    obtain ⟨k0, k1, k2, k3, k4, k5, k6, k7, k8⟩ := mat_cells hSw.b
    go_simp
    try with_reducible rfl
  try simp only [List.getElem_toArray, List.getElem_cons_zero, List.getElem_cons_succ, Act.put, List.setIfInBounds_toArray, List.set_cons_zero, List.set_cons_succ]
  refine wpAnyH_ready (rs := [3]) (by kernel_rfl) (by simp) (AllReadyH.cons rfl (fun K hK => ?_) AllReadyH.nil)
  go_simp
  go_at_call 35
  refine (times A B m s H.out _).mono ?_
  rintro e V1 ⟨rfl, hb1⟩
  refine hK.out _ _ (hHeld.keep hb1) (fun hHeld => ?_)
  clear hK K
  clear hb1
  try simp only [List.getElem_toArray, List.getElem_cons_zero, List.getElem_cons_succ, Act.put, List.setIfInBounds_toArray, List.set_cons_zero, List.set_cons_succ]
  refine wpAnyH_ready (rs := [4]) (by kernel_rfl) (by simp) (AllReadyH.cons rfl (fun K hK => ?_) AllReadyH.nil)
  go_simp
  go_at_call 34
  refine (nearMatrix (prodM s) (prodM s) HN.out _).mono ?_
  rintro e V2 ⟨rfl, hb2⟩
  refine hK.out _ _ (hHeld.keep hb2) (fun hHeld => ?_)
  clear hK K
  clear hb2
  try simp only [List.getElem_toArray, List.getElem_cons_zero, List.getElem_cons_succ, Act.put, List.setIfInBounds_toArray, List.set_cons_zero, List.set_cons_succ]
  refine wpAnyH_take (i := 5) (v := .bool true) rfl (by kernel_rfl) (by kernel_rfl) (by kernel_rfl) (fun _ _ _ h => h) (Or.inl ⟨by rfl, ?y4⟩) (by assumption) ?r4
  case y4 =>
    intro w1 hSw
    go_simp
    try with_reducible rfl
  try simp only [List.getElem_toArray, List.getElem_cons_zero, List.getElem_cons_succ, Act.put, List.setIfInBounds_toArray, List.set_cons_zero, List.set_cons_succ]
  refine wpAnyH_take (i := 6) (v := matV (prodM s)) rfl (by kernel_rfl) (by kernel_rfl) (by kernel_rfl) (fun _ _ _ h => h) (Or.inl ⟨by rfl, ?y5⟩) (by assumption) ?r5
  case y5 =>
    intro w1 hSw
    obtain ⟨k0, k1, k2, k3, k4, k5, k6, k7, k8⟩ := mat_cells hSw.m
    go_simp
    try with_reducible rfl
  try simp only [List.getElem_toArray, List.getElem_cons_zero, List.getElem_cons_succ, Act.put, List.setIfInBounds_toArray, List.set_cons_zero, List.set_cons_succ]
  refine wpAnyH_take (i := 7) (v := pt px py) rfl (by kernel_rfl) (by kernel_rfl) (by kernel_rfl) (fun _ _ _ h => h) (Or.inl ⟨by rfl, ?y6⟩) (by assumption) ?r6
  case y6 =>
    intro w1 hSw
    obtain ⟨k0, k1, _, _⟩ := hSw.p
    go_simp
    try with_reducible rfl
  try simp only [List.getElem_toArray, List.getElem_cons_zero, List.getElem_cons_succ, Act.put, List.setIfInBounds_toArray, List.set_cons_zero, List.set_cons_succ]
  refine wpAnyH_take (i := 9) (v := matV B) rfl (by kernel_rfl) (by kernel_rfl) (by kernel_rfl) (fun _ _ _ h => h) (Or.inl ⟨by rfl, ?y7⟩) (by assumption) ?r7
  case y7 =>
    intro w1 hSw
    obtain ⟨k0, k1, k2, k3, k4, k5, k6, k7, k8⟩ := mat_cells hSw.b
    go_simp
    try with_reducible rfl
  try simp only [List.getElem_toArray, List.getElem_cons_zero, List.getElem_cons_succ, Act.put, List.setIfInBounds_toArray, List.set_cons_zero, List.set_cons_succ]
  refine wpAnyH_take (i := 10) (v := matV A) rfl (by kernel_rfl) (by kernel_rfl) (by kernel_rfl) (fun _ _ _ h => h) (Or.inl ⟨by rfl, ?y8⟩) (by assumption) ?r8
  case y8 =>
    intro w1 hSw
    obtain ⟨k0, k1, k2, k3, k4, k5, k6, k7, k8⟩ := mat_cells hSw.a
    go_simp
    try with_reducible rfl
  try simp only [List.getElem_toArray, List.getElem_cons_zero, List.getElem_cons_succ, Act.put, List.setIfInBounds_toArray, List.set_cons_zero, List.set_cons_succ]
  refine wpAnyH_take (i := 11) (v := pt px py) rfl (by kernel_rfl) (by kernel_rfl) (by kernel_rfl) (fun _ _ _ h => h) (Or.inl ⟨by rfl, ?y9⟩) (by assumption) ?r9
  case y9 =>
    intro w1 hSw
    obtain ⟨k0, k1, _, _⟩ := hSw.p
    go_simp
    try with_reducible rfl
  try simp only [List.getElem_toArray, List.getElem_cons_zero, List.getElem_cons_succ, Act.put, List.setIfInBounds_toArray, List.set_cons_zero, List.set_cons_succ]
  refine wpAnyH_ready (rs := [8]) (by kernel_rfl) (by simp) (AllReadyH.cons rfl (fun K hK => ?_) AllReadyH.nil)
  go_simp
  go_at_call 37
  refine (transformed (prodM s) px py cx cy c1 c2 c3 c4 c5 c6 C1.out C2.out _).mono ?_
  rintro e V3 ⟨rfl, hb3⟩
  refine hK.out _ _ (hHeld.keep hb3) (fun hHeld => ?_)
  clear hK K
  clear hb3
  try simp only [List.getElem_toArray, List.getElem_cons_zero, List.getElem_cons_succ, Act.put, List.setIfInBounds_toArray, List.set_cons_zero, List.set_cons_succ]
  refine wpAnyH_ready (rs := [12]) (by kernel_rfl) (by simp) (AllReadyH.cons rfl (fun K hK => ?_) AllReadyH.nil)
  go_simp
  go_at_call 37
  refine (transformed A px py ax ay a1 a2 a3 a4 a5 a6 A1.out A2.out _).mono ?_
  rintro e V4 ⟨rfl, hb4⟩
  refine hK.out _ _ (hHeld.keep hb4) (fun hHeld => ?_)
  clear hK K
  clear hb4
  try simp only [List.getElem_toArray, List.getElem_cons_zero, List.getElem_cons_succ, Act.put, List.setIfInBounds_toArray, List.set_cons_zero, List.set_cons_succ]
  refine wpAnyH_ready (rs := [13]) (by kernel_rfl) (by simp) (AllReadyH.cons rfl (fun K hK => ?_) AllReadyH.nil)
  go_simp
  go_at_call 37
  refine (transformed B ax ay bx byy b1 b2 b3 b4 b5 b6 B1.out B2.out _).mono ?_
  rintro e V5 ⟨rfl, hb5⟩
  refine hK.out _ _ (hHeld.keep hb5) (fun hHeld => ?_)
  clear hK K
  clear hb5
  try simp only [List.getElem_toArray, List.getElem_cons_zero, List.getElem_cons_succ, Act.put, List.setIfInBounds_toArray, List.set_cons_zero, List.set_cons_succ]
  refine wpAnyH_ready (rs := [14]) (by kernel_rfl) (by simp) (AllReadyH.cons rfl (fun K hK => ?_) AllReadyH.nil)
  go_simp
  go_at_call 36
  refine (nearWide cx cy bx byy W1.out W2.out _).mono ?_
  rintro e V6 ⟨rfl, hb6⟩
  refine hK.out _ _ (hHeld.keep hb6) (fun hHeld => ?_)
  clear hK K
  clear hb6
  try simp only [List.getElem_toArray, List.getElem_cons_zero, List.getElem_cons_succ, Act.put, List.setIfInBounds_toArray, List.set_cons_zero, List.set_cons_succ]
  refine wpAnyH_take (i := 15) (v := .bool true) rfl (by kernel_rfl) (by kernel_rfl) (by kernel_rfl) (fun _ _ _ h => h) (Or.inl ⟨by rfl, ?y10⟩) (by assumption) ?r10
  case y10 =>
    intro w1 hSw
    go_simp
    try with_reducible rfl
  try simp only [List.getElem_toArray, List.getElem_cons_zero, List.getElem_cons_succ, Act.put, List.setIfInBounds_toArray, List.set_cons_zero, List.set_cons_succ]
  refine wpAnyH_take (i := 16) (v := .bool true) rfl (by kernel_rfl) (by kernel_rfl) (by kernel_rfl) (fun _ _ _ h => h) (Or.inl ⟨by rfl, ?y11⟩) (by assumption) ?r11
  case y11 =>
    intro w1 hSw
    go_simp
    try with_reducible rfl
  try simp only [List.getElem_toArray, List.getElem_cons_zero, List.getElem_cons_succ, Act.put, List.setIfInBounds_toArray, List.set_cons_zero, List.set_cons_succ]
  refine wpAnyH_take (i := 17) (v := matV A) rfl (by kernel_rfl) (by kernel_rfl) (by kernel_rfl) (fun _ _ _ h => h) (Or.inl ⟨by rfl, ?y12⟩) (by assumption) ?r12
  case y12 =>
    intro w1 hSw
    obtain ⟨k0, k1, k2, k3, k4, k5, k6, k7, k8⟩ := mat_cells hSw.a
    go_simp
    try with_reducible rfl
  try simp only [List.getElem_toArray, List.getElem_cons_zero, List.getElem_cons_succ, Act.put, List.setIfInBounds_toArray, List.set_cons_zero, List.set_cons_succ]
  refine wpAnyH_take (i := 18) (v := pt px py) rfl (by kernel_rfl) (by kernel_rfl) (by kernel_rfl) (fun _ _ _ h => h) (Or.inl ⟨by rfl, ?y13⟩) (by assumption) ?r13
  case y13 =>
    intro w1 hSw
    obtain ⟨k0, k1, _, _⟩ := hSw.p
    go_simp
    try with_reducible rfl
  try simp only [List.getElem_toArray, List.getElem_cons_zero, List.getElem_cons_succ, Act.put, List.setIfInBounds_toArray, List.set_cons_zero, List.set_cons_succ]
  refine wpAnyH_take (i := 20) (v := matV A) rfl (by kernel_rfl) (by kernel_rfl) (by kernel_rfl) (fun _ _ _ h => h) (Or.inl ⟨by rfl, ?y14⟩) (by assumption) ?r14
  case y14 =>
    intro w1 hSw
    obtain ⟨k0, k1, k2, k3, k4, k5, k6, k7, k8⟩ := mat_cells hSw.a
    go_simp
    try with_reducible rfl
  try simp only [List.getElem_toArray, List.getElem_cons_zero, List.getElem_cons_succ, Act.put, List.setIfInBounds_toArray, List.set_cons_zero, List.set_cons_succ]
  refine wpAnyH_take (i := 21) (v := pt px py) rfl (by kernel_rfl) (by kernel_rfl) (by kernel_rfl) (fun _ _ _ h => h) (Or.inl ⟨by rfl, ?y15⟩) (by assumption) ?r15
  case y15 =>
    intro w1 hSw
    obtain ⟨k0, k1, _, _⟩ := hSw.p
    go_simp
    try with_reducible rfl
  try simp only [List.getElem_toArray, List.getElem_cons_zero, List.getElem_cons_succ, Act.put, List.setIfInBounds_toArray, List.set_cons_zero, List.set_cons_succ]
  refine wpAnyH_ready (rs := [19]) (by kernel_rfl) (by simp) (AllReadyH.cons rfl (fun K hK => ?_) AllReadyH.nil)
  go_simp
  go_at_call 37
  refine (transformed A px py ax ay a1 a2 a3 a4 a5 a6 A1.out A2.out _).mono ?_
  rintro e V7 ⟨rfl, hb7⟩
  refine hK.out _ _ (hHeld.keep hb7) (fun hHeld => ?_)
  clear hK K
  clear hb7
  try simp only [List.getElem_toArray, List.getElem_cons_zero, List.getElem_cons_succ, Act.put, List.setIfInBounds_toArray, List.set_cons_zero, List.set_cons_succ]
  refine wpAnyH_ready (rs := [22]) (by kernel_rfl) (by simp) (AllReadyH.cons rfl (fun K hK => ?_) AllReadyH.nil)
  go_simp
  go_at_call 38
  refine (moved A px py ax ay a1 a2 a3 a4 a5 a6 A1.out A2.out _).mono ?_
  rintro e V8 ⟨rfl, hb8⟩
  refine hK.out _ _ (hHeld.keep hb8) (fun hHeld => ?_)
  clear hK K
  clear hb8
  try simp only [List.getElem_toArray, List.getElem_cons_zero, List.getElem_cons_succ, Act.put, List.setIfInBounds_toArray, List.set_cons_zero, List.set_cons_succ]
  refine wpAnyH_ready (rs := [23]) (by kernel_rfl) (by simp) (AllReadyH.cons rfl (fun K hK => ?_) AllReadyH.nil)
  go_simp
  go_at_call 26
  refine (near2 ax ay N1.out N2.out _).mono ?_
  rintro e V9 ⟨rfl, hb9⟩
  refine hK.out _ _ (hHeld.keep hb9) (fun hHeld => ?_)
  clear hK K
  clear hb9
  try simp only [List.getElem_toArray, List.getElem_cons_zero, List.getElem_cons_succ, Act.put, List.setIfInBounds_toArray, List.set_cons_zero, List.set_cons_succ]
  refine wpAnyH_take (i := 24) (v := .bool true) rfl (by kernel_rfl) (by kernel_rfl) (by kernel_rfl) (fun _ _ _ h => h) (Or.inl ⟨by rfl, ?y16⟩) (by assumption) ?r16
  case y16 =>
    intro w1 hSw
    go_simp
    try with_reducible rfl
  try simp only [List.getElem_toArray, List.getElem_cons_zero, List.getElem_cons_succ, Act.put, List.setIfInBounds_toArray, List.set_cons_zero, List.set_cons_succ]
  refine wpAnyH_ready (rs := [25]) (by kernel_rfl) (by simp) (AllReadyH.cons rfl (fun K hK => ?_) AllReadyH.nil)
  go_simp
  refine hK.out _ _ (by assumption) (fun hHeld2 => ?_)
  clear hK K
  refine wpAnyH_done (by kernel_rfl) ?_ _
  go_wp2_with fail
  go_ret
  exact ⟨rfl, hHeld2.below⟩
end Go.Proofs.Ytooghncdhjdcpaa
