/-
The law FnTurned: its own function walked. Conditions: the words of the products and sums; the variables hold what their texts say.
-/
import Derived.Test.YthjbaeipdjoenaaDoorT1
import Derived.Deep.DeepCutAuto
import Derived.Tactics2
namespace Go.Proofs.YthjbaeipdjoenaaDoor
open Go.RowKit Fl

theorem turned_far (n : Int) (dx dy px py qx qy : Nat) (w : World) (hn : n < -720 ∨ 720 < n ∨ [dx, dy, px, py, qx, qy].all smallB = false) :
    Calls Tryd.prog 5 #[.int .i64 n, .float .f64 dx, .float .f64 dy, pt px py, pt qx qy] w fun e w' => e = .returned (.bool true) ∧ Below w.heap.size w w' := by
  by_cases h1 : n < -720
  · have d1 : decide (n < -720) = true := by simpa using h1
    clear hn
    go_enter Tryd.func5, Tryd.ntmps5
    go_wp2_with fail
    go_ret
    exact ⟨rfl, (below1 _ _).alloc (by simp) _⟩
  have d1 : decide (n < -720) = false := by simpa using h1
  by_cases h2 : 720 < n
  · have d2 : decide (720 < n) = true := by simpa using h2
    clear hn
    go_enter Tryd.func5, Tryd.ntmps5
    go_wp2_with fail
    go_ret
    exact ⟨rfl, (below1 _ _).alloc (by simp) _⟩
  have d2 : decide (720 < n) = false := by simpa using h2
  have HS : Hid ([dx, dy, px, py, qx, qy].all smallB = false) := Lib.hid (by rcases hn with h | h | h; exact absurd h h1; exact absurd h h2; exact h)
  clear hn
  go_enter Tryd.func5, Tryd.ntmps5
  go_wp2_with (go_at_call 6; refine (small_at [dx, dy, px, py, qx, qy] false _ _ (by simp) HS.out (by simp)).mono ?_; rintro e w' ⟨rfl, rfl⟩)
  go_ret
  exact ⟨rfl, ((below1 _ _).alloc (by simp) _).alloc (by simp <;> omega) _⟩

theorem PtAt.far {w : World} {b b' o x y : Nat} {z : Value} (h : PtAt w b x y) (e : b ≠ b') : PtAt (w.setCell ⟨b', o, none⟩ z) b x y :=
  ⟨(World.cell?_setCell_other w ⟨b', o, none⟩ ⟨b, 0, none⟩ _ (by intro c; exact e (congrArg Addr.block c).symm)).trans h.1, (World.cell?_setCell_other w ⟨b', o, none⟩ ⟨b, 1, none⟩ _ (by intro c; exact e (congrArg Addr.block c).symm)).trans h.2.1, (World.frozen?_setCell w _ _ _).trans h.2.2.1, (World.frozen?_setCell w _ _ _).trans h.2.2.2⟩
theorem PtAt.put {w : World} {b u v x y : Nat} (h : PtAt w b u v) : PtAt ((w.setCell ⟨b, 0, none⟩ (.float .f64 x)).setCell ⟨b, 1, none⟩ (.float .f64 y)) b x y := by
  have k1 : (w.setCell ⟨b, 0, none⟩ (.float .f64 x)).cell? ⟨b, 1, none⟩ = some (.float .f64 v) := (World.cell?_setCell_other w ⟨b, 0, none⟩ ⟨b, 1, none⟩ _ (by intro c; have := congrArg Addr.off c; simp at this)).trans h.2.1
  exact ⟨(World.cell?_setCell_other _ ⟨b, 1, none⟩ ⟨b, 0, none⟩ _ (by intro c; have := congrArg Addr.off c; simp at this)).trans (World.cell?_setCell_same w _ _ h.1), World.cell?_setCell_same _ _ _ k1, ((World.frozen?_setCell _ _ _ _).trans (World.frozen?_setCell w _ _ _)).trans h.2.2.1, ((World.frozen?_setCell _ _ _ _).trans (World.frozen?_setCell w _ _ _)).trans h.2.2.2⟩
/-- What the points' and the matrix's blocks hold. -/
structure Held5 (w : World) (g px py qx qy : Nat) (X : Nat → Nat) (W : World) : Prop where
  below : Below w.heap.size w W
  p : PtAt W w.heap.size px py
  q : PtAt W (w.heap.size + 1) qx qy
  m : MatAt W g X
  size : g < W.heap.size
  more : w.heap.size + 1 < W.heap.size
theorem Held5.keep {w W W' : World} {g px py qx qy : Nat} {X : Nat → Nat} (h : Held5 w g px py qx qy X W) (hb : Below W.heap.size W W') : Held5 w g px py qx qy X W' := by
  have hs := hb.size
  have h6 := h.more
  exact ⟨h.below.trans (hb.mono h.below.size), h.p.old hb (by omega), h.q.old hb h6, h.m.old hb h.size, by have := h.size; omega, by omega⟩

theorem Held5.set {w W : World} {g px py qx qy : Nat} {X : Nat → Nat} (h : Held5 w g px py qx qy X W) {b o : Nat} {v : Value} (hb : b ≠ w.heap.size ∧ b ≠ w.heap.size + 1 ∧ b ≠ g ∧ w.heap.size ≤ b) : Held5 w g px py qx qy X (W.setCell ⟨b, o, none⟩ v) :=
  ⟨h.below.setCell hb.2.2.2 _, h.p.far hb.1.symm, h.q.far hb.2.1.symm, h.m.far hb.2.2.1.symm, by simpa using h.size, by simpa using h.more⟩
theorem mat_cells {w : World} {b : Nat} {X : Nat → Nat} (h : MatAt w b X) : w.cell? ⟨b, 0, none⟩ = some (.float .f64 (X 0)) ∧ w.cell? ⟨b, 1, none⟩ = some (.float .f64 (X 1)) ∧ w.cell? ⟨b, 2, none⟩ = some (.float .f64 (X 2)) ∧ w.cell? ⟨b, 3, none⟩ = some (.float .f64 (X 3)) ∧ w.cell? ⟨b, 4, none⟩ = some (.float .f64 (X 4)) ∧ w.cell? ⟨b, 5, none⟩ = some (.float .f64 (X 5)) ∧ w.cell? ⟨b, 6, none⟩ = some (.float .f64 (X 6)) ∧ w.cell? ⟨b, 7, none⟩ = some (.float .f64 (X 7)) ∧ w.cell? ⟨b, 8, none⟩ = some (.float .f64 (X 8)) :=
  ⟨(h 0 (by omega)).1, (h 1 (by omega)).1, (h 2 (by omega)).1, (h 3 (by omega)).1, (h 4 (by omega)).1, (h 5 (by omega)).1, (h 6 (by omega)).1, (h 7 (by omega)).1, (h 8 (by omega)).1⟩
/-- The words of the end: how far the points are, before and behind. -/
structure FarW (px py qx qy far a b c : Nat) : Prop where
  s1 : fs px qx = some a
  m1 : fm a a = some b
  s2 : ∃ d, fs py qy = some d ∧ fm d d = some c
  a : fa b c = some far
structure EndW (far now : Nat) : Prop where
  one : ∃ d e f, fs far now = some d ∧ fa 4607182418800017408 far = some e ∧ fm 4517329193108106637 e = some f ∧ (FloatKind.f64.format.order d f == some Ordering.lt || FloatKind.f64.format.order d f == some Ordering.eq) = true
  two : ∃ d e f, fs now far = some d ∧ fa 4607182418800017408 far = some e ∧ fm 4517329193108106637 e = some f ∧ (FloatKind.f64.format.order d f == some Ordering.lt || FloatKind.f64.format.order d f == some Ordering.eq) = true
/-- What the fifth statement leaves. -/
def Fin4 (w : World) (px py qx qy ax ay bx byy : Nat) (s12 s13 : Value) (wx : World) : Prop :=
  ∃ b1 b2, s12 = .pointer (some ⟨b1, 0, none⟩) ∧ s13 = .pointer (some ⟨b2, 0, none⟩) ∧ Below w.heap.size w wx ∧ PtAt wx w.heap.size px py ∧ PtAt wx (w.heap.size + 1) qx qy ∧ PtAt wx b1 ax ay ∧ PtAt wx b2 bx byy

set_option linter.unusedSimpArgs false in
set_option maxHeartbeats 8000000 in
set_option maxRecDepth 100000 in
theorem turned_near {n : Int} {x s c : Nat} {q a b : Rat} (h : Turn n x s c q a b) (dx dy px py qx qy : Nat) (m s1 m2 s2 : Nat → Nat → Nat → Nat) (ax ay bx byy a1 a2 a3 a4 a5 a6 b1 b2 b3 b4 b5 b6 far now f1 f2 f3 n1 n2 n3 : Nat) (hA1 : Tr1 (prodM s2) 0 px py ax a1 a2 a3) (hA2 : Tr1 (prodM s2) 1 px py ay a4 a5 a6) (hB1 : Tr1 (prodM s2) 0 qx qy bx b1 b2 b3) (hB2 : Tr1 (prodM s2) 1 qx qy byy b4 b5 b6)
    (hFar : FarW px py qx qy far f1 f2 f3) (hNow : FarW ax ay bx byy now n1 n2 n3) (hEnd : EndW far now) (h1 : Mul3 (scaleM one1 one1) (turnM s (Op.negFloat .f64 s) c) m s1) (h2 : Mul3 (prodM s1) (moveM dx dy) m2 s2) (w : World) (hV : Vars3 w)
    (hn1 : ¬ n < -720) (hn2 : ¬ 720 < n) (hs : [dx, dy, px, py, qx, qy].all smallB = true) :
    Calls Tryd.prog 5 #[.int .i64 n, .float .f64 dx, .float .f64 dy, pt px py, pt qx qy] w fun e w' => e = .returned (.bool true) ∧ Below w.heap.size w w' := by
  have d1 : decide (n < -720) = false := by simpa using hn1
  have d2 : decide (720 < n) = false := by simpa using hn2
  have HS := Lib.hid hs
  have H := Lib.hid h
  have H1 := Lib.hid h1
  have H2 := Lib.hid h2
  have HV : Hid (∀ w', Below w.heap.size w w' → Vars3 w') := Lib.hid fun w' hb => hV.old hb
  have A1 := Lib.hid hA1
  have A2 := Lib.hid hA2
  have B1 := Lib.hid hB1
  have B2 := Lib.hid hB2
  have HFar := Lib.hid hFar
  have HNow := Lib.hid hNow
  have HEnd := Lib.hid hEnd
  clear h1 h2 hV h hs hA1 hA2 hB1 hB2 hFar hNow hEnd
  go_enter Tryd.func5, Tryd.ntmps5
  go_upto_region 4 with (first | (go_at_call 6; refine (small_at [dx, dy, px, py, qx, qy] true _ _ (by simp) HS.out (by simp)).mono ?_; rintro e w' ⟨rfl, rfl⟩) | (go_at_call 12; refine (rotated H.out dx dy m s1 m2 s2 H1.out H2.out _ (HV.out _ (((below1 _ _).alloc (by simp) _).alloc (by simp <;> omega) _))).mono ?_; rintro e w' ⟨rfl, hb⟩))
  have hF : Held5 w w'.heap.size px py qx qy (prodM s2) (w'.alloc (Obj.cells #[.float .f64 (prodM s2 0), .float .f64 (prodM s2 1), .float .f64 (prodM s2 2), .float .f64 (prodM s2 3), .float .f64 (prodM s2 4), .float .f64 (prodM s2 5), .float .f64 (prodM s2 6), .float .f64 (prodM s2 7), .float .f64 (prodM s2 8)] 26)) := by
    have hz : w.heap.size + 1 + 1 + 1 ≤ w'.heap.size := by simpa using hb.size
    have hB := (((below1 w _).alloc (by simp) _).alloc (by simp <;> omega) _).trans (hb.mono (by simp <;> omega))
    refine ⟨hB.alloc (by omega) _, ?_, ?_, MatAt.new _ _ _, by simp, by simp <;> omega⟩
    · exact (((((PtAt.new w px py 32).old (below1 _ _) (by simp)).old (below1 _ _) (by simp <;> omega)).old hb (by simp <;> omega)).old (below1 _ _) (by omega))
    · exact ((((PtAt.new _ qx qy 32).at (by simp)).old (below1 _ _) (by simp <;> omega)).old hb (by simp <;> omega)).old (below1 _ _) (by omega)
  refine wp_abs (Held5 w w'.heap.size px py qx qy (prodM s2)) hF ?_
  clear hF hb
  intro W hF
  go_cut [12, 13] (fun s12 s13 wx => Fin4 w px py qx qy ax ay bx byy s12 s13 wx)
  case first =>
    refine wp_region_held_drew (S := Held5 w w'.heap.size px py qx qy (prodM s2)) (by kernel_rfl) ?_ (fun hHeld => ?_)
    · exact hF.keep (Below.refl _ _).drew
    have hn0 : w.heap.size + 1 < W.drew.heap.size := hHeld.more
    have hn1 : w'.heap.size < W.drew.heap.size := hHeld.size
    generalize W.drew = W0 at *
    refine wpAnyH_take (i := 0) (v := matV (prodM s2)) rfl (by kernel_rfl) (by kernel_rfl) (by kernel_rfl) (fun _ _ _ h => h) (Or.inl ⟨by rfl, ?y0⟩) (by assumption) ?r0
    case y0 =>
      intro w1 hSw
      obtain ⟨k0, k1, k2, k3, k4, k5, k6, k7, k8⟩ := mat_cells hSw.m
      go_simp
      try with_reducible rfl
    try simp only [List.getElem_toArray, List.getElem_cons_zero, List.getElem_cons_succ, Act.put, List.setIfInBounds_toArray, List.set_cons_zero, List.set_cons_succ]
    refine wpAnyH_take (i := 1) (v := pt px py) rfl (by kernel_rfl) (by kernel_rfl) (by kernel_rfl) (fun _ _ _ h => h) (Or.inl ⟨by rfl, ?y1⟩) (by assumption) ?r1
    case y1 =>
      intro w1 hSw
      obtain ⟨k0, k1, _, _⟩ := hSw.p
      go_simp
      try with_reducible rfl
    try simp only [List.getElem_toArray, List.getElem_cons_zero, List.getElem_cons_succ, Act.put, List.setIfInBounds_toArray, List.set_cons_zero, List.set_cons_succ]
    refine wpAnyH_take (i := 3) (v := matV (prodM s2)) rfl (by kernel_rfl) (by kernel_rfl) (by kernel_rfl) (fun _ _ _ h => h) (Or.inl ⟨by rfl, ?y3⟩) (by assumption) ?r3
    case y3 =>
      intro w1 hSw
      obtain ⟨k0, k1, k2, k3, k4, k5, k6, k7, k8⟩ := mat_cells hSw.m
      go_simp
      try with_reducible rfl
    try simp only [List.getElem_toArray, List.getElem_cons_zero, List.getElem_cons_succ, Act.put, List.setIfInBounds_toArray, List.set_cons_zero, List.set_cons_succ]
    refine wpAnyH_take (i := 4) (v := pt qx qy) rfl (by kernel_rfl) (by kernel_rfl) (by kernel_rfl) (fun _ _ _ h => h) (Or.inl ⟨by rfl, ?y4⟩) (by assumption) ?r4
    case y4 =>
      intro w1 hSw
      obtain ⟨k0, k1, _, _⟩ := hSw.q
      go_simp
      try with_reducible rfl
    try simp only [List.getElem_toArray, List.getElem_cons_zero, List.getElem_cons_succ, Act.put, List.setIfInBounds_toArray, List.set_cons_zero, List.set_cons_succ]
    refine wpAnyH_ready (rs := [2, 6, 7]) (by kernel_rfl) (by simp) (AllReadyH.cons rfl (fun K hK => ?_) (AllReadyH.cons rfl (fun K hK => ?_) (AllReadyH.cons rfl (fun K hK => ?_) AllReadyH.nil)))
    · go_simp
      go_at_call 11
      refine (transformed (prodM s2) px py ax ay a1 a2 a3 a4 a5 a6 A1.out A2.out _).mono ?_
      rintro e W1 ⟨rfl, hb1⟩
      refine hK.out _ _ (hHeld.keep hb1) (fun hHeld => ?_)
      clear hK K
      have hz1 := hb1.size
      try simp only [List.getElem_toArray, List.getElem_cons_zero, List.getElem_cons_succ, Act.put, List.setIfInBounds_toArray, List.set_cons_zero, List.set_cons_succ]
      refine wpAnyH_ready (rs := [5, 6, 7]) (by kernel_rfl) (by simp) (AllReadyH.cons rfl (fun K hK => ?_) (AllReadyH.cons rfl (fun K hK => ?_) (AllReadyH.cons rfl (fun K hK => ?_) AllReadyH.nil)))
      · go_simp
        go_at_call 11
        refine (transformed (prodM s2) qx qy bx byy b1 b2 b3 b4 b5 b6 B1.out B2.out _).mono ?_
        rintro e W2 ⟨rfl, hb2⟩
        refine hK.out _ _ (hHeld.keep hb2) (fun hHeld => ?_)
        clear hK K
        have hz2 := hb2.size
        try simp only [List.getElem_toArray, List.getElem_cons_zero, List.getElem_cons_succ, Act.put, List.setIfInBounds_toArray, List.set_cons_zero, List.set_cons_succ]
        refine wpAnyH_ready (rs := [6, 7]) (by kernel_rfl) (by simp) (AllReadyH.cons rfl (fun K hK => ?_) (AllReadyH.cons rfl (fun K hK => ?_) AllReadyH.nil))
        · go_simp
          refine hK.out _ _ (hHeld.keep (below1 _ _)) (fun hHeld => ?_)
          clear hK K
          have hb3 := below1 W2 (.cells #[.float .f64 0, .float .f64 0] 32)
          have p6 := PtAt.new W2 0 0 32
          have l6 : W2.heap.size < (W2.alloc (.cells #[.float .f64 0, .float .f64 0] 32)).heap.size := by simp
          have hz3 : W2.heap.size ≤ (W2.alloc (.cells #[.float .f64 0, .float .f64 0] 32)).heap.size := by simp
          generalize W2.alloc (.cells #[.float .f64 0, .float .f64 0] 32) = W3 at *
          try simp only [List.getElem_toArray, List.getElem_cons_zero, List.getElem_cons_succ, Act.put, List.setIfInBounds_toArray, List.set_cons_zero, List.set_cons_succ]
          refine wpAnyH_ready (rs := [7]) (by kernel_rfl) (by simp) (AllReadyH.cons rfl (fun K hK => ?_) AllReadyH.nil)
          go_simp
          refine hK.out _ _ (hHeld.keep (below1 _ _)) (fun hHeld => ?_)
          clear hK K
          have hb4 := below1 W3 (.cells #[.float .f64 0, .float .f64 0] 32)
          have p7 := PtAt.new W3 0 0 32
          have l7 : W3.heap.size < (W3.alloc (.cells #[.float .f64 0, .float .f64 0] 32)).heap.size := by simp
          have hz4 : W3.heap.size ≤ (W3.alloc (.cells #[.float .f64 0, .float .f64 0] 32)).heap.size := by simp
          generalize W3.alloc (.cells #[.float .f64 0, .float .f64 0] 32) = W4 at *
          have p6 := p6.old hb4 l6
          have l6 := Nat.lt_of_lt_of_le l6 hz4
          try simp only [List.getElem_toArray, List.getElem_cons_zero, List.getElem_cons_succ, Act.put, List.setIfInBounds_toArray, List.set_cons_zero, List.set_cons_succ]
          have c1 : W2.heap.size ≠ W3.heap.size := by omega
          have c2 : W2.heap.size ≠ w.heap.size ∧ W2.heap.size ≠ w.heap.size + 1 ∧ W2.heap.size ≠ w'.heap.size ∧ w.heap.size ≤ W2.heap.size := by omega
          have c3 : W3.heap.size ≠ w.heap.size ∧ W3.heap.size ≠ w.heap.size + 1 ∧ W3.heap.size ≠ w'.heap.size ∧ w.heap.size ≤ W3.heap.size := by omega
          refine wpAnyH_ready (rs := [8]) (by kernel_rfl) (by simp) (AllReadyH.cons rfl (fun K hK => ?_) AllReadyH.nil)
          obtain ⟨e0, e1, f0, f1⟩ := p6
          go_simp
          refine hK.out _ _ ((hHeld.set c2).set c2) (fun hHeld => ?_)
          clear hK K
          replace p6 := PtAt.put (x := ax) (y := ay) ⟨e0, e1, f0, f1⟩
          replace p7 := (p7.far (z := .float .f64 ax) (o := 0) c1.symm).far (z := .float .f64 ay) (o := 1) c1.symm
          clear e0 e1 f0 f1
          generalize (W4.setCell ⟨W2.heap.size, 0, none⟩ (.float .f64 ax)).setCell ⟨W2.heap.size, 1, none⟩ (.float .f64 ay) = V1 at *
          try simp only [List.getElem_toArray, List.getElem_cons_zero, List.getElem_cons_succ, Act.put, List.setIfInBounds_toArray, List.set_cons_zero, List.set_cons_succ]
          refine wpAnyH_ready (rs := [9]) (by kernel_rfl) (by simp) (AllReadyH.cons rfl (fun K hK => ?_) AllReadyH.nil)
          obtain ⟨e0, e1, f0, f1⟩ := p7
          go_simp
          refine hK.out _ _ ((hHeld.set c3).set c3) (fun hHeld => ?_)
          clear hK K
          replace p7 := PtAt.put (x := bx) (y := byy) ⟨e0, e1, f0, f1⟩
          replace p6 := (p6.far (z := .float .f64 bx) (o := 0) c1).far (z := .float .f64 byy) (o := 1) c1
          refine wpAnyH_done (by kernel_rfl) ?_ _
          go_wp2_with fail
          go_meet
          exact ⟨_, _, rfl, rfl, hHeld.below, hHeld.p, hHeld.q, p6, p7⟩
        · go_simp
          refine hK.out _ _ (hHeld.keep (below1 _ _)) (fun hHeld => ?_)
          clear hK K
          have hb5 := below1 W2 (.cells #[.float .f64 0, .float .f64 0] 32)
          have p7 := PtAt.new W2 0 0 32
          have l7 : W2.heap.size < (W2.alloc (.cells #[.float .f64 0, .float .f64 0] 32)).heap.size := by simp
          have hz5 : W2.heap.size ≤ (W2.alloc (.cells #[.float .f64 0, .float .f64 0] 32)).heap.size := by simp
          generalize W2.alloc (.cells #[.float .f64 0, .float .f64 0] 32) = W5 at *
          try simp only [List.getElem_toArray, List.getElem_cons_zero, List.getElem_cons_succ, Act.put, List.setIfInBounds_toArray, List.set_cons_zero, List.set_cons_succ]
          refine wpAnyH_ready (rs := [6]) (by kernel_rfl) (by simp) (AllReadyH.cons rfl (fun K hK => ?_) AllReadyH.nil)
          go_simp
          refine hK.out _ _ (hHeld.keep (below1 _ _)) (fun hHeld => ?_)
          clear hK K
          have hb6 := below1 W5 (.cells #[.float .f64 0, .float .f64 0] 32)
          have p6 := PtAt.new W5 0 0 32
          have l6 : W5.heap.size < (W5.alloc (.cells #[.float .f64 0, .float .f64 0] 32)).heap.size := by simp
          have hz6 : W5.heap.size ≤ (W5.alloc (.cells #[.float .f64 0, .float .f64 0] 32)).heap.size := by simp
          generalize W5.alloc (.cells #[.float .f64 0, .float .f64 0] 32) = W6 at *
          have p7 := p7.old hb6 l7
          have l7 := Nat.lt_of_lt_of_le l7 hz6
          try simp only [List.getElem_toArray, List.getElem_cons_zero, List.getElem_cons_succ, Act.put, List.setIfInBounds_toArray, List.set_cons_zero, List.set_cons_succ]
          have c1 : W5.heap.size ≠ W2.heap.size := by omega
          have c2 : W5.heap.size ≠ w.heap.size ∧ W5.heap.size ≠ w.heap.size + 1 ∧ W5.heap.size ≠ w'.heap.size ∧ w.heap.size ≤ W5.heap.size := by omega
          have c3 : W2.heap.size ≠ w.heap.size ∧ W2.heap.size ≠ w.heap.size + 1 ∧ W2.heap.size ≠ w'.heap.size ∧ w.heap.size ≤ W2.heap.size := by omega
          refine wpAnyH_ready (rs := [8]) (by kernel_rfl) (by simp) (AllReadyH.cons rfl (fun K hK => ?_) AllReadyH.nil)
          obtain ⟨e0, e1, f0, f1⟩ := p6
          go_simp
          refine hK.out _ _ ((hHeld.set c2).set c2) (fun hHeld => ?_)
          clear hK K
          replace p6 := PtAt.put (x := ax) (y := ay) ⟨e0, e1, f0, f1⟩
          replace p7 := (p7.far (z := .float .f64 ax) (o := 0) c1.symm).far (z := .float .f64 ay) (o := 1) c1.symm
          clear e0 e1 f0 f1
          generalize (W6.setCell ⟨W5.heap.size, 0, none⟩ (.float .f64 ax)).setCell ⟨W5.heap.size, 1, none⟩ (.float .f64 ay) = V1 at *
          try simp only [List.getElem_toArray, List.getElem_cons_zero, List.getElem_cons_succ, Act.put, List.setIfInBounds_toArray, List.set_cons_zero, List.set_cons_succ]
          refine wpAnyH_ready (rs := [9]) (by kernel_rfl) (by simp) (AllReadyH.cons rfl (fun K hK => ?_) AllReadyH.nil)
          obtain ⟨e0, e1, f0, f1⟩ := p7
          go_simp
          refine hK.out _ _ ((hHeld.set c3).set c3) (fun hHeld => ?_)
          clear hK K
          replace p7 := PtAt.put (x := bx) (y := byy) ⟨e0, e1, f0, f1⟩
          replace p6 := (p6.far (z := .float .f64 bx) (o := 0) c1).far (z := .float .f64 byy) (o := 1) c1
          refine wpAnyH_done (by kernel_rfl) ?_ _
          go_wp2_with fail
          go_meet
          exact ⟨_, _, rfl, rfl, hHeld.below, hHeld.p, hHeld.q, p6, p7⟩
      · go_simp
        refine hK.out _ _ (hHeld.keep (below1 _ _)) (fun hHeld => ?_)
        clear hK K
        have hb7 := below1 W1 (.cells #[.float .f64 0, .float .f64 0] 32)
        have p6 := PtAt.new W1 0 0 32
        have l6 : W1.heap.size < (W1.alloc (.cells #[.float .f64 0, .float .f64 0] 32)).heap.size := by simp
        have hz7 : W1.heap.size ≤ (W1.alloc (.cells #[.float .f64 0, .float .f64 0] 32)).heap.size := by simp
        generalize W1.alloc (.cells #[.float .f64 0, .float .f64 0] 32) = W7 at *
        try simp only [List.getElem_toArray, List.getElem_cons_zero, List.getElem_cons_succ, Act.put, List.setIfInBounds_toArray, List.set_cons_zero, List.set_cons_succ]
        refine wpAnyH_ready (rs := [5, 7]) (by kernel_rfl) (by simp) (AllReadyH.cons rfl (fun K hK => ?_) (AllReadyH.cons rfl (fun K hK => ?_) AllReadyH.nil))
        · go_simp
          go_at_call 11
          refine (transformed (prodM s2) qx qy bx byy b1 b2 b3 b4 b5 b6 B1.out B2.out _).mono ?_
          rintro e W8 ⟨rfl, hb8⟩
          refine hK.out _ _ (hHeld.keep hb8) (fun hHeld => ?_)
          clear hK K
          have hz8 := hb8.size
          have p6 := p6.old hb8 l6
          have l6 := Nat.lt_of_lt_of_le l6 hz8
          try simp only [List.getElem_toArray, List.getElem_cons_zero, List.getElem_cons_succ, Act.put, List.setIfInBounds_toArray, List.set_cons_zero, List.set_cons_succ]
          refine wpAnyH_ready (rs := [7]) (by kernel_rfl) (by simp) (AllReadyH.cons rfl (fun K hK => ?_) AllReadyH.nil)
          go_simp
          refine hK.out _ _ (hHeld.keep (below1 _ _)) (fun hHeld => ?_)
          clear hK K
          have hb9 := below1 W8 (.cells #[.float .f64 0, .float .f64 0] 32)
          have p7 := PtAt.new W8 0 0 32
          have l7 : W8.heap.size < (W8.alloc (.cells #[.float .f64 0, .float .f64 0] 32)).heap.size := by simp
          have hz9 : W8.heap.size ≤ (W8.alloc (.cells #[.float .f64 0, .float .f64 0] 32)).heap.size := by simp
          generalize W8.alloc (.cells #[.float .f64 0, .float .f64 0] 32) = W9 at *
          have p6 := p6.old hb9 l6
          have l6 := Nat.lt_of_lt_of_le l6 hz9
          try simp only [List.getElem_toArray, List.getElem_cons_zero, List.getElem_cons_succ, Act.put, List.setIfInBounds_toArray, List.set_cons_zero, List.set_cons_succ]
          have c1 : W1.heap.size ≠ W8.heap.size := by omega
          have c2 : W1.heap.size ≠ w.heap.size ∧ W1.heap.size ≠ w.heap.size + 1 ∧ W1.heap.size ≠ w'.heap.size ∧ w.heap.size ≤ W1.heap.size := by omega
          have c3 : W8.heap.size ≠ w.heap.size ∧ W8.heap.size ≠ w.heap.size + 1 ∧ W8.heap.size ≠ w'.heap.size ∧ w.heap.size ≤ W8.heap.size := by omega
          refine wpAnyH_ready (rs := [8]) (by kernel_rfl) (by simp) (AllReadyH.cons rfl (fun K hK => ?_) AllReadyH.nil)
          obtain ⟨e0, e1, f0, f1⟩ := p6
          go_simp
          refine hK.out _ _ ((hHeld.set c2).set c2) (fun hHeld => ?_)
          clear hK K
          replace p6 := PtAt.put (x := ax) (y := ay) ⟨e0, e1, f0, f1⟩
          replace p7 := (p7.far (z := .float .f64 ax) (o := 0) c1.symm).far (z := .float .f64 ay) (o := 1) c1.symm
          clear e0 e1 f0 f1
          generalize (W9.setCell ⟨W1.heap.size, 0, none⟩ (.float .f64 ax)).setCell ⟨W1.heap.size, 1, none⟩ (.float .f64 ay) = V1 at *
          try simp only [List.getElem_toArray, List.getElem_cons_zero, List.getElem_cons_succ, Act.put, List.setIfInBounds_toArray, List.set_cons_zero, List.set_cons_succ]
          refine wpAnyH_ready (rs := [9]) (by kernel_rfl) (by simp) (AllReadyH.cons rfl (fun K hK => ?_) AllReadyH.nil)
          obtain ⟨e0, e1, f0, f1⟩ := p7
          go_simp
          refine hK.out _ _ ((hHeld.set c3).set c3) (fun hHeld => ?_)
          clear hK K
          replace p7 := PtAt.put (x := bx) (y := byy) ⟨e0, e1, f0, f1⟩
          replace p6 := (p6.far (z := .float .f64 bx) (o := 0) c1).far (z := .float .f64 byy) (o := 1) c1
          refine wpAnyH_done (by kernel_rfl) ?_ _
          go_wp2_with fail
          go_meet
          exact ⟨_, _, rfl, rfl, hHeld.below, hHeld.p, hHeld.q, p6, p7⟩
        · go_simp
          refine hK.out _ _ (hHeld.keep (below1 _ _)) (fun hHeld => ?_)
          clear hK K
          have hb10 := below1 W7 (.cells #[.float .f64 0, .float .f64 0] 32)
          have p7 := PtAt.new W7 0 0 32
          have l7 : W7.heap.size < (W7.alloc (.cells #[.float .f64 0, .float .f64 0] 32)).heap.size := by simp
          have hz10 : W7.heap.size ≤ (W7.alloc (.cells #[.float .f64 0, .float .f64 0] 32)).heap.size := by simp
          generalize W7.alloc (.cells #[.float .f64 0, .float .f64 0] 32) = W10 at *
          have p6 := p6.old hb10 l6
          have l6 := Nat.lt_of_lt_of_le l6 hz10
          try simp only [List.getElem_toArray, List.getElem_cons_zero, List.getElem_cons_succ, Act.put, List.setIfInBounds_toArray, List.set_cons_zero, List.set_cons_succ]
          refine wpAnyH_ready (rs := [5]) (by kernel_rfl) (by simp) (AllReadyH.cons rfl (fun K hK => ?_) AllReadyH.nil)
          go_simp
          go_at_call 11
          refine (transformed (prodM s2) qx qy bx byy b1 b2 b3 b4 b5 b6 B1.out B2.out _).mono ?_
          rintro e W11 ⟨rfl, hb11⟩
          refine hK.out _ _ (hHeld.keep hb11) (fun hHeld => ?_)
          clear hK K
          have hz11 := hb11.size
          have p6 := p6.old hb11 l6
          have l6 := Nat.lt_of_lt_of_le l6 hz11
          have p7 := p7.old hb11 l7
          have l7 := Nat.lt_of_lt_of_le l7 hz11
          try simp only [List.getElem_toArray, List.getElem_cons_zero, List.getElem_cons_succ, Act.put, List.setIfInBounds_toArray, List.set_cons_zero, List.set_cons_succ]
          have c1 : W1.heap.size ≠ W7.heap.size := by omega
          have c2 : W1.heap.size ≠ w.heap.size ∧ W1.heap.size ≠ w.heap.size + 1 ∧ W1.heap.size ≠ w'.heap.size ∧ w.heap.size ≤ W1.heap.size := by omega
          have c3 : W7.heap.size ≠ w.heap.size ∧ W7.heap.size ≠ w.heap.size + 1 ∧ W7.heap.size ≠ w'.heap.size ∧ w.heap.size ≤ W7.heap.size := by omega
          refine wpAnyH_ready (rs := [8]) (by kernel_rfl) (by simp) (AllReadyH.cons rfl (fun K hK => ?_) AllReadyH.nil)
          obtain ⟨e0, e1, f0, f1⟩ := p6
          go_simp
          refine hK.out _ _ ((hHeld.set c2).set c2) (fun hHeld => ?_)
          clear hK K
          replace p6 := PtAt.put (x := ax) (y := ay) ⟨e0, e1, f0, f1⟩
          replace p7 := (p7.far (z := .float .f64 ax) (o := 0) c1.symm).far (z := .float .f64 ay) (o := 1) c1.symm
          clear e0 e1 f0 f1
          generalize (W11.setCell ⟨W1.heap.size, 0, none⟩ (.float .f64 ax)).setCell ⟨W1.heap.size, 1, none⟩ (.float .f64 ay) = V1 at *
          try simp only [List.getElem_toArray, List.getElem_cons_zero, List.getElem_cons_succ, Act.put, List.setIfInBounds_toArray, List.set_cons_zero, List.set_cons_succ]
          refine wpAnyH_ready (rs := [9]) (by kernel_rfl) (by simp) (AllReadyH.cons rfl (fun K hK => ?_) AllReadyH.nil)
          obtain ⟨e0, e1, f0, f1⟩ := p7
          go_simp
          refine hK.out _ _ ((hHeld.set c3).set c3) (fun hHeld => ?_)
          clear hK K
          replace p7 := PtAt.put (x := bx) (y := byy) ⟨e0, e1, f0, f1⟩
          replace p6 := (p6.far (z := .float .f64 bx) (o := 0) c1).far (z := .float .f64 byy) (o := 1) c1
          refine wpAnyH_done (by kernel_rfl) ?_ _
          go_wp2_with fail
          go_meet
          exact ⟨_, _, rfl, rfl, hHeld.below, hHeld.p, hHeld.q, p6, p7⟩
      · go_simp
        refine hK.out _ _ (hHeld.keep (below1 _ _)) (fun hHeld => ?_)
        clear hK K
        have hb12 := below1 W1 (.cells #[.float .f64 0, .float .f64 0] 32)
        have p7 := PtAt.new W1 0 0 32
        have l7 : W1.heap.size < (W1.alloc (.cells #[.float .f64 0, .float .f64 0] 32)).heap.size := by simp
        have hz12 : W1.heap.size ≤ (W1.alloc (.cells #[.float .f64 0, .float .f64 0] 32)).heap.size := by simp
        generalize W1.alloc (.cells #[.float .f64 0, .float .f64 0] 32) = W12 at *
        try simp only [List.getElem_toArray, List.getElem_cons_zero, List.getElem_cons_succ, Act.put, List.setIfInBounds_toArray, List.set_cons_zero, List.set_cons_succ]
        refine wpAnyH_ready (rs := [5, 6]) (by kernel_rfl) (by simp) (AllReadyH.cons rfl (fun K hK => ?_) (AllReadyH.cons rfl (fun K hK => ?_) AllReadyH.nil))
        · go_simp
          go_at_call 11
          refine (transformed (prodM s2) qx qy bx byy b1 b2 b3 b4 b5 b6 B1.out B2.out _).mono ?_
          rintro e W13 ⟨rfl, hb13⟩
          refine hK.out _ _ (hHeld.keep hb13) (fun hHeld => ?_)
          clear hK K
          have hz13 := hb13.size
          have p7 := p7.old hb13 l7
          have l7 := Nat.lt_of_lt_of_le l7 hz13
          try simp only [List.getElem_toArray, List.getElem_cons_zero, List.getElem_cons_succ, Act.put, List.setIfInBounds_toArray, List.set_cons_zero, List.set_cons_succ]
          refine wpAnyH_ready (rs := [6]) (by kernel_rfl) (by simp) (AllReadyH.cons rfl (fun K hK => ?_) AllReadyH.nil)
          go_simp
          refine hK.out _ _ (hHeld.keep (below1 _ _)) (fun hHeld => ?_)
          clear hK K
          have hb14 := below1 W13 (.cells #[.float .f64 0, .float .f64 0] 32)
          have p6 := PtAt.new W13 0 0 32
          have l6 : W13.heap.size < (W13.alloc (.cells #[.float .f64 0, .float .f64 0] 32)).heap.size := by simp
          have hz14 : W13.heap.size ≤ (W13.alloc (.cells #[.float .f64 0, .float .f64 0] 32)).heap.size := by simp
          generalize W13.alloc (.cells #[.float .f64 0, .float .f64 0] 32) = W14 at *
          have p7 := p7.old hb14 l7
          have l7 := Nat.lt_of_lt_of_le l7 hz14
          try simp only [List.getElem_toArray, List.getElem_cons_zero, List.getElem_cons_succ, Act.put, List.setIfInBounds_toArray, List.set_cons_zero, List.set_cons_succ]
          have c1 : W13.heap.size ≠ W1.heap.size := by omega
          have c2 : W13.heap.size ≠ w.heap.size ∧ W13.heap.size ≠ w.heap.size + 1 ∧ W13.heap.size ≠ w'.heap.size ∧ w.heap.size ≤ W13.heap.size := by omega
          have c3 : W1.heap.size ≠ w.heap.size ∧ W1.heap.size ≠ w.heap.size + 1 ∧ W1.heap.size ≠ w'.heap.size ∧ w.heap.size ≤ W1.heap.size := by omega
          refine wpAnyH_ready (rs := [8]) (by kernel_rfl) (by simp) (AllReadyH.cons rfl (fun K hK => ?_) AllReadyH.nil)
          obtain ⟨e0, e1, f0, f1⟩ := p6
          go_simp
          refine hK.out _ _ ((hHeld.set c2).set c2) (fun hHeld => ?_)
          clear hK K
          replace p6 := PtAt.put (x := ax) (y := ay) ⟨e0, e1, f0, f1⟩
          replace p7 := (p7.far (z := .float .f64 ax) (o := 0) c1.symm).far (z := .float .f64 ay) (o := 1) c1.symm
          clear e0 e1 f0 f1
          generalize (W14.setCell ⟨W13.heap.size, 0, none⟩ (.float .f64 ax)).setCell ⟨W13.heap.size, 1, none⟩ (.float .f64 ay) = V1 at *
          try simp only [List.getElem_toArray, List.getElem_cons_zero, List.getElem_cons_succ, Act.put, List.setIfInBounds_toArray, List.set_cons_zero, List.set_cons_succ]
          refine wpAnyH_ready (rs := [9]) (by kernel_rfl) (by simp) (AllReadyH.cons rfl (fun K hK => ?_) AllReadyH.nil)
          obtain ⟨e0, e1, f0, f1⟩ := p7
          go_simp
          refine hK.out _ _ ((hHeld.set c3).set c3) (fun hHeld => ?_)
          clear hK K
          replace p7 := PtAt.put (x := bx) (y := byy) ⟨e0, e1, f0, f1⟩
          replace p6 := (p6.far (z := .float .f64 bx) (o := 0) c1).far (z := .float .f64 byy) (o := 1) c1
          refine wpAnyH_done (by kernel_rfl) ?_ _
          go_wp2_with fail
          go_meet
          exact ⟨_, _, rfl, rfl, hHeld.below, hHeld.p, hHeld.q, p6, p7⟩
        · go_simp
          refine hK.out _ _ (hHeld.keep (below1 _ _)) (fun hHeld => ?_)
          clear hK K
          have hb15 := below1 W12 (.cells #[.float .f64 0, .float .f64 0] 32)
          have p6 := PtAt.new W12 0 0 32
          have l6 : W12.heap.size < (W12.alloc (.cells #[.float .f64 0, .float .f64 0] 32)).heap.size := by simp
          have hz15 : W12.heap.size ≤ (W12.alloc (.cells #[.float .f64 0, .float .f64 0] 32)).heap.size := by simp
          generalize W12.alloc (.cells #[.float .f64 0, .float .f64 0] 32) = W15 at *
          have p7 := p7.old hb15 l7
          have l7 := Nat.lt_of_lt_of_le l7 hz15
          try simp only [List.getElem_toArray, List.getElem_cons_zero, List.getElem_cons_succ, Act.put, List.setIfInBounds_toArray, List.set_cons_zero, List.set_cons_succ]
          refine wpAnyH_ready (rs := [5]) (by kernel_rfl) (by simp) (AllReadyH.cons rfl (fun K hK => ?_) AllReadyH.nil)
          go_simp
          go_at_call 11
          refine (transformed (prodM s2) qx qy bx byy b1 b2 b3 b4 b5 b6 B1.out B2.out _).mono ?_
          rintro e W16 ⟨rfl, hb16⟩
          refine hK.out _ _ (hHeld.keep hb16) (fun hHeld => ?_)
          clear hK K
          have hz16 := hb16.size
          have p7 := p7.old hb16 l7
          have l7 := Nat.lt_of_lt_of_le l7 hz16
          have p6 := p6.old hb16 l6
          have l6 := Nat.lt_of_lt_of_le l6 hz16
          try simp only [List.getElem_toArray, List.getElem_cons_zero, List.getElem_cons_succ, Act.put, List.setIfInBounds_toArray, List.set_cons_zero, List.set_cons_succ]
          have c1 : W12.heap.size ≠ W1.heap.size := by omega
          have c2 : W12.heap.size ≠ w.heap.size ∧ W12.heap.size ≠ w.heap.size + 1 ∧ W12.heap.size ≠ w'.heap.size ∧ w.heap.size ≤ W12.heap.size := by omega
          have c3 : W1.heap.size ≠ w.heap.size ∧ W1.heap.size ≠ w.heap.size + 1 ∧ W1.heap.size ≠ w'.heap.size ∧ w.heap.size ≤ W1.heap.size := by omega
          refine wpAnyH_ready (rs := [8]) (by kernel_rfl) (by simp) (AllReadyH.cons rfl (fun K hK => ?_) AllReadyH.nil)
          obtain ⟨e0, e1, f0, f1⟩ := p6
          go_simp
          refine hK.out _ _ ((hHeld.set c2).set c2) (fun hHeld => ?_)
          clear hK K
          replace p6 := PtAt.put (x := ax) (y := ay) ⟨e0, e1, f0, f1⟩
          replace p7 := (p7.far (z := .float .f64 ax) (o := 0) c1.symm).far (z := .float .f64 ay) (o := 1) c1.symm
          clear e0 e1 f0 f1
          generalize (W16.setCell ⟨W12.heap.size, 0, none⟩ (.float .f64 ax)).setCell ⟨W12.heap.size, 1, none⟩ (.float .f64 ay) = V1 at *
          try simp only [List.getElem_toArray, List.getElem_cons_zero, List.getElem_cons_succ, Act.put, List.setIfInBounds_toArray, List.set_cons_zero, List.set_cons_succ]
          refine wpAnyH_ready (rs := [9]) (by kernel_rfl) (by simp) (AllReadyH.cons rfl (fun K hK => ?_) AllReadyH.nil)
          obtain ⟨e0, e1, f0, f1⟩ := p7
          go_simp
          refine hK.out _ _ ((hHeld.set c3).set c3) (fun hHeld => ?_)
          clear hK K
          replace p7 := PtAt.put (x := bx) (y := byy) ⟨e0, e1, f0, f1⟩
          replace p6 := (p6.far (z := .float .f64 bx) (o := 0) c1).far (z := .float .f64 byy) (o := 1) c1
          refine wpAnyH_done (by kernel_rfl) ?_ _
          go_wp2_with fail
          go_meet
          exact ⟨_, _, rfl, rfl, hHeld.below, hHeld.p, hHeld.q, p6, p7⟩
    · go_simp
      refine hK.out _ _ (hHeld.keep (below1 _ _)) (fun hHeld => ?_)
      clear hK K
      have hb17 := below1 W0 (.cells #[.float .f64 0, .float .f64 0] 32)
      have p6 := PtAt.new W0 0 0 32
      have l6 : W0.heap.size < (W0.alloc (.cells #[.float .f64 0, .float .f64 0] 32)).heap.size := by simp
      have hz17 : W0.heap.size ≤ (W0.alloc (.cells #[.float .f64 0, .float .f64 0] 32)).heap.size := by simp
      generalize W0.alloc (.cells #[.float .f64 0, .float .f64 0] 32) = W17 at *
      try simp only [List.getElem_toArray, List.getElem_cons_zero, List.getElem_cons_succ, Act.put, List.setIfInBounds_toArray, List.set_cons_zero, List.set_cons_succ]
      refine wpAnyH_ready (rs := [2, 7]) (by kernel_rfl) (by simp) (AllReadyH.cons rfl (fun K hK => ?_) (AllReadyH.cons rfl (fun K hK => ?_) AllReadyH.nil))
      · go_simp
        go_at_call 11
        refine (transformed (prodM s2) px py ax ay a1 a2 a3 a4 a5 a6 A1.out A2.out _).mono ?_
        rintro e W18 ⟨rfl, hb18⟩
        refine hK.out _ _ (hHeld.keep hb18) (fun hHeld => ?_)
        clear hK K
        have hz18 := hb18.size
        have p6 := p6.old hb18 l6
        have l6 := Nat.lt_of_lt_of_le l6 hz18
        try simp only [List.getElem_toArray, List.getElem_cons_zero, List.getElem_cons_succ, Act.put, List.setIfInBounds_toArray, List.set_cons_zero, List.set_cons_succ]
        refine wpAnyH_ready (rs := [5, 7]) (by kernel_rfl) (by simp) (AllReadyH.cons rfl (fun K hK => ?_) (AllReadyH.cons rfl (fun K hK => ?_) AllReadyH.nil))
        · go_simp
          go_at_call 11
          refine (transformed (prodM s2) qx qy bx byy b1 b2 b3 b4 b5 b6 B1.out B2.out _).mono ?_
          rintro e W19 ⟨rfl, hb19⟩
          refine hK.out _ _ (hHeld.keep hb19) (fun hHeld => ?_)
          clear hK K
          have hz19 := hb19.size
          have p6 := p6.old hb19 l6
          have l6 := Nat.lt_of_lt_of_le l6 hz19
          try simp only [List.getElem_toArray, List.getElem_cons_zero, List.getElem_cons_succ, Act.put, List.setIfInBounds_toArray, List.set_cons_zero, List.set_cons_succ]
          refine wpAnyH_ready (rs := [7]) (by kernel_rfl) (by simp) (AllReadyH.cons rfl (fun K hK => ?_) AllReadyH.nil)
          go_simp
          refine hK.out _ _ (hHeld.keep (below1 _ _)) (fun hHeld => ?_)
          clear hK K
          have hb20 := below1 W19 (.cells #[.float .f64 0, .float .f64 0] 32)
          have p7 := PtAt.new W19 0 0 32
          have l7 : W19.heap.size < (W19.alloc (.cells #[.float .f64 0, .float .f64 0] 32)).heap.size := by simp
          have hz20 : W19.heap.size ≤ (W19.alloc (.cells #[.float .f64 0, .float .f64 0] 32)).heap.size := by simp
          generalize W19.alloc (.cells #[.float .f64 0, .float .f64 0] 32) = W20 at *
          have p6 := p6.old hb20 l6
          have l6 := Nat.lt_of_lt_of_le l6 hz20
          try simp only [List.getElem_toArray, List.getElem_cons_zero, List.getElem_cons_succ, Act.put, List.setIfInBounds_toArray, List.set_cons_zero, List.set_cons_succ]
          have c1 : W0.heap.size ≠ W19.heap.size := by omega
          have c2 : W0.heap.size ≠ w.heap.size ∧ W0.heap.size ≠ w.heap.size + 1 ∧ W0.heap.size ≠ w'.heap.size ∧ w.heap.size ≤ W0.heap.size := by omega
          have c3 : W19.heap.size ≠ w.heap.size ∧ W19.heap.size ≠ w.heap.size + 1 ∧ W19.heap.size ≠ w'.heap.size ∧ w.heap.size ≤ W19.heap.size := by omega
          refine wpAnyH_ready (rs := [8]) (by kernel_rfl) (by simp) (AllReadyH.cons rfl (fun K hK => ?_) AllReadyH.nil)
          obtain ⟨e0, e1, f0, f1⟩ := p6
          go_simp
          refine hK.out _ _ ((hHeld.set c2).set c2) (fun hHeld => ?_)
          clear hK K
          replace p6 := PtAt.put (x := ax) (y := ay) ⟨e0, e1, f0, f1⟩
          replace p7 := (p7.far (z := .float .f64 ax) (o := 0) c1.symm).far (z := .float .f64 ay) (o := 1) c1.symm
          clear e0 e1 f0 f1
          generalize (W20.setCell ⟨W0.heap.size, 0, none⟩ (.float .f64 ax)).setCell ⟨W0.heap.size, 1, none⟩ (.float .f64 ay) = V1 at *
          try simp only [List.getElem_toArray, List.getElem_cons_zero, List.getElem_cons_succ, Act.put, List.setIfInBounds_toArray, List.set_cons_zero, List.set_cons_succ]
          refine wpAnyH_ready (rs := [9]) (by kernel_rfl) (by simp) (AllReadyH.cons rfl (fun K hK => ?_) AllReadyH.nil)
          obtain ⟨e0, e1, f0, f1⟩ := p7
          go_simp
          refine hK.out _ _ ((hHeld.set c3).set c3) (fun hHeld => ?_)
          clear hK K
          replace p7 := PtAt.put (x := bx) (y := byy) ⟨e0, e1, f0, f1⟩
          replace p6 := (p6.far (z := .float .f64 bx) (o := 0) c1).far (z := .float .f64 byy) (o := 1) c1
          refine wpAnyH_done (by kernel_rfl) ?_ _
          go_wp2_with fail
          go_meet
          exact ⟨_, _, rfl, rfl, hHeld.below, hHeld.p, hHeld.q, p6, p7⟩
        · go_simp
          refine hK.out _ _ (hHeld.keep (below1 _ _)) (fun hHeld => ?_)
          clear hK K
          have hb21 := below1 W18 (.cells #[.float .f64 0, .float .f64 0] 32)
          have p7 := PtAt.new W18 0 0 32
          have l7 : W18.heap.size < (W18.alloc (.cells #[.float .f64 0, .float .f64 0] 32)).heap.size := by simp
          have hz21 : W18.heap.size ≤ (W18.alloc (.cells #[.float .f64 0, .float .f64 0] 32)).heap.size := by simp
          generalize W18.alloc (.cells #[.float .f64 0, .float .f64 0] 32) = W21 at *
          have p6 := p6.old hb21 l6
          have l6 := Nat.lt_of_lt_of_le l6 hz21
          try simp only [List.getElem_toArray, List.getElem_cons_zero, List.getElem_cons_succ, Act.put, List.setIfInBounds_toArray, List.set_cons_zero, List.set_cons_succ]
          refine wpAnyH_ready (rs := [5]) (by kernel_rfl) (by simp) (AllReadyH.cons rfl (fun K hK => ?_) AllReadyH.nil)
          go_simp
          go_at_call 11
          refine (transformed (prodM s2) qx qy bx byy b1 b2 b3 b4 b5 b6 B1.out B2.out _).mono ?_
          rintro e W22 ⟨rfl, hb22⟩
          refine hK.out _ _ (hHeld.keep hb22) (fun hHeld => ?_)
          clear hK K
          have hz22 := hb22.size
          have p6 := p6.old hb22 l6
          have l6 := Nat.lt_of_lt_of_le l6 hz22
          have p7 := p7.old hb22 l7
          have l7 := Nat.lt_of_lt_of_le l7 hz22
          try simp only [List.getElem_toArray, List.getElem_cons_zero, List.getElem_cons_succ, Act.put, List.setIfInBounds_toArray, List.set_cons_zero, List.set_cons_succ]
          have c1 : W0.heap.size ≠ W18.heap.size := by omega
          have c2 : W0.heap.size ≠ w.heap.size ∧ W0.heap.size ≠ w.heap.size + 1 ∧ W0.heap.size ≠ w'.heap.size ∧ w.heap.size ≤ W0.heap.size := by omega
          have c3 : W18.heap.size ≠ w.heap.size ∧ W18.heap.size ≠ w.heap.size + 1 ∧ W18.heap.size ≠ w'.heap.size ∧ w.heap.size ≤ W18.heap.size := by omega
          refine wpAnyH_ready (rs := [8]) (by kernel_rfl) (by simp) (AllReadyH.cons rfl (fun K hK => ?_) AllReadyH.nil)
          obtain ⟨e0, e1, f0, f1⟩ := p6
          go_simp
          refine hK.out _ _ ((hHeld.set c2).set c2) (fun hHeld => ?_)
          clear hK K
          replace p6 := PtAt.put (x := ax) (y := ay) ⟨e0, e1, f0, f1⟩
          replace p7 := (p7.far (z := .float .f64 ax) (o := 0) c1.symm).far (z := .float .f64 ay) (o := 1) c1.symm
          clear e0 e1 f0 f1
          generalize (W22.setCell ⟨W0.heap.size, 0, none⟩ (.float .f64 ax)).setCell ⟨W0.heap.size, 1, none⟩ (.float .f64 ay) = V1 at *
          try simp only [List.getElem_toArray, List.getElem_cons_zero, List.getElem_cons_succ, Act.put, List.setIfInBounds_toArray, List.set_cons_zero, List.set_cons_succ]
          refine wpAnyH_ready (rs := [9]) (by kernel_rfl) (by simp) (AllReadyH.cons rfl (fun K hK => ?_) AllReadyH.nil)
          obtain ⟨e0, e1, f0, f1⟩ := p7
          go_simp
          refine hK.out _ _ ((hHeld.set c3).set c3) (fun hHeld => ?_)
          clear hK K
          replace p7 := PtAt.put (x := bx) (y := byy) ⟨e0, e1, f0, f1⟩
          replace p6 := (p6.far (z := .float .f64 bx) (o := 0) c1).far (z := .float .f64 byy) (o := 1) c1
          refine wpAnyH_done (by kernel_rfl) ?_ _
          go_wp2_with fail
          go_meet
          exact ⟨_, _, rfl, rfl, hHeld.below, hHeld.p, hHeld.q, p6, p7⟩
      · go_simp
        refine hK.out _ _ (hHeld.keep (below1 _ _)) (fun hHeld => ?_)
        clear hK K
        have hb23 := below1 W17 (.cells #[.float .f64 0, .float .f64 0] 32)
        have p7 := PtAt.new W17 0 0 32
        have l7 : W17.heap.size < (W17.alloc (.cells #[.float .f64 0, .float .f64 0] 32)).heap.size := by simp
        have hz23 : W17.heap.size ≤ (W17.alloc (.cells #[.float .f64 0, .float .f64 0] 32)).heap.size := by simp
        generalize W17.alloc (.cells #[.float .f64 0, .float .f64 0] 32) = W23 at *
        have p6 := p6.old hb23 l6
        have l6 := Nat.lt_of_lt_of_le l6 hz23
        try simp only [List.getElem_toArray, List.getElem_cons_zero, List.getElem_cons_succ, Act.put, List.setIfInBounds_toArray, List.set_cons_zero, List.set_cons_succ]
        refine wpAnyH_ready (rs := [2]) (by kernel_rfl) (by simp) (AllReadyH.cons rfl (fun K hK => ?_) AllReadyH.nil)
        go_simp
        go_at_call 11
        refine (transformed (prodM s2) px py ax ay a1 a2 a3 a4 a5 a6 A1.out A2.out _).mono ?_
        rintro e W24 ⟨rfl, hb24⟩
        refine hK.out _ _ (hHeld.keep hb24) (fun hHeld => ?_)
        clear hK K
        have hz24 := hb24.size
        have p6 := p6.old hb24 l6
        have l6 := Nat.lt_of_lt_of_le l6 hz24
        have p7 := p7.old hb24 l7
        have l7 := Nat.lt_of_lt_of_le l7 hz24
        try simp only [List.getElem_toArray, List.getElem_cons_zero, List.getElem_cons_succ, Act.put, List.setIfInBounds_toArray, List.set_cons_zero, List.set_cons_succ]
        refine wpAnyH_ready (rs := [5]) (by kernel_rfl) (by simp) (AllReadyH.cons rfl (fun K hK => ?_) AllReadyH.nil)
        go_simp
        go_at_call 11
        refine (transformed (prodM s2) qx qy bx byy b1 b2 b3 b4 b5 b6 B1.out B2.out _).mono ?_
        rintro e W25 ⟨rfl, hb25⟩
        refine hK.out _ _ (hHeld.keep hb25) (fun hHeld => ?_)
        clear hK K
        have hz25 := hb25.size
        have p6 := p6.old hb25 l6
        have l6 := Nat.lt_of_lt_of_le l6 hz25
        have p7 := p7.old hb25 l7
        have l7 := Nat.lt_of_lt_of_le l7 hz25
        try simp only [List.getElem_toArray, List.getElem_cons_zero, List.getElem_cons_succ, Act.put, List.setIfInBounds_toArray, List.set_cons_zero, List.set_cons_succ]
        have c1 : W0.heap.size ≠ W17.heap.size := by omega
        have c2 : W0.heap.size ≠ w.heap.size ∧ W0.heap.size ≠ w.heap.size + 1 ∧ W0.heap.size ≠ w'.heap.size ∧ w.heap.size ≤ W0.heap.size := by omega
        have c3 : W17.heap.size ≠ w.heap.size ∧ W17.heap.size ≠ w.heap.size + 1 ∧ W17.heap.size ≠ w'.heap.size ∧ w.heap.size ≤ W17.heap.size := by omega
        refine wpAnyH_ready (rs := [8]) (by kernel_rfl) (by simp) (AllReadyH.cons rfl (fun K hK => ?_) AllReadyH.nil)
        obtain ⟨e0, e1, f0, f1⟩ := p6
        go_simp
        refine hK.out _ _ ((hHeld.set c2).set c2) (fun hHeld => ?_)
        clear hK K
        replace p6 := PtAt.put (x := ax) (y := ay) ⟨e0, e1, f0, f1⟩
        replace p7 := (p7.far (z := .float .f64 ax) (o := 0) c1.symm).far (z := .float .f64 ay) (o := 1) c1.symm
        clear e0 e1 f0 f1
        generalize (W25.setCell ⟨W0.heap.size, 0, none⟩ (.float .f64 ax)).setCell ⟨W0.heap.size, 1, none⟩ (.float .f64 ay) = V1 at *
        try simp only [List.getElem_toArray, List.getElem_cons_zero, List.getElem_cons_succ, Act.put, List.setIfInBounds_toArray, List.set_cons_zero, List.set_cons_succ]
        refine wpAnyH_ready (rs := [9]) (by kernel_rfl) (by simp) (AllReadyH.cons rfl (fun K hK => ?_) AllReadyH.nil)
        obtain ⟨e0, e1, f0, f1⟩ := p7
        go_simp
        refine hK.out _ _ ((hHeld.set c3).set c3) (fun hHeld => ?_)
        clear hK K
        replace p7 := PtAt.put (x := bx) (y := byy) ⟨e0, e1, f0, f1⟩
        replace p6 := (p6.far (z := .float .f64 bx) (o := 0) c1).far (z := .float .f64 byy) (o := 1) c1
        refine wpAnyH_done (by kernel_rfl) ?_ _
        go_wp2_with fail
        go_meet
        exact ⟨_, _, rfl, rfl, hHeld.below, hHeld.p, hHeld.q, p6, p7⟩
    · go_simp
      refine hK.out _ _ (hHeld.keep (below1 _ _)) (fun hHeld => ?_)
      clear hK K
      have hb26 := below1 W0 (.cells #[.float .f64 0, .float .f64 0] 32)
      have p7 := PtAt.new W0 0 0 32
      have l7 : W0.heap.size < (W0.alloc (.cells #[.float .f64 0, .float .f64 0] 32)).heap.size := by simp
      have hz26 : W0.heap.size ≤ (W0.alloc (.cells #[.float .f64 0, .float .f64 0] 32)).heap.size := by simp
      generalize W0.alloc (.cells #[.float .f64 0, .float .f64 0] 32) = W26 at *
      try simp only [List.getElem_toArray, List.getElem_cons_zero, List.getElem_cons_succ, Act.put, List.setIfInBounds_toArray, List.set_cons_zero, List.set_cons_succ]
      refine wpAnyH_ready (rs := [2, 6]) (by kernel_rfl) (by simp) (AllReadyH.cons rfl (fun K hK => ?_) (AllReadyH.cons rfl (fun K hK => ?_) AllReadyH.nil))
      · go_simp
        go_at_call 11
        refine (transformed (prodM s2) px py ax ay a1 a2 a3 a4 a5 a6 A1.out A2.out _).mono ?_
        rintro e W27 ⟨rfl, hb27⟩
        refine hK.out _ _ (hHeld.keep hb27) (fun hHeld => ?_)
        clear hK K
        have hz27 := hb27.size
        have p7 := p7.old hb27 l7
        have l7 := Nat.lt_of_lt_of_le l7 hz27
        try simp only [List.getElem_toArray, List.getElem_cons_zero, List.getElem_cons_succ, Act.put, List.setIfInBounds_toArray, List.set_cons_zero, List.set_cons_succ]
        refine wpAnyH_ready (rs := [5, 6]) (by kernel_rfl) (by simp) (AllReadyH.cons rfl (fun K hK => ?_) (AllReadyH.cons rfl (fun K hK => ?_) AllReadyH.nil))
        · go_simp
          go_at_call 11
          refine (transformed (prodM s2) qx qy bx byy b1 b2 b3 b4 b5 b6 B1.out B2.out _).mono ?_
          rintro e W28 ⟨rfl, hb28⟩
          refine hK.out _ _ (hHeld.keep hb28) (fun hHeld => ?_)
          clear hK K
          have hz28 := hb28.size
          have p7 := p7.old hb28 l7
          have l7 := Nat.lt_of_lt_of_le l7 hz28
          try simp only [List.getElem_toArray, List.getElem_cons_zero, List.getElem_cons_succ, Act.put, List.setIfInBounds_toArray, List.set_cons_zero, List.set_cons_succ]
          refine wpAnyH_ready (rs := [6]) (by kernel_rfl) (by simp) (AllReadyH.cons rfl (fun K hK => ?_) AllReadyH.nil)
          go_simp
          refine hK.out _ _ (hHeld.keep (below1 _ _)) (fun hHeld => ?_)
          clear hK K
          have hb29 := below1 W28 (.cells #[.float .f64 0, .float .f64 0] 32)
          have p6 := PtAt.new W28 0 0 32
          have l6 : W28.heap.size < (W28.alloc (.cells #[.float .f64 0, .float .f64 0] 32)).heap.size := by simp
          have hz29 : W28.heap.size ≤ (W28.alloc (.cells #[.float .f64 0, .float .f64 0] 32)).heap.size := by simp
          generalize W28.alloc (.cells #[.float .f64 0, .float .f64 0] 32) = W29 at *
          have p7 := p7.old hb29 l7
          have l7 := Nat.lt_of_lt_of_le l7 hz29
          try simp only [List.getElem_toArray, List.getElem_cons_zero, List.getElem_cons_succ, Act.put, List.setIfInBounds_toArray, List.set_cons_zero, List.set_cons_succ]
          have c1 : W28.heap.size ≠ W0.heap.size := by omega
          have c2 : W28.heap.size ≠ w.heap.size ∧ W28.heap.size ≠ w.heap.size + 1 ∧ W28.heap.size ≠ w'.heap.size ∧ w.heap.size ≤ W28.heap.size := by omega
          have c3 : W0.heap.size ≠ w.heap.size ∧ W0.heap.size ≠ w.heap.size + 1 ∧ W0.heap.size ≠ w'.heap.size ∧ w.heap.size ≤ W0.heap.size := by omega
          refine wpAnyH_ready (rs := [8]) (by kernel_rfl) (by simp) (AllReadyH.cons rfl (fun K hK => ?_) AllReadyH.nil)
          obtain ⟨e0, e1, f0, f1⟩ := p6
          go_simp
          refine hK.out _ _ ((hHeld.set c2).set c2) (fun hHeld => ?_)
          clear hK K
          replace p6 := PtAt.put (x := ax) (y := ay) ⟨e0, e1, f0, f1⟩
          replace p7 := (p7.far (z := .float .f64 ax) (o := 0) c1.symm).far (z := .float .f64 ay) (o := 1) c1.symm
          clear e0 e1 f0 f1
          generalize (W29.setCell ⟨W28.heap.size, 0, none⟩ (.float .f64 ax)).setCell ⟨W28.heap.size, 1, none⟩ (.float .f64 ay) = V1 at *
          try simp only [List.getElem_toArray, List.getElem_cons_zero, List.getElem_cons_succ, Act.put, List.setIfInBounds_toArray, List.set_cons_zero, List.set_cons_succ]
          refine wpAnyH_ready (rs := [9]) (by kernel_rfl) (by simp) (AllReadyH.cons rfl (fun K hK => ?_) AllReadyH.nil)
          obtain ⟨e0, e1, f0, f1⟩ := p7
          go_simp
          refine hK.out _ _ ((hHeld.set c3).set c3) (fun hHeld => ?_)
          clear hK K
          replace p7 := PtAt.put (x := bx) (y := byy) ⟨e0, e1, f0, f1⟩
          replace p6 := (p6.far (z := .float .f64 bx) (o := 0) c1).far (z := .float .f64 byy) (o := 1) c1
          refine wpAnyH_done (by kernel_rfl) ?_ _
          go_wp2_with fail
          go_meet
          exact ⟨_, _, rfl, rfl, hHeld.below, hHeld.p, hHeld.q, p6, p7⟩
        · go_simp
          refine hK.out _ _ (hHeld.keep (below1 _ _)) (fun hHeld => ?_)
          clear hK K
          have hb30 := below1 W27 (.cells #[.float .f64 0, .float .f64 0] 32)
          have p6 := PtAt.new W27 0 0 32
          have l6 : W27.heap.size < (W27.alloc (.cells #[.float .f64 0, .float .f64 0] 32)).heap.size := by simp
          have hz30 : W27.heap.size ≤ (W27.alloc (.cells #[.float .f64 0, .float .f64 0] 32)).heap.size := by simp
          generalize W27.alloc (.cells #[.float .f64 0, .float .f64 0] 32) = W30 at *
          have p7 := p7.old hb30 l7
          have l7 := Nat.lt_of_lt_of_le l7 hz30
          try simp only [List.getElem_toArray, List.getElem_cons_zero, List.getElem_cons_succ, Act.put, List.setIfInBounds_toArray, List.set_cons_zero, List.set_cons_succ]
          refine wpAnyH_ready (rs := [5]) (by kernel_rfl) (by simp) (AllReadyH.cons rfl (fun K hK => ?_) AllReadyH.nil)
          go_simp
          go_at_call 11
          refine (transformed (prodM s2) qx qy bx byy b1 b2 b3 b4 b5 b6 B1.out B2.out _).mono ?_
          rintro e W31 ⟨rfl, hb31⟩
          refine hK.out _ _ (hHeld.keep hb31) (fun hHeld => ?_)
          clear hK K
          have hz31 := hb31.size
          have p7 := p7.old hb31 l7
          have l7 := Nat.lt_of_lt_of_le l7 hz31
          have p6 := p6.old hb31 l6
          have l6 := Nat.lt_of_lt_of_le l6 hz31
          try simp only [List.getElem_toArray, List.getElem_cons_zero, List.getElem_cons_succ, Act.put, List.setIfInBounds_toArray, List.set_cons_zero, List.set_cons_succ]
          have c1 : W27.heap.size ≠ W0.heap.size := by omega
          have c2 : W27.heap.size ≠ w.heap.size ∧ W27.heap.size ≠ w.heap.size + 1 ∧ W27.heap.size ≠ w'.heap.size ∧ w.heap.size ≤ W27.heap.size := by omega
          have c3 : W0.heap.size ≠ w.heap.size ∧ W0.heap.size ≠ w.heap.size + 1 ∧ W0.heap.size ≠ w'.heap.size ∧ w.heap.size ≤ W0.heap.size := by omega
          refine wpAnyH_ready (rs := [8]) (by kernel_rfl) (by simp) (AllReadyH.cons rfl (fun K hK => ?_) AllReadyH.nil)
          obtain ⟨e0, e1, f0, f1⟩ := p6
          go_simp
          refine hK.out _ _ ((hHeld.set c2).set c2) (fun hHeld => ?_)
          clear hK K
          replace p6 := PtAt.put (x := ax) (y := ay) ⟨e0, e1, f0, f1⟩
          replace p7 := (p7.far (z := .float .f64 ax) (o := 0) c1.symm).far (z := .float .f64 ay) (o := 1) c1.symm
          clear e0 e1 f0 f1
          generalize (W31.setCell ⟨W27.heap.size, 0, none⟩ (.float .f64 ax)).setCell ⟨W27.heap.size, 1, none⟩ (.float .f64 ay) = V1 at *
          try simp only [List.getElem_toArray, List.getElem_cons_zero, List.getElem_cons_succ, Act.put, List.setIfInBounds_toArray, List.set_cons_zero, List.set_cons_succ]
          refine wpAnyH_ready (rs := [9]) (by kernel_rfl) (by simp) (AllReadyH.cons rfl (fun K hK => ?_) AllReadyH.nil)
          obtain ⟨e0, e1, f0, f1⟩ := p7
          go_simp
          refine hK.out _ _ ((hHeld.set c3).set c3) (fun hHeld => ?_)
          clear hK K
          replace p7 := PtAt.put (x := bx) (y := byy) ⟨e0, e1, f0, f1⟩
          replace p6 := (p6.far (z := .float .f64 bx) (o := 0) c1).far (z := .float .f64 byy) (o := 1) c1
          refine wpAnyH_done (by kernel_rfl) ?_ _
          go_wp2_with fail
          go_meet
          exact ⟨_, _, rfl, rfl, hHeld.below, hHeld.p, hHeld.q, p6, p7⟩
      · go_simp
        refine hK.out _ _ (hHeld.keep (below1 _ _)) (fun hHeld => ?_)
        clear hK K
        have hb32 := below1 W26 (.cells #[.float .f64 0, .float .f64 0] 32)
        have p6 := PtAt.new W26 0 0 32
        have l6 : W26.heap.size < (W26.alloc (.cells #[.float .f64 0, .float .f64 0] 32)).heap.size := by simp
        have hz32 : W26.heap.size ≤ (W26.alloc (.cells #[.float .f64 0, .float .f64 0] 32)).heap.size := by simp
        generalize W26.alloc (.cells #[.float .f64 0, .float .f64 0] 32) = W32 at *
        have p7 := p7.old hb32 l7
        have l7 := Nat.lt_of_lt_of_le l7 hz32
        try simp only [List.getElem_toArray, List.getElem_cons_zero, List.getElem_cons_succ, Act.put, List.setIfInBounds_toArray, List.set_cons_zero, List.set_cons_succ]
        refine wpAnyH_ready (rs := [2]) (by kernel_rfl) (by simp) (AllReadyH.cons rfl (fun K hK => ?_) AllReadyH.nil)
        go_simp
        go_at_call 11
        refine (transformed (prodM s2) px py ax ay a1 a2 a3 a4 a5 a6 A1.out A2.out _).mono ?_
        rintro e W33 ⟨rfl, hb33⟩
        refine hK.out _ _ (hHeld.keep hb33) (fun hHeld => ?_)
        clear hK K
        have hz33 := hb33.size
        have p7 := p7.old hb33 l7
        have l7 := Nat.lt_of_lt_of_le l7 hz33
        have p6 := p6.old hb33 l6
        have l6 := Nat.lt_of_lt_of_le l6 hz33
        try simp only [List.getElem_toArray, List.getElem_cons_zero, List.getElem_cons_succ, Act.put, List.setIfInBounds_toArray, List.set_cons_zero, List.set_cons_succ]
        refine wpAnyH_ready (rs := [5]) (by kernel_rfl) (by simp) (AllReadyH.cons rfl (fun K hK => ?_) AllReadyH.nil)
        go_simp
        go_at_call 11
        refine (transformed (prodM s2) qx qy bx byy b1 b2 b3 b4 b5 b6 B1.out B2.out _).mono ?_
        rintro e W34 ⟨rfl, hb34⟩
        refine hK.out _ _ (hHeld.keep hb34) (fun hHeld => ?_)
        clear hK K
        have hz34 := hb34.size
        have p7 := p7.old hb34 l7
        have l7 := Nat.lt_of_lt_of_le l7 hz34
        have p6 := p6.old hb34 l6
        have l6 := Nat.lt_of_lt_of_le l6 hz34
        try simp only [List.getElem_toArray, List.getElem_cons_zero, List.getElem_cons_succ, Act.put, List.setIfInBounds_toArray, List.set_cons_zero, List.set_cons_succ]
        have c1 : W26.heap.size ≠ W0.heap.size := by omega
        have c2 : W26.heap.size ≠ w.heap.size ∧ W26.heap.size ≠ w.heap.size + 1 ∧ W26.heap.size ≠ w'.heap.size ∧ w.heap.size ≤ W26.heap.size := by omega
        have c3 : W0.heap.size ≠ w.heap.size ∧ W0.heap.size ≠ w.heap.size + 1 ∧ W0.heap.size ≠ w'.heap.size ∧ w.heap.size ≤ W0.heap.size := by omega
        refine wpAnyH_ready (rs := [8]) (by kernel_rfl) (by simp) (AllReadyH.cons rfl (fun K hK => ?_) AllReadyH.nil)
        obtain ⟨e0, e1, f0, f1⟩ := p6
        go_simp
        refine hK.out _ _ ((hHeld.set c2).set c2) (fun hHeld => ?_)
        clear hK K
        replace p6 := PtAt.put (x := ax) (y := ay) ⟨e0, e1, f0, f1⟩
        replace p7 := (p7.far (z := .float .f64 ax) (o := 0) c1.symm).far (z := .float .f64 ay) (o := 1) c1.symm
        clear e0 e1 f0 f1
        generalize (W34.setCell ⟨W26.heap.size, 0, none⟩ (.float .f64 ax)).setCell ⟨W26.heap.size, 1, none⟩ (.float .f64 ay) = V1 at *
        try simp only [List.getElem_toArray, List.getElem_cons_zero, List.getElem_cons_succ, Act.put, List.setIfInBounds_toArray, List.set_cons_zero, List.set_cons_succ]
        refine wpAnyH_ready (rs := [9]) (by kernel_rfl) (by simp) (AllReadyH.cons rfl (fun K hK => ?_) AllReadyH.nil)
        obtain ⟨e0, e1, f0, f1⟩ := p7
        go_simp
        refine hK.out _ _ ((hHeld.set c3).set c3) (fun hHeld => ?_)
        clear hK K
        replace p7 := PtAt.put (x := bx) (y := byy) ⟨e0, e1, f0, f1⟩
        replace p6 := (p6.far (z := .float .f64 bx) (o := 0) c1).far (z := .float .f64 byy) (o := 1) c1
        refine wpAnyH_done (by kernel_rfl) ?_ _
        go_wp2_with fail
        go_meet
        exact ⟨_, _, rfl, rfl, hHeld.below, hHeld.p, hHeld.q, p6, p7⟩
  case rest =>
    obtain ⟨c1, c2, rfl, rfl, hb, ⟨p0, p1, _, _⟩, ⟨q0, q1, _, _⟩, ⟨i0, i1, _, _⟩, ⟨j0, j1, _, _⟩⟩ := hcut
    obtain ⟨g1, g2, ⟨d3, g3, g4⟩, g5⟩ := HFar.out
    obtain ⟨h1, h2, ⟨d4, h3, h4⟩, h5⟩ := HNow.out
    obtain ⟨⟨k1, k2, k3, l1, l2, l3, l4⟩, k4, k5, k6, l5, l6, l7, l8⟩ := HEnd.out
    have r1 := rs g1
    have r2 := rm g2
    have r3 := rs g3
    have r4 := rm g4
    have r5 := ra g5
    have s1 := rs h1
    have s2 := rm h2
    have s3 := rs h3
    have s4 := rm h4
    have s5 := ra h5
    have t1 := rs l1
    have t2 := ra l2
    have t3 := rm l3
    have t4 := rs l5
    obtain rfl := Option.some.inj (l2.symm.trans l6)
    obtain rfl := Option.some.inj (l3.symm.trans l7)
    clear g1 g2 g3 g4 g5 h1 h2 h3 h4 h5 l1 l2 l3 l5 l6 l7
    go_wp2
    go_ret
    exact ⟨rfl, hb⟩
end Go.Proofs.YthjbaeipdjoenaaDoor
