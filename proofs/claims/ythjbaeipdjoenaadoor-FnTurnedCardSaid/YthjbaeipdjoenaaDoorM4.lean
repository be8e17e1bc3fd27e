/-
Contract of matrix.CalcTransformMatrix and impl.Placed: the product of the three matrices. Conditions: the words of the products and sums; IdentMatrix holds what its text says.
-/
import Derived.Test.YthjbaeipdjoenaaDoorM1
import Derived.Deep.RegionHeld3
import Derived.Deep.DrawnRows
import Derived.StillTailTactics
namespace Go.Proofs.YthjbaeipdjoenaaDoor
open Go.RowKit Fl

/-- A matrix by its nine words. -/
def mat (a b c d e f g h i : Nat) (o : Nat) : Nat := [a, b, c, d, e, f, g, h, i].getD o 0
abbrev one1 : Nat := 4607182418800017408
def scaleM (sx sy : Nat) : Nat → Nat := mat sx 0 0 0 sy 0 0 0 one1
def turnM (sin msin cos : Nat) : Nat → Nat := mat cos sin 0 msin cos 0 0 0 one1
def moveM (dx dy : Nat) : Nat → Nat := mat one1 0 0 0 one1 0 dx dy one1
def identM : Nat → Nat := mat one1 0 0 0 one1 0 0 0 one1
def prodM (s : Nat → Nat → Nat → Nat) (o : Nat) : Nat := s (o / 3) (o % 3) 3
/-- What IdentMatrix holds. -/
def Ident (w : World) : Prop := ∀ o, o < 9 → w.cell? ⟨0, o, none⟩ = some (.float .f64 (identM o))

theorem wp_abs {P : Program} {c : Code} {Q : Exit → Act → World → Prop} {a : Act} {W : World} (S : World → Prop) (hs : S W) (h : ∀ w', S w' → c.wp P Q a w') : c.wp P Q a W := h W hs
/-- The four matrices' blocks. -/
def Four (w : World) (n sx sy sin ms cos dx dy : Nat) (w' : World) : Prop :=
  Below w.heap.size w w' ∧ n + 1 + 1 + 1 < w'.heap.size ∧ (∃ Z, MatAt w' n Z) ∧ MatAt w' (n + 1) (scaleM sx sy) ∧ MatAt w' (n + 1 + 1) (turnM sin ms cos) ∧ MatAt w' (n + 1 + 1 + 1) (moveM dx dy)
theorem Four.keep {w w1 w2 : World} {n sx sy sin ms cos dx dy : Nat} (h : Four w n sx sy sin ms cos dx dy w1) (hb : Below w1.heap.size w1 w2) : Four w n sx sy sin ms cos dx dy w2 := by
  obtain ⟨h1, h2, h3, h4, h5, h6⟩ := h
  have hs := hb.size
  obtain ⟨Z, h3⟩ := h3
  exact ⟨h1.trans (hb.mono h1.size), by omega, ⟨Z, h3.old hb (by omega)⟩, h4.old hb (by omega), h5.old hb (by omega), h6.old hb (by omega)⟩
theorem Four.cells {w w' : World} {n sx sy sin ms cos dx dy : Nat} (h : Four w n sx sy sin ms cos dx dy w') :
    (w'.cell? ⟨n + 1, 0, none⟩ = some (.float .f64 sx) ∧ w'.cell? ⟨n + 1, 1, none⟩ = some (.float .f64 0) ∧ w'.cell? ⟨n + 1, 2, none⟩ = some (.float .f64 0) ∧ w'.cell? ⟨n + 1, 3, none⟩ = some (.float .f64 0) ∧ w'.cell? ⟨n + 1, 4, none⟩ = some (.float .f64 sy) ∧ w'.cell? ⟨n + 1, 5, none⟩ = some (.float .f64 0) ∧ w'.cell? ⟨n + 1, 6, none⟩ = some (.float .f64 0) ∧ w'.cell? ⟨n + 1, 7, none⟩ = some (.float .f64 0) ∧ w'.cell? ⟨n + 1, 8, none⟩ = some (.float .f64 one1)) ∧
    (w'.cell? ⟨n + 1 + 1, 0, none⟩ = some (.float .f64 cos) ∧ w'.cell? ⟨n + 1 + 1, 1, none⟩ = some (.float .f64 sin) ∧ w'.cell? ⟨n + 1 + 1, 2, none⟩ = some (.float .f64 0) ∧ w'.cell? ⟨n + 1 + 1, 3, none⟩ = some (.float .f64 ms) ∧ w'.cell? ⟨n + 1 + 1, 4, none⟩ = some (.float .f64 cos) ∧ w'.cell? ⟨n + 1 + 1, 5, none⟩ = some (.float .f64 0) ∧ w'.cell? ⟨n + 1 + 1, 6, none⟩ = some (.float .f64 0) ∧ w'.cell? ⟨n + 1 + 1, 7, none⟩ = some (.float .f64 0) ∧ w'.cell? ⟨n + 1 + 1, 8, none⟩ = some (.float .f64 one1)) ∧
    (w'.cell? ⟨n + 1 + 1 + 1, 0, none⟩ = some (.float .f64 one1) ∧ w'.cell? ⟨n + 1 + 1 + 1, 1, none⟩ = some (.float .f64 0) ∧ w'.cell? ⟨n + 1 + 1 + 1, 2, none⟩ = some (.float .f64 0) ∧ w'.cell? ⟨n + 1 + 1 + 1, 3, none⟩ = some (.float .f64 0) ∧ w'.cell? ⟨n + 1 + 1 + 1, 4, none⟩ = some (.float .f64 one1) ∧ w'.cell? ⟨n + 1 + 1 + 1, 5, none⟩ = some (.float .f64 0) ∧ w'.cell? ⟨n + 1 + 1 + 1, 6, none⟩ = some (.float .f64 dx) ∧ w'.cell? ⟨n + 1 + 1 + 1, 7, none⟩ = some (.float .f64 dy) ∧ w'.cell? ⟨n + 1 + 1 + 1, 8, none⟩ = some (.float .f64 one1)) := by
  obtain ⟨h1, h2, h3, h4, h5, h6⟩ := h
  exact ⟨⟨(h4 0 (by omega)).1, (h4 1 (by omega)).1, (h4 2 (by omega)).1, (h4 3 (by omega)).1, (h4 4 (by omega)).1, (h4 5 (by omega)).1, (h4 6 (by omega)).1, (h4 7 (by omega)).1, (h4 8 (by omega)).1⟩, ⟨(h5 0 (by omega)).1, (h5 1 (by omega)).1, (h5 2 (by omega)).1, (h5 3 (by omega)).1, (h5 4 (by omega)).1, (h5 5 (by omega)).1, (h5 6 (by omega)).1, (h5 7 (by omega)).1, (h5 8 (by omega)).1⟩, (h6 0 (by omega)).1, (h6 1 (by omega)).1, (h6 2 (by omega)).1, (h6 3 (by omega)).1, (h6 4 (by omega)).1, (h6 5 (by omega)).1, (h6 6 (by omega)).1, (h6 7 (by omega)).1, (h6 8 (by omega)).1⟩

theorem MatAt.far {w : World} {b n p : Nat} {X : Nat → Nat} {v : Value} (h : MatAt w b X) (hb : b ≠ n) : MatAt (w.setCell ⟨n, p, none⟩ v) b X := fun o ho =>
  ⟨(World.cell?_setCell_other w ⟨n, p, none⟩ ⟨b, o, none⟩ _ (by intro e; exact hb (congrArg Addr.block e).symm)).trans (h o ho).1, (World.frozen?_setCell w _ _ _).trans (h o ho).2⟩
theorem MatAt.near {w : World} {n p x : Nat} {Z : Nat → Nat} (h : MatAt w n Z) (hp : p < 9) : MatAt (w.setCell ⟨n, p, none⟩ (.float .f64 x)) n (fun o => if o = p then x else Z o) := fun o ho => by
  refine ⟨?_, (World.frozen?_setCell w _ _ _).trans (h o ho).2⟩
  by_cases q : o = p
  · subst q; simp only [if_pos]; exact World.cell?_setCell_same w _ _ (h o ho).1
  · simp only [if_neg q]
    exact (World.cell?_setCell_other w ⟨n, p, none⟩ ⟨n, o, none⟩ _ (by intro e; exact q (congrArg Addr.off e).symm)).trans (h o ho).1
theorem Four.set {w w1 : World} {sx sy sin ms cos dx dy : Nat} (p x : Nat) (hp : p < 9) (h : Four w w.heap.size sx sy sin ms cos dx dy w1) : Four w w.heap.size sx sy sin ms cos dx dy (w1.setCell ⟨w.heap.size, p, none⟩ (.float .f64 x)) := by
  obtain ⟨h1, h2, ⟨Z, h3⟩, h4, h5, h6⟩ := h
  exact ⟨h1.setCell (by simp) _, by simpa using h2, ⟨_, h3.near hp⟩, h4.far (by omega), h5.far (by omega), h6.far (by omega)⟩

theorem calcT (sx sy sin cos dx dy : Nat) (m s m2 s2 : Nat → Nat → Nat → Nat) (h1 : Mul3 (scaleM sx sy) (turnM sin (Op.negFloat .f64 sin) cos) m s) (h2 : Mul3 (prodM s) (moveM dx dy) m2 s2) (w : World) (hI : Ident w) (hp : 0 < w.heap.size) :
    Calls Tryd.prog 15 #[.float .f64 sx, .float .f64 sy, .float .f64 sin, .float .f64 cos, .float .f64 dx, .float .f64 dy] w fun e w' => e = .returned (matV (prodM s2)) ∧ Below w.heap.size w w' := by
  have H1 := Lib.hid h1
  have H2 := Lib.hid h2
  clear h1 h2
  have hp0 : (0 : Nat) ≠ w.heap.size := by omega
  have i0 := hI 0 (by omega)
  have i1 := hI 1 (by omega)
  have i2 := hI 2 (by omega)
  have i3 := hI 3 (by omega)
  have i4 := hI 4 (by omega)
  have i5 := hI 5 (by omega)
  have i6 := hI 6 (by omega)
  have i7 := hI 7 (by omega)
  have i8 := hI 8 (by omega)
  simp only [identM, mat, List.getD_cons_zero, List.getD_cons_succ] at i0 i1 i2 i3 i4 i5 i6 i7 i8
  clear hI
  have hneg : ∀ (x : Nat) (w : World), (Op.unary .neg (.float .f64 x)).run Tryd.prog w = .ok (.float .f64 (Op.negFloat .f64 x)) w := fun _ _ => rfl
  go_enter Tryd.func15, Tryd.ntmps15
  go_wp2
  refine wp_abs (Four w w.heap.size sx sy sin (Op.negFloat .f64 sin) cos dx dy) ?_ ?_
  · refine ⟨?_, by simp, ?_, ?_, ?_, ?_⟩
    · exact (((below1 _ _).alloc (by simp) _).alloc (by simp <;> omega) _).alloc (by simp <;> omega) _
    · exact ⟨fun _ => 0, (((MatAt.new w (fun _ => 0) 43).old (below1 _ _) (by simp)).old (below1 _ _) (by simp <;> omega)).old (below1 _ _) (by simp <;> omega)⟩
    · exact ((((MatAt.new _ (scaleM sx sy) 43).at (by simp)).old (below1 _ _) (by simp)).old (below1 _ _) (by simp <;> omega))
    · exact ((MatAt.new _ (turnM sin (Op.negFloat .f64 sin) cos) 43).at (by simp)).old (below1 _ _) (by simp)
    · exact (MatAt.new _ (moveM dx dy) 43).at (by simp)
  intro W hF
  clear i0 i1 i2 i3 i4 i5 i6 i7 i8
  have HF := Lib.hid hF
  clear HF
  refine wp_region_held_drew (S := Four w w.heap.size sx sy sin (Op.negFloat .f64 sin) cos dx dy) (by kernel_rfl) ?_ (fun hHeld => ?_)
  · exact hF.keep (Below.refl _ _).drew
  refine wpAnyH_take (i := 0) (v := .agg #[.float .f64 sx, .float .f64 0, .float .f64 0, .float .f64 0, .float .f64 sy, .float .f64 0, .float .f64 0, .float .f64 0, .float .f64 one1]) rfl (by kernel_rfl) (by kernel_rfl) (by kernel_rfl) (fun _ _ _ h => h) (Or.inl ⟨by rfl, ?y0⟩) (by assumption) ?r0
  case y0 =>
    intro w1 hSw
    obtain ⟨⟨p0, p1, p2, p3, p4, p5, p6, p7, p8⟩, ⟨q0, q1, q2, q3, q4, q5, q6, q7, q8⟩, ⟨r0, r1, r2, r3, r4, r5, r6, r7, r8⟩⟩ := hSw.cells
    go_simp
    try with_reducible rfl
  try simp only [List.getElem_toArray, List.getElem_cons_zero, Act.put, List.setIfInBounds_toArray, List.set_cons_zero, List.set_cons_succ]
  refine wpAnyH_take (i := 1) (v := .agg #[.float .f64 cos, .float .f64 sin, .float .f64 0, .float .f64 (Op.negFloat .f64 sin), .float .f64 cos, .float .f64 0, .float .f64 0, .float .f64 0, .float .f64 one1]) rfl (by kernel_rfl) (by kernel_rfl) (by kernel_rfl) (fun _ _ _ h => h) (Or.inl ⟨by rfl, ?y1⟩) (by assumption) ?r1
  case y1 =>
    intro w1 hSw
    obtain ⟨⟨p0, p1, p2, p3, p4, p5, p6, p7, p8⟩, ⟨q0, q1, q2, q3, q4, q5, q6, q7, q8⟩, ⟨r0, r1, r2, r3, r4, r5, r6, r7, r8⟩⟩ := hSw.cells
    go_simp
    try with_reducible rfl
  try simp only [List.getElem_toArray, List.getElem_cons_zero, List.getElem_cons_succ, Act.put, List.setIfInBounds_toArray, List.set_cons_zero, List.set_cons_succ]
  refine wpAnyH_take (i := 3) (v := .agg #[.float .f64 one1, .float .f64 0, .float .f64 0, .float .f64 0, .float .f64 one1, .float .f64 0, .float .f64 dx, .float .f64 dy, .float .f64 one1]) rfl (by kernel_rfl) (by kernel_rfl) (by kernel_rfl) (fun _ _ _ h => h) (Or.inl ⟨by rfl, ?y3⟩) (by assumption) ?r3
  case y3 =>
    intro w1 hSw
    obtain ⟨⟨p0, p1, p2, p3, p4, p5, p6, p7, p8⟩, ⟨q0, q1, q2, q3, q4, q5, q6, q7, q8⟩, ⟨r0, r1, r2, r3, r4, r5, r6, r7, r8⟩⟩ := hSw.cells
    go_simp
    try with_reducible rfl
  try simp only [List.getElem_toArray, List.getElem_cons_zero, List.getElem_cons_succ, Act.put, List.setIfInBounds_toArray, List.set_cons_zero, List.set_cons_succ]
  refine wpAnyH_ready (rs := [2]) (by kernel_rfl) (by simp) (AllReadyH.cons rfl (fun K hK => ?_) AllReadyH.nil)
  go_simp
  go_at_call 18
  refine (multiply (scaleM sx sy) (turnM sin (Op.negFloat .f64 sin) cos) m s H1.out _).mono ?_
  rintro e w' ⟨rfl, hb⟩
  refine hK.out _ _ ?_ (fun hHeld => ?_)
  · exact Four.keep (by assumption) hb
  clear hK K
  try simp only [List.getElem_toArray, List.getElem_cons_zero, List.getElem_cons_succ, Act.put, List.setIfInBounds_toArray, List.set_cons_zero, List.set_cons_succ]
  refine wpAnyH_ready (rs := [4]) (by kernel_rfl) (by simp) (AllReadyH.cons rfl (fun K hK => ?_) AllReadyH.nil)
  go_simp
  go_at_call 18
  refine (multiply (prodM s) (moveM dx dy) m2 s2 H2.out _).mono ?_
  rintro e w' ⟨rfl, hb⟩
  refine hK.out _ _ ?_ (fun hHeld => ?_)
  · exact Four.keep (by assumption) hb
  clear hK K
  try simp only [List.getElem_toArray, List.getElem_cons_zero, List.getElem_cons_succ, Act.put, List.setIfInBounds_toArray, List.set_cons_zero, List.set_cons_succ]
  obtain ⟨Z, hZ⟩ := hHeld.2.2.1
  have z0 := (hZ 0 (by omega)).1
  have y0 := (hZ 0 (by omega)).2
  have z1 := (hZ 1 (by omega)).1
  have y1 := (hZ 1 (by omega)).2
  have z2 := (hZ 2 (by omega)).1
  have y2 := (hZ 2 (by omega)).2
  have z3 := (hZ 3 (by omega)).1
  have y3 := (hZ 3 (by omega)).2
  have z4 := (hZ 4 (by omega)).1
  have y4 := (hZ 4 (by omega)).2
  have z5 := (hZ 5 (by omega)).1
  have y5 := (hZ 5 (by omega)).2
  have z6 := (hZ 6 (by omega)).1
  have y6 := (hZ 6 (by omega)).2
  have z7 := (hZ 7 (by omega)).1
  have y7 := (hZ 7 (by omega)).2
  have z8 := (hZ 8 (by omega)).1
  have y8 := (hZ 8 (by omega)).2
  refine wpAnyH_ready (rs := [5]) (by kernel_rfl) (by simp) (AllReadyH.cons rfl (fun K hK => ?_) AllReadyH.nil)
  go_simp
  refine hK.out _ _ ?_ (fun hHeld2 => ?_)
  · exact (((((((((hHeld.set 0 _ (by omega)).set 1 _ (by omega)).set 2 _ (by omega)).set 3 _ (by omega)).set 4 _ (by omega)).set 5 _ (by omega)).set 6 _ (by omega)).set 7 _ (by omega)).set 8 _ (by omega))
  clear hK K
  refine wpAnyH_done (by kernel_rfl) ?_ _
  go_wp2
  exact bodyPost_ret (v := matV (prodM s2)) (by simp [results, Tryd.results15, go_sem, z0, z1, z2, z3, z4, z5, z6, z7, z8, matV, prodM]) rfl ⟨rfl, hHeld2.1⟩
end Go.Proofs.YthjbaeipdjoenaaDoor
