/-
Contracts of Matrix.Transform, impl.Transformed, impl.Multiplied, spec.Moved and nearWide. Conditions: the words of the products and sums.
-/
import Derived.Test.YtooghncdhjdcpaaN1
namespace Go.Proofs.Ytooghncdhjdcpaa
open Go.RowKit Fl

abbrev fm (a b : Nat) : Option Nat := floatBits .mul .f64 a b
abbrev fa (a b : Nat) : Option Nat := floatBits .add .f64 a b
abbrev fs (a b : Nat) : Option Nat := floatBits .sub .f64 a b
section
variable {x y : Nat} {r : Nat}
theorem rm (h : fm x y = some r) : ∀ (t : TypeId) (w : World), (binOp .mul t (.float .f64 x) (.float .f64 y)).run Try.prog w = .ok (.float .f64 r) w := run_bin .mul h
theorem ra (h : fa x y = some r) : ∀ (t : TypeId) (w : World), (binOp .add t (.float .f64 x) (.float .f64 y)).run Try.prog w = .ok (.float .f64 r) w := run_bin .add h
theorem rs (h : fs x y = some r) : ∀ (t : TypeId) (w : World), (binOp .sub t (.float .f64 x) (.float .f64 y)).run Try.prog w = .ok (.float .f64 r) w := run_bin .sub h
end

/-- The words of a point moved by a matrix: one of its two sides (j: 0 or 1). -/
structure Tr1 (X : Nat → Nat) (j px py r a b c : Nat) : Prop where
  m1 : fm px (X j) = some a
  m2 : fm py (X (3 + j)) = some b
  a1 : fa a b = some c
  a2 : fa c (X (6 + j)) = some r
abbrev pt (x y : Nat) : Value := .agg #[.float .f64 x, .float .f64 y]

theorem transform (X : Nat → Nat) (px py x y a b c d e f : Nat) (hx : Tr1 X 0 px py x a b c) (hy : Tr1 X 1 px py y d e f) (w : World) :
    Calls Try.prog 71 #[matV X, pt px py] w fun e w' => e = .returned (pt x y) ∧ Below w.heap.size w w' := by
  obtain ⟨h1, h2, h3, h4⟩ := hx
  obtain ⟨h5, h6, h7, h8⟩ := hy
  have r1 := rm h1
  have r2 := rm h2
  have r3 := ra h3
  have r4 := ra h4
  have r5 := rm h5
  have r6 := rm h6
  have r7 := ra h7
  have r8 := ra h8
  clear h1 h2 h3 h4 h5 h6 h7 h8
  go_enter Try.func71, Try.ntmps71
  go_wp2
  exact bodyPost_ret (v := pt x y) (by simp [results, Try.results71, go_sem]) rfl ⟨rfl, ((below1 _ _).alloc (by simp) _).alloc (by simp <;> omega) _⟩
/-- Two cells of a block. -/
def PtAt (w : World) (b x y : Nat) : Prop := w.cell? ⟨b, 0, none⟩ = some (.float .f64 x) ∧ w.cell? ⟨b, 1, none⟩ = some (.float .f64 y) ∧ w.frozen? ⟨b, 0, none⟩ = false ∧ w.frozen? ⟨b, 1, none⟩ = false
theorem PtAt.old {w w' : World} {b x y : Nat} (h : PtAt w b x y) (hb : Below w.heap.size w w') (l : b < w.heap.size) : PtAt w' b x y :=
  ⟨(hb.cell (p := ⟨b, 0, none⟩) l).trans h.1, (hb.cell (p := ⟨b, 1, none⟩) l).trans h.2.1, (hb.frozen (p := ⟨b, 0, none⟩) l).trans h.2.2.1, (hb.frozen (p := ⟨b, 1, none⟩) l).trans h.2.2.2⟩
theorem PtAt.new (w : World) (x y : Nat) (t : TypeId) : PtAt (w.alloc (.cells #[.float .f64 x, .float .f64 y] t)) w.heap.size x y :=
  ⟨by simp only [World.cell?, World.alloc, Array.getElem?_push, if_true]; rfl, by simp only [World.cell?, World.alloc, Array.getElem?_push, if_true]; rfl, by simp only [World.frozen?, World.alloc, Array.getElem?_push, if_true]; rfl, by simp only [World.frozen?, World.alloc, Array.getElem?_push, if_true]; rfl⟩
theorem PtAt.at {w : World} {b b' x y : Nat} (h : PtAt w b x y) (e : b' = b) : PtAt w b' x y := e ▸ h

theorem transformed (X : Nat → Nat) (px py x y a b c d e f : Nat) (hx : Tr1 X 0 px py x a b c) (hy : Tr1 X 1 px py y d e f) (w : World) :
    Calls Try.prog 37 #[matV X, pt px py] w fun e w' => e = .returned (pt x y) ∧ Below w.heap.size w w' := by
  have H1 := Lib.hid hx
  have H2 := Lib.hid hy
  clear hx hy
  go_enter Try.func37, Try.ntmps37
  go_wp2_with (go_at_call 71; refine (transform X px py x y a b c d e f H1.out H2.out _).mono ?_; rintro e w' ⟨rfl, hb⟩; have hz : w.heap.size + 1 + 1 < w'.heap.size := (by have := hb.size; simp at this; omega); have hn : w.heap.size + 1 + 1 ≠ w'.heap.size := (by omega); obtain ⟨q0, q1, q2, q3⟩ := ((PtAt.new ((w.alloc _).alloc _) 0 0 28).at (b' := w.heap.size + 1 + 1) (by simp)).old hb (by simp); have HB := Lib.hid hb; clear hb)
  refine bodyPost_ret (v := pt x y) (by simp [results, Try.results37, go_sem, q0, q1, hz]) rfl ⟨rfl, ?_⟩
  have hB := (((below1 w _).alloc (by simp) _).alloc (by simp <;> omega) _).trans (HB.out.mono (by simp <;> omega))
  exact ((hB.setCell (by simp <;> omega) _).setCell (by simp <;> omega) _).alloc (by simp <;> omega) _

/-- The words of two points that are near: each difference is below a thousandth. -/
structure NearW (x y : Nat) : Prop where
  one : ∃ d, fs x y = some d ∧ (FloatKind.f64.format.order d 4562254508917369340 == some Ordering.lt) = true
  two : ∃ d, fs y x = some d ∧ (FloatKind.f64.format.order d 4562254508917369340 == some Ordering.lt) = true
theorem nearWide (x y u v : Nat) (hx : NearW x u) (hy : NearW y v) (w : World) :
    Calls Try.prog 36 #[pt x y, pt u v] w fun e w' => e = .returned (.bool true) ∧ Below w.heap.size w w' := by
  obtain ⟨⟨d1, e1, f1⟩, d2, e2, f2⟩ := hx
  obtain ⟨⟨d3, e3, f3⟩, d4, e4, f4⟩ := hy
  have r1 := rs e1
  have r2 := rs e2
  have r3 := rs e3
  have r4 := rs e4
  clear e1 e2 e3 e4
  go_enter Try.func36, Try.ntmps36
  go_wp2
  go_ret
  exact ⟨rfl, (below1 _ _).alloc (by simp) _⟩

theorem moved (X : Nat → Nat) (px py x y a b c d e f : Nat) (hx : Tr1 X 0 px py x a b c) (hy : Tr1 X 1 px py y d e f) (w : World) :
    Calls Try.prog 38 #[matV X, pt px py] w fun e w' => e = .returned (pt x y) ∧ Below w.heap.size w w' := by
  obtain ⟨h1, h2, h3, h4⟩ := hx
  obtain ⟨h5, h6, h7, h8⟩ := hy
  have r1 := rm h1
  have r2 := rm h2
  have r3 := ra h3
  have r4 := ra h4
  have r5 := rm h5
  have r6 := rm h6
  have r7 := ra h7
  have r8 := ra h8
  clear h1 h2 h3 h4 h5 h6 h7 h8
  go_enter Try.func38, Try.ntmps38
  go_wp2
  exact bodyPost_ret (v := pt x y) (by simp [results, Try.results38, go_sem]) rfl ⟨rfl, ((below1 _ _).alloc (by simp) _).alloc (by simp <;> omega) _⟩

theorem multiplied (A B : Nat → Nat) (m s : Nat → Nat → Nat → Nat) (h : Mul3 A B m s) (w : World) :
    Calls Try.prog 33 #[matV A, matV B] w fun e w' => e = .returned (matV (prodM s)) ∧ Below w.heap.size w w' := by
  have H := Lib.hid h
  clear h
  go_enter Try.func33, Try.ntmps33
  go_wp2_with (go_at_call 70; refine (multiply A B m s H.out _).mono ?_; rintro e w' ⟨rfl, hb⟩; have hZ := ((MatAt.new ((w.alloc _).alloc _) (fun _ => 0) 43).at (b' := w.heap.size + 1 + 1) (by simp)).old hb (by simp); have z0 := (hZ 0 (by omega)).1; have y0 := (hZ 0 (by omega)).2; have z1 := (hZ 1 (by omega)).1; have y1 := (hZ 1 (by omega)).2; have z2 := (hZ 2 (by omega)).1; have y2 := (hZ 2 (by omega)).2; have z3 := (hZ 3 (by omega)).1; have y3 := (hZ 3 (by omega)).2; have z4 := (hZ 4 (by omega)).1; have y4 := (hZ 4 (by omega)).2; have z5 := (hZ 5 (by omega)).1; have y5 := (hZ 5 (by omega)).2; have z6 := (hZ 6 (by omega)).1; have y6 := (hZ 6 (by omega)).2; have z7 := (hZ 7 (by omega)).1; have y7 := (hZ 7 (by omega)).2; have z8 := (hZ 8 (by omega)).1; have y8 := (hZ 8 (by omega)).2; have hB := (((below1 w _).alloc (by simp) _).alloc (by simp <;> omega) _).trans (hb.mono (by simp <;> omega)); clear hZ hb)
  exact bodyPost_ret (v := matV (prodM s)) (by simp [results, Try.results33, go_sem, z0, z1, z2, z3, z4, z5, z6, z7, z8, matV]; exact ⟨rfl, rfl, rfl, rfl, rfl, rfl, rfl, rfl, rfl⟩) rfl ⟨rfl, by (iterate 9 (with_reducible refine Below.setCell ?_ (by simp <;> omega) _)); exact hB⟩
end Go.Proofs.Ytooghncdhjdcpaa
