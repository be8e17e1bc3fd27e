/-
Contracts of the rectangle's methods. Conditions: the operations' answers are given.
-/
import Derived.Test.YtooghncdhjdcpaaA2
import Derived.Deep.RegionHeld3
import Derived.Deep.DrawnRows
import Derived.StillTailTactics
import Derived.Lib.SmallJoins
namespace Go.Proofs.Ytooghncdhjdcpaa
open Go.RowKit Fl

theorem width_any {a b c d r : Nat} (w : World) (h : floatBits .sub .f64 c a = some r) :
    Calls Try.prog 99 #[.agg #[.float .f64 a, .float .f64 b, .float .f64 c, .float .f64 d]] w fun e w' => e = .returned (.float .f64 r) ∧ Below w.heap.size w w' := by
  have o := run_bin (P := Try.prog) .sub h
  clear h
  go_enter Try.func99, Try.ntmps99
  go_wp2
  go_ret
  exact ⟨rfl, below1 _ _⟩

theorem height_any {a b c d r : Nat} (w : World) (h : floatBits .sub .f64 d b = some r) :
    Calls Try.prog 100 #[.agg #[.float .f64 a, .float .f64 b, .float .f64 c, .float .f64 d]] w fun e w' => e = .returned (.float .f64 r) ∧ Below w.heap.size w w' := by
  have o := run_bin (P := Try.prog) .sub h
  clear h
  go_enter Try.func100, Try.ntmps100
  go_wp2
  go_ret
  exact ⟨rfl, below1 _ _⟩

/-- A rectangle that lies in a block of the call's own, behind whatever made memory since. -/
abbrev Kept4 (w : World) (n : Nat) (v0 v1 v2 v3 : Value) (w' : World) : Prop :=
  Below w.heap.size w w' ∧ n < w'.heap.size ∧ w'.cell? ⟨n, 0, none⟩ = some v0 ∧ w'.cell? ⟨n, 1, none⟩ = some v1 ∧ w'.cell? ⟨n, 2, none⟩ = some v2 ∧ w'.cell? ⟨n, 3, none⟩ = some v3
theorem keep4 {w W w' : World} {n : Nat} {v0 v1 v2 v3 : Value} (h : Kept4 w n v0 v1 v2 v3 W) (hb : Below W.heap.size W w') : Kept4 w n v0 v1 v2 v3 w' := by
  obtain ⟨h1, h2, h3, h4, h5, h6⟩ := h
  have hs := hb.size
  refine ⟨h1.trans (hb.mono h1.size), by omega, ?_, ?_, ?_, ?_⟩
  all_goals rw [hb.cell (by simpa using h2)]; assumption

theorem cell_alloc_at (w : World) (C : Array Value) (t : TypeId) (j : Nat) : (w.alloc (.cells C t)).cell? ⟨w.heap.size, j, none⟩ = C[j]? := Joins.cell_alloc_mark_at w C t _ _ j rfl
theorem kept_box (w : World) (v0 v1 v2 v3 : Value) (t : TypeId) : Kept4 w w.heap.size v0 v1 v2 v3 ((w.alloc (.cells #[v0, v1, v2, v3] t)).drew) :=
  ⟨(below1 _ _).drew, by simp [World.drew], cell_alloc_at _ _ _ 0, cell_alloc_at _ _ _ 1, cell_alloc_at _ _ _ 2, cell_alloc_at _ _ _ 3⟩

theorem kept_base (w : World) (v0 v1 v2 v3 : Value) (t : TypeId) : Kept4 w w.heap.size v0 v1 v2 v3 (w.alloc (.cells #[v0, v1, v2, v3] t)) :=
  ⟨below1 _ _, by simp, cell_alloc_at _ _ _ 0, cell_alloc_at _ _ _ 1, cell_alloc_at _ _ _ 2, cell_alloc_at _ _ _ 3⟩
theorem kept_alloc {w W : World} {n : Nat} {v0 v1 v2 v3 : Value} (o : Obj) (h : Kept4 w n v0 v1 v2 v3 W) : Kept4 w n v0 v1 v2 v3 (W.alloc o) := keep4 h (below1 _ _)
theorem kept_drew {w W : World} {n : Nat} {v0 v1 v2 v3 : Value} (h : Kept4 w n v0 v1 v2 v3 W) : Kept4 w n v0 v1 v2 v3 W.drew := keep4 h (Below.refl _ _).drew

theorem aspect_any {a b c d x y r : Nat} (w : World) (h1 : floatBits .sub .f64 c a = some x) (h2 : floatBits .sub .f64 d b = some y) (h3 : floatBits .quo .f64 x y = some r) :
    Calls Try.prog 101 #[.agg #[.float .f64 a, .float .f64 b, .float .f64 c, .float .f64 d]] w fun e w' => e = .returned (.float .f64 r) ∧ Below w.heap.size w w' := by
  have o := run_bin (P := Try.prog) .quo h3
  have H1 := Lib.hid h1
  have H2 := Lib.hid h2
  clear h1 h2 h3
  go_enter Try.func101, Try.ntmps101
  go_wp2_with fail
  go_region_held3 (fun w' => Below w.heap.size w w' ∧ w.heap.size < w'.heap.size ∧ w'.cell? ⟨w.heap.size, 0, none⟩ = some (.float .f64 a) ∧ w'.cell? ⟨w.heap.size, 1, none⟩ = some (.float .f64 b) ∧ w'.cell? ⟨w.heap.size, 2, none⟩ = some (.float .f64 c) ∧ w'.cell? ⟨w.heap.size, 3, none⟩ = some (.float .f64 d))
    (first
      | exact keep4 (by assumption) (by assumption)
      | exact kept_box _ _ _ _ _ _)
    (first
      | (go_at_call 99; refine (width_any _ H1.out).mono ?_; rintro e w' ⟨rfl, hb⟩)
      | (go_at_call 100; refine (height_any _ H2.out).mono ?_; rintro e w' ⟨rfl, hb⟩))
  rename_i hh
  go_wp2
  go_ret
  exact ⟨rfl, hh.1⟩

/-- The four cells of a rectangle behind a pointer. -/
abbrev RectAt (w : World) (g a b c d : Nat) : Prop :=
  g < w.heap.size ∧ w.cell? ⟨g, 0, none⟩ = some (.float .f64 a) ∧ w.cell? ⟨g, 1, none⟩ = some (.float .f64 b) ∧ w.cell? ⟨g, 2, none⟩ = some (.float .f64 c) ∧ w.cell? ⟨g, 3, none⟩ = some (.float .f64 d)

theorem told_exact {g a b c d : Nat} (w : World) (h : RectAt w g a b c d) :
    Calls Try.prog 66 #[.pointer (some ⟨g, 0, none⟩)] w fun e w' => e = .returned (.agg #[.float .f64 a, .float .f64 b, .float .f64 c, .float .f64 d]) ∧ (w.alloc (.cells #[.float .f64 a, .float .f64 b, .float .f64 c, .float .f64 d] 36)).drew = w' := by
  obtain ⟨h0, h1, h2, h3, h4⟩ := h
  have hne : (w.heap.size == g) = false := by simp; omega
  go_enter Try.func66, Try.ntmps66
  go_wp2_with fail
  go_region
  go_wp2
  exact bodyPost_ret (v := .agg #[.float .f64 a, .float .f64 b, .float .f64 c, .float .f64 d]) (by simp [results, Try.results66, go_sem]) rfl ⟨rfl, rfl⟩

theorem told_any {g a b c d : Nat} (w : World) (h : RectAt w g a b c d) :
    Calls Try.prog 66 #[.pointer (some ⟨g, 0, none⟩)] w fun e w' => e = .returned (.agg #[.float .f64 a, .float .f64 b, .float .f64 c, .float .f64 d]) ∧ Below w.heap.size w w' :=
  (told_exact w h).mono fun _ _ ⟨he, hw⟩ => ⟨he, hw ▸ (below1 _ _).drew⟩

/-- The rectangle that has just been laid into a new block. -/
theorem rectAt_new (W : World) (g a b c d : Nat) (t : TypeId) (hg : g = W.heap.size) : RectAt (W.alloc (.cells #[.float .f64 a, .float .f64 b, .float .f64 c, .float .f64 d] t)) g a b c d := by
  subst hg
  exact ⟨by simp, cell_alloc_at _ _ _ 0, cell_alloc_at _ _ _ 1, cell_alloc_at _ _ _ 2, cell_alloc_at _ _ _ 3⟩
theorem RectAt.below {W W' : World} {g a b c d : Nat} (h : RectAt W g a b c d) (hb : Below W.heap.size W W') : RectAt W' g a b c d := by
  obtain ⟨h2, h3, h4, h5, h6⟩ := h
  have hs := hb.size
  refine ⟨by omega, ?_, ?_, ?_, ?_⟩
  all_goals rw [hb.cell (by simpa using h2)]; assumption

/-- Two rectangles: one in a block n, one in a block g. -/
abbrev Kept8 (w : World) (n : Nat) (v0 v1 v2 v3 : Value) (g : Nat) (u0 u1 u2 u3 : Value) (w' : World) : Prop :=
  Below w.heap.size w w' ∧ n < w'.heap.size ∧ w'.cell? ⟨n, 0, none⟩ = some v0 ∧ w'.cell? ⟨n, 1, none⟩ = some v1 ∧ w'.cell? ⟨n, 2, none⟩ = some v2 ∧ w'.cell? ⟨n, 3, none⟩ = some v3 ∧
    g < w'.heap.size ∧ w'.cell? ⟨g, 0, none⟩ = some u0 ∧ w'.cell? ⟨g, 1, none⟩ = some u1 ∧ w'.cell? ⟨g, 2, none⟩ = some u2 ∧ w'.cell? ⟨g, 3, none⟩ = some u3
theorem keep8 {w W w' : World} {n g : Nat} {v0 v1 v2 v3 u0 u1 u2 u3 : Value} (h : Kept8 w n v0 v1 v2 v3 g u0 u1 u2 u3 W) (hb : Below W.heap.size W w') : Kept8 w n v0 v1 v2 v3 g u0 u1 u2 u3 w' := by
  obtain ⟨h1, h2, h3, h4, h5, h6, k2, k3, k4, k5, k6⟩ := h
  obtain ⟨a1, a2, a3, a4, a5, a6⟩ := keep4 (w := w) ⟨h1, h2, h3, h4, h5, h6⟩ hb
  obtain ⟨_, b2, b3, b4, b5, b6⟩ := keep4 (w := w) ⟨h1, k2, k3, k4, k5, k6⟩ hb
  exact ⟨a1, a2, a3, a4, a5, a6, b2, b3, b4, b5, b6⟩
theorem kept8_alloc {w W : World} {n g : Nat} {v0 v1 v2 v3 u0 u1 u2 u3 : Value} (o : Obj) (h : Kept8 w n v0 v1 v2 v3 g u0 u1 u2 u3 W) : Kept8 w n v0 v1 v2 v3 g u0 u1 u2 u3 (W.alloc o) := keep8 h (below1 _ _)
theorem kept8_drew {w W : World} {n g : Nat} {v0 v1 v2 v3 u0 u1 u2 u3 : Value} (h : Kept8 w n v0 v1 v2 v3 g u0 u1 u2 u3 W) : Kept8 w n v0 v1 v2 v3 g u0 u1 u2 u3 W.drew := keep8 h (Below.refl _ _).drew
/-- The one just made, the other there before. -/
theorem kept8_arg {w : World} {g a b c d : Nat} {v0 v1 v2 v3 : Value} (t : TypeId) (h : RectAt w g a b c d) : Kept8 w w.heap.size v0 v1 v2 v3 g (.float .f64 a) (.float .f64 b) (.float .f64 c) (.float .f64 d) (w.alloc (.cells #[v0, v1, v2, v3] t)) := by
  obtain ⟨k1, k2, k3, k4, k5⟩ := h.below (below1 w (.cells #[v0, v1, v2, v3] t))
  obtain ⟨a1, a2, a3, a4, a5, a6⟩ := kept_base w v0 v1 v2 v3 t
  exact ⟨a1, a2, a3, a4, a5, a6, k1, k2, k3, k4, k5⟩
/-- Two just made, one behind the other. -/
theorem kept8_two {w : World} {v0 v1 v2 v3 u0 u1 u2 u3 : Value} (t t' : TypeId) : Kept8 w w.heap.size v0 v1 v2 v3 (w.heap.size + 1) u0 u1 u2 u3 ((w.alloc (.cells #[v0, v1, v2, v3] t)).alloc (.cells #[u0, u1, u2, u3] t')) := by
  obtain ⟨a1, a2, a3, a4, a5, a6⟩ := kept_alloc (.cells #[u0, u1, u2, u3] t') (kept_base w v0 v1 v2 v3 t)
  have e : w.heap.size + 1 = (w.alloc (.cells #[v0, v1, v2, v3] t)).heap.size := by simp
  rw [e]
  exact ⟨a1, a2, a3, a4, a5, a6, by simp, cell_alloc_at _ _ _ 0, cell_alloc_at _ _ _ 1, cell_alloc_at _ _ _ 2, cell_alloc_at _ _ _ 3⟩

end Go.Proofs.Ytooghncdhjdcpaa
