/-
Contract of impl.Placed: the product of the three matrices. Conditions: the words of the products and sums; IdentMatrix holds what its text says.
-/
import Derived.Test.YthjbaeipdjoenaaDoorM4
namespace Go.Proofs.YthjbaeipdjoenaaDoor
open Go.RowKit Fl

theorem placed (sx sy sin cos dx dy : Nat) (m s m2 s2 : Nat → Nat → Nat → Nat) (h1 : Mul3 (scaleM sx sy) (turnM sin (Op.negFloat .f64 sin) cos) m s) (h2 : Mul3 (prodM s) (moveM dx dy) m2 s2) (w : World) (hI : Ident w) (hp : 0 < w.heap.size) :
    Calls Tryd.prog 8 #[.float .f64 sx, .float .f64 sy, .float .f64 sin, .float .f64 cos, .float .f64 dx, .float .f64 dy] w fun e w' => e = .returned (matV (prodM s2)) ∧ Below w.heap.size w w' := by
  have H1 := Lib.hid h1
  have H2 := Lib.hid h2
  have HI : Hid (∀ w', Below w.heap.size w w' → Ident w') := Lib.hid fun w' hb o ho => (hb.cell (p := ⟨0, o, none⟩) hp).trans (hI o ho)
  clear h1 h2 hI
  go_enter Tryd.func8, Tryd.ntmps8
  go_wp2_with (go_at_call 15; refine (calcT sx sy sin cos dx dy m s m2 s2 H1.out H2.out _ (HI.out _ (below1 _ _)) (by simp)).mono ?_; rintro e w' ⟨rfl, hb⟩; have hZ := (MatAt.new w (fun _ => 0) 26).old hb (by simp); have z0 := (hZ 0 (by omega)).1; have y0 := (hZ 0 (by omega)).2; have z1 := (hZ 1 (by omega)).1; have y1 := (hZ 1 (by omega)).2; have z2 := (hZ 2 (by omega)).1; have y2 := (hZ 2 (by omega)).2; have z3 := (hZ 3 (by omega)).1; have y3 := (hZ 3 (by omega)).2; have z4 := (hZ 4 (by omega)).1; have y4 := (hZ 4 (by omega)).2; have z5 := (hZ 5 (by omega)).1; have y5 := (hZ 5 (by omega)).2; have z6 := (hZ 6 (by omega)).1; have y6 := (hZ 6 (by omega)).2; have z7 := (hZ 7 (by omega)).1; have y7 := (hZ 7 (by omega)).2; have z8 := (hZ 8 (by omega)).1; have y8 := (hZ 8 (by omega)).2; have hB := (below1 w _).trans (hb.mono (by simp)); clear hZ hb)
  exact bodyPost_ret (v := matV (prodM s2)) (by simp [results, Tryd.results8, go_sem, z0, z1, z2, z3, z4, z5, z6, z7, z8, matV]) rfl ⟨rfl, by (iterate 9 (with_reducible refine Below.setCell ?_ (by simp <;> omega) _)); exact hB⟩
end Go.Proofs.YthjbaeipdjoenaaDoor
