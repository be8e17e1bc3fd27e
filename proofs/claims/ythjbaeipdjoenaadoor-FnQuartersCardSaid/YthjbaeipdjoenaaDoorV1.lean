/-
What the frames of FnQuarters and FnTurned share: the listed variables of the text laid; arguments of floats opened. No condition.
-/
import Derived.Test.YthjbaeipdjoenaaDoorP2
import Derived.Test.YthjbaeipdjoenaaDoorS7
import Derived.Lib.SmallJoins
import Derived.ChangeOld
namespace Go.Proofs.YthjbaeipdjoenaaDoor
open Go.ChangeShapes Go.WideShapes Go.ChangeAt Go.WideMaps Go.WideElems Go.RowKit Go.Joins

theorem laidOut : laidOutB Tryd.prog = true := by kernel_rfl
theorem gSin : Tryd.prog.globalNamed "math._sin" = some 3 := by kernel_rfl
theorem gCos : Tryd.prog.globalNamed "math._cos" = some 2 := by kernel_rfl
theorem tSin : (Tryd.prog.globals[3]?).map (·.type) = some 57 := by kernel_rfl
theorem tCos : (Tryd.prog.globals[2]?).map (·.type) = some 57 := by kernel_rfl

section
variable {H : Type} {enc : TypeId × Value → H} {w : World} {base : Nat} {spare : Nat → Bool} {held : Bool}
/-- A cell that reads at float64 is a float. -/
theorem float_form {v : Value} {n : Nat} {y : DataW H × List MemPlace} (h : DataW.trod enc Tryd.prog w base spare held n 22 [v] = some y) : ∃ b, v = .float .f64 b := by
  obtain ⟨d, ps⟩ := y
  obtain ⟨b, hc, _⟩ := flt Tryd.underlying22 h
  exact ⟨b, by simpa using hc⟩
set_option maxRecDepth 100000 in
theorem open_pair {v : Value} {d : DataW H} {p : List MemPlace} {r : Reach} {b0 : Nat} (hv : Value.okWide Tryd.prog w r b0 32 v) (h : DataW.Trod enc Tryd.prog w base spare held 32 v d p) :
    ∃ a b : Nat, v = .agg #[.float .f64 a, .float .f64 b] := by
  obtain ⟨v0, v1, y0, y1, n, rfl, _, _, h0, h1⟩ := open_agg2 Tryd.underlying32 (by kernel_rfl) (by kernel_rfl) hv h
  obtain ⟨a, rfl⟩ := float_form h0
  obtain ⟨b, rfl⟩ := float_form h1
  exact ⟨a, b, rfl⟩
set_option maxRecDepth 100000 in
theorem open_rect {v : Value} {d : DataW H} {p : List MemPlace} {r : Reach} {b0 : Nat} (hv : Value.okWide Tryd.prog w r b0 34 v) (h : DataW.Trod enc Tryd.prog w base spare held 34 v d p) :
    ∃ a b c e : Nat, v = .agg #[.float .f64 a, .float .f64 b, .float .f64 c, .float .f64 e] := by
  obtain ⟨v0, v1, v2, v3, y0, y1, y2, y3, n, rfl, _, _, h0, h1, h2, h3⟩ := open_agg4 Tryd.underlying34 (by kernel_rfl) (by kernel_rfl) hv h
  obtain ⟨a, rfl⟩ := float_form h0
  obtain ⟨b, rfl⟩ := float_form h1
  obtain ⟨c, rfl⟩ := float_form h2
  obtain ⟨e, rfl⟩ := float_form h3
  exact ⟨a, b, c, e, rfl⟩
end

/-- What a listed table holds. -/
theorem tab_of {W : World} {n : String} {g fuel : Nat} {cs : Array Value} {q : List MemPlace} {l : List Nat} (hg : Tryd.prog.globalNamed n = some g) (hv : W.var? Tryd.prog n = some cs) (hl : l.length = 6)
    (h : DataW.trod (fun _ => ()) Tryd.prog W 0 (fun _ => true) false fuel 57 cs.toList = some (.agg (l.map fun b => .lit (.float .f64 b)), q)) : Tab W g l := by
  obtain ⟨ds, m, hd, hn, hel⟩ := arr Tryd.underlying57 h
  simp only [DataW.agg.injEq] at hd
  subst hd
  intro i hi
  obtain ⟨q1, h1⟩ := hel i hi
  rw [cells22] at h1
  obtain ⟨b, hc, hd⟩ := flt Tryd.underlying22 h1
  have hb : b = l.getD i 0 := by
    rw [List.getD_eq_getElem?_getD, List.getElem?_map, List.getElem?_eq_getElem (by omega)] at hd
    simp only [Option.map_some, Option.getD_some, DataW.lit.injEq, Lit.float.injEq, true_and] at hd
    rw [List.getD_eq_getElem?_getD, List.getElem?_eq_getElem (by omega)]
    exact hd.symm
  have h4 : ((cs.toList.drop (i * 1)).take 1)[0]? = some (.float .f64 b) := by rw [hc]; rfl
  rw [List.getElem?_take_of_lt (by omega), List.getElem?_drop, Array.getElem?_toList] at h4
  rw [← hb]
  refine (World.var?_cell hg hv i).trans ?_
  rw [← h4]
  congr 1
  omega

abbrev laid4 : List (String × DataW Unit) := [("math._sin", Rows.laid_math_sin), ("math._cos", Rows.laid_math_cos), ("math.mPi4", Rows.laid_math_mPi4), ("given.example/pub-quirewright/pub/pdfcpu/pkg/pdfcpu/matrix.IdentMatrix", Rows.laid_given_example_pub_quirewright_pub_pdfcpu_pkg_pdfcpu_matrix_IdentMatrix)]
theorem of_laid4 {W : World} (h : laidMetH Tryd.prog laid4 W) : Vars3 W := by
  rw [MakeChecks.laidMetH_plain _ _ _ (by kernel_rfl)] at h
  obtain ⟨ps, ⟨g0, t0, cs0, f0, p0, q0, hg0, ht0, hv0, hd0, ⟨g1, t1, cs1, f1, p1, q1, hg1, ht1, hv1, hd1, ⟨g2, t2, cs2, f2, p2, q2, hg2, ht2, hv2, hd2, ⟨g3, t3, cs3, f3, p3, q3, hg3, ht3, hv3, hd3, _, _⟩, _⟩, _⟩, _⟩, _, _⟩ := h
  obtain rfl := Option.some.inj (tSin.symm.trans (Option.some.inj (gSin.symm.trans hg0) ▸ ht0))
  obtain rfl := Option.some.inj (tCos.symm.trans (Option.some.inj (gCos.symm.trans hg1) ▸ ht1))
  obtain rfl := Option.some.inj (tIdent.symm.trans (Option.some.inj (gIdent.symm.trans hg3) ▸ ht3))
  have hS : Tab W 3 sinT := tab_of gSin hv0 rfl hd0
  have hC : Tab W 2 cosT := tab_of gCos hv1 rfl hd1
  refine ⟨ident_of hv3 hd3, hS, hC, ?_⟩
  have := hS 0 (by omega)
  unfold World.cell? at this
  by_cases e : 3 < W.heap.size
  · exact e
  · rw [Array.getElem?_eq_none (show W.heap.size ≤ 3 by omega)] at this
    simp at this

theorem rowed : varsRowed Tryd.prog ["given.example/pub-quirewright/pub/pdfcpu/pkg/pdfcpu/matrix.IdentMatrix"] = true := by kernel_rfl
theorem door_met4 (os : Os) (args : Array Value) : laidMetH Tryd.prog laid4 ((World.doorLaid Tryd.prog 400 os).forCall (fun _ _ => 0) ⟨#[], args, []⟩).memory :=
  laidMetH_of_parts3 (fuel := 8) (laidMet_of_run' 8 (by kernel_rfl) (by kernel_rfl)) (by kernel_rfl) (by kernel_rfl)
end Go.Proofs.YthjbaeipdjoenaaDoor
