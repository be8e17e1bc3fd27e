/-
An argument of nine floats opened: a matrix. No condition.
-/
import Derived.Test.YtooghncdhjdcpaaFr
import Derived.Test.YtooghncdhjdcpaaN1
namespace Go.Proofs.Ytooghncdhjdcpaa
open Go.ChangeShapes Go.WideShapes Go.ChangeAt Go.WideElems Go.RowKit Go.Joins

theorem cells22 : Try.prog.cellsOf 22 = 1 := by kernel_rfl
theorem cells41 : Try.prog.cellsOf 41 = 3 := by kernel_rfl
theorem cells43 : Try.prog.cellsOf 43 = 9 := by kernel_rfl
section
variable {H : Type} {enc : TypeId × Value → H} {P : Program} {w : World} {base : Nat} {spare : Nat → Bool} {held : Bool}
/-- An array read: each element by itself. -/
theorem arr {n fuel : Nat} {e t : TypeId} {cs : List Value} {d : DataW H} {ps : List MemPlace} (ht : P.underlying t = some (.array n e)) (h : DataW.trod enc P w base spare held fuel t cs = some (d, ps)) :
    ∃ (m : Nat), ∀ i, i < n → ∃ x, DataW.trod enc P w base spare held m e ((cs.drop (i * P.cellsOf e)).take (P.cellsOf e)) = some x := by
  obtain ⟨xs, m, rfl, hx, hlen, hn, hel⟩ := DataW.trod_array ht h
  refine ⟨m, fun i hi => ?_⟩
  have h1 := hel i hi
  have hl : i < xs.length := by omega
  rw [List.getElem?_eq_getElem hl] at h1
  exact ⟨xs[i], h1⟩
set_option maxRecDepth 100000 in
theorem open_matrix {v : Value} {d : DataW H} {p : List MemPlace} {r : Reach} {b0 : Nat} (hv : Value.okWide Try.prog w r b0 43 v) (h : DataW.Trod enc Try.prog w base spare held 43 v d p) :
    ∃ X : Nat → Nat, v = matV X := by
  have h0 : ∃ cs : Array Value, v = .agg cs ∧ cs.size = 9 := by
    simp only [Value.okWide, Try.underlying43] at hv
    obtain ⟨cs, h1, h2, _⟩ := hv
    exact ⟨cs, h1, by rw [h2, cells43]⟩
  obtain ⟨cs, rfl, hs⟩ := h0
  obtain ⟨fuel, hf⟩ := h
  obtain ⟨m, h1⟩ := arr Try.underlying43 hf
  have key : ∀ i j, i < 3 → j < 3 → ∃ b, cs[i * 3 + j]? = some (.float .f64 b) := by
    intro i j hi hj
    obtain ⟨x, hx⟩ := h1 i hi
    rw [cells41] at hx
    obtain ⟨m2, h2⟩ := arr Try.underlying41 hx
    obtain ⟨y, hy⟩ := h2 j hj
    rw [cells22] at hy
    have hlt : i * 3 + j < cs.size := by omega
    have e : (((((Value.agg cs).cells.toList.drop (i * 3)).take 3).drop (j * 1)).take 1) = [cs[i * 3 + j]] := by
      refine List.ext_getElem? fun k => ?_
      cases k with
      | zero =>
        rw [List.getElem?_take_of_lt (by omega), List.getElem?_drop, List.getElem?_take_of_lt (by omega), List.getElem?_drop]
        show cs.toList[_]? = _
        rw [Array.getElem?_toList, show i * 3 + (j * 1 + 0) = i * 3 + j by omega, Array.getElem?_eq_getElem hlt]
        rfl
      | succ k =>
        rw [List.getElem?_eq_none (by simp; omega), List.getElem?_eq_none (by simp)]
    rw [e] at hy
    obtain ⟨b, hb⟩ := float_form hy
    exact ⟨b, by rw [Array.getElem?_eq_getElem hlt, hb]⟩
  obtain ⟨b0, e0⟩ := key 0 0 (by omega) (by omega)
  obtain ⟨b1, e1⟩ := key 0 1 (by omega) (by omega)
  obtain ⟨b2, e2⟩ := key 0 2 (by omega) (by omega)
  obtain ⟨b3, e3⟩ := key 1 0 (by omega) (by omega)
  obtain ⟨b4, e4⟩ := key 1 1 (by omega) (by omega)
  obtain ⟨b5, e5⟩ := key 1 2 (by omega) (by omega)
  obtain ⟨b6, e6⟩ := key 2 0 (by omega) (by omega)
  obtain ⟨b7, e7⟩ := key 2 1 (by omega) (by omega)
  obtain ⟨b8, e8⟩ := key 2 2 (by omega) (by omega)
  refine ⟨mat b0 b1 b2 b3 b4 b5 b6 b7 b8, ?_⟩
  refine congrArg Value.agg (Array.ext_getElem? fun k => ?_)
  rcases (show k = 0 ∨ k = 1 ∨ k = 2 ∨ k = 3 ∨ k = 4 ∨ k = 5 ∨ k = 6 ∨ k = 7 ∨ k = 8 ∨ 9 ≤ k by omega) with rfl | rfl | rfl | rfl | rfl | rfl | rfl | rfl | rfl | hk
  · exact e0
  · exact e1
  · exact e2
  · exact e3
  · exact e4
  · exact e5
  · exact e6
  · exact e7
  · exact e8
  · rw [Array.getElem?_eq_none (by omega), Array.getElem?_eq_none (by simpa using hk)]
end
end Go.Proofs.Ytooghncdhjdcpaa
