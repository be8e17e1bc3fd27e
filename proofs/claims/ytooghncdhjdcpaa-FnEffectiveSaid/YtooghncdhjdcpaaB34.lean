/-
FnEffective: four lists of boxes opened, as an argument. No condition.
-/
import Derived.Test.YtooghncdhjdcpaaFr
import Derived.Test.YtooghncdhjdcpaaB33
import Derived.Deep.Slices
import Derived.Deep.Fields
import Derived.OpenShut
namespace Go.Proofs.Ytooghncdhjdcpaa
open Go.ChangeShapes Go.WideShapes Go.ChangeAt Go.WideElems Go.RowKit Go.Joins Go.Deep

section
variable {H : Type} {enc : TypeId × Value → H} {w : World} {base : Nat} {spare : Nat → Bool} {held : Bool}
set_option maxRecDepth 100000 in
/-- One list of boxes. -/
theorem open_boxlist {fuel : Nat} {s : Value} {x : DataW H × List MemPlace} (h : DataW.trod enc Try.prog w base spare held fuel 68 [s] = some x) : ∃ n o, ArgS w s n o := by
  rcases open_slice Try.underlying68 h with ⟨h0, _⟩ | ⟨a, len, cap, m, n, D, Pl, hcs, hb, hl, hm, hmm, hx, hi⟩
  · injection h0 with h0
    subst h0
    exact ⟨0, none, .inl ⟨rfl, rfl⟩, fun _ => rfl, fun h => absurd h (by omega)⟩
  · injection hcs with hcs
    subst hcs
    by_cases h1 : len = 1
    · subst h1
      have hm1 : 0 < m := by rw [hmm]; split <;> omega
      obtain ⟨cs', hc, ht⟩ := hi 0 hm1
      rw [show Try.prog.cellsOf 36 = 4 from by kernel_rfl, Nat.zero_mul] at hc
      obtain ⟨ys, n', hn', hy, hlen, hyl, hf⟩ := DataW.trod_struct Try.underlying36 ht
      obtain ⟨_, hcl, hat⟩ := World.cells?_some hc
      have c22 : Try.prog.cellsOf 22 = 1 := by kernel_rfl
      match cs', hcl with
      | [e0, e1, e2, e3], _ =>
        match ys, hyl with
        | [y0, y1, y2, y3], _ =>
          have f0 : DataW.trod enc Try.prog w base spare held n' 22 (List.take (Try.prog.cellsOf 22) [e0, e1, e2, e3]) = some y0 := hf 0 _ rfl
          have f1 : DataW.trod enc Try.prog w base spare held n' 22 (List.take (Try.prog.cellsOf 22) [e1, e2, e3]) = some y1 := hf 1 _ rfl
          have f2 : DataW.trod enc Try.prog w base spare held n' 22 (List.take (Try.prog.cellsOf 22) [e2, e3]) = some y2 := hf 2 _ rfl
          have f3 : DataW.trod enc Try.prog w base spare held n' 22 (List.take (Try.prog.cellsOf 22) [e3]) = some y3 := hf 3 _ rfl
          rw [c22] at f0 f1 f2 f3
          obtain ⟨v0, rfl⟩ := float_form (show DataW.trod enc Try.prog w base spare held n' 22 [e0] = some y0 from f0)
          obtain ⟨v1, rfl⟩ := float_form (show DataW.trod enc Try.prog w base spare held n' 22 [e1] = some y1 from f1)
          obtain ⟨v2, rfl⟩ := float_form (show DataW.trod enc Try.prog w base spare held n' 22 [e2] = some y2 from f2)
          obtain ⟨v3, rfl⟩ := float_form (show DataW.trod enc Try.prog w base spare held n' 22 [e3] = some y3 from f3)
          have g0 : w.cell? a = some (.float .f64 v0) := hat 0 (by omega)
          have g1 : w.cell? ⟨a.block, a.off + 1, none⟩ = some (.float .f64 v1) := hat 1 (by omega)
          have g2 : w.cell? ⟨a.block, a.off + 2, none⟩ = some (.float .f64 v2) := hat 2 (by omega)
          have g3 : w.cell? ⟨a.block, a.off + 3, none⟩ = some (.float .f64 v3) := hat 3 (by omega)
          exact ⟨1, some ⟨v0, v1, v2, v3⟩, .inr ⟨a, cap, rfl⟩, fun h => absurd h (by omega), fun _ => ⟨_, rfl, a, cap, rfl, World.block_lt_of_cell? w _ g0, g0, g1, g2, g3⟩⟩
    · exact ⟨len, none, .inr ⟨a, cap, rfl⟩, fun _ => rfl, fun h => absurd h h1⟩
/-- An array read: each element by itself. -/
theorem arrE {n fuel : Nat} {e t : TypeId} {cs : List Value} {d : DataW H} {ps : List MemPlace} (ht : Try.prog.underlying t = some (.array n e)) (h : DataW.trod enc Try.prog w base spare held fuel t cs = some (d, ps)) :
    ∃ (m : Nat), ∀ i, i < n → ∃ x, DataW.trod enc Try.prog w base spare held m e ((cs.drop (i * Try.prog.cellsOf e)).take (Try.prog.cellsOf e)) = some x := by
  obtain ⟨xs, m, rfl, hx, hlen, hn, hel⟩ := DataW.trod_array ht h
  refine ⟨m, fun i hi => ?_⟩
  have h1 := hel i hi
  have hl : i < xs.length := by omega
  rw [List.getElem?_eq_getElem hl] at h1
  exact ⟨xs[i], h1⟩
set_option maxRecDepth 100000 in
theorem open_four {v : Value} {d : DataW H} {p : List MemPlace} {r : Reach} {b0 : Nat} (hv : Value.okWide Try.prog w r b0 69 v) (h : DataW.Trod enc Try.prog w base spare held 69 v d p) :
    ∃ s0 s1 s2 s3 n0 n1 n2 n3 o0 o1 o2 o3, v = .agg #[s0, s1, s2, s3] ∧ ArgS w s0 n0 o0 ∧ ArgS w s1 n1 o1 ∧ ArgS w s2 n2 o2 ∧ ArgS w s3 n3 o3 := by
  have h0 : ∃ cs : Array Value, v = .agg cs ∧ cs.size = 4 := by
    simp only [Value.okWide, Try.underlying69] at hv
    obtain ⟨cs, h1, h2, _⟩ := hv
    exact ⟨cs, h1, by rw [h2]; kernel_rfl⟩
  obtain ⟨cs, rfl, hs⟩ := h0
  obtain ⟨fuel, hf⟩ := h
  obtain ⟨m, h1⟩ := arrE Try.underlying69 hf
  rw [show Try.prog.cellsOf 68 = 1 from by kernel_rfl] at h1
  obtain ⟨l⟩ := cs
  match l, hs with
  | [s0, s1, s2, s3], _ =>
    obtain ⟨x0, e0⟩ := h1 0 (by omega)
    obtain ⟨x1, e1⟩ := h1 1 (by omega)
    obtain ⟨x2, e2⟩ := h1 2 (by omega)
    obtain ⟨x3, e3⟩ := h1 3 (by omega)
    obtain ⟨n0, o0, a0⟩ := open_boxlist (show DataW.trod enc Try.prog w base spare held m 68 [s0] = some x0 from e0)
    obtain ⟨n1, o1, a1⟩ := open_boxlist (show DataW.trod enc Try.prog w base spare held m 68 [s1] = some x1 from e1)
    obtain ⟨n2, o2, a2⟩ := open_boxlist (show DataW.trod enc Try.prog w base spare held m 68 [s2] = some x2 from e2)
    obtain ⟨n3, o3, a3⟩ := open_boxlist (show DataW.trod enc Try.prog w base spare held m 68 [s3] = some x3 from e3)
    exact ⟨s0, s1, s2, s3, n0, n1, n2, n3, o0, o1, o2, o3, rfl, a0, a1, a2, a3⟩
end
theorem eff_walk {m : Q4} {s0 s1 s2 s3 : Value} {n0 n1 n2 n3 : Nat} {o0 o1 o2 o3 : Option Q4} {w : World} (h0 : ArgS w s0 n0 o0) (h1 : ArgS w s1 n1 o1) (h2 : ArgS w s2 n2 o2) (h3 : ArgS w s3 n3 o3) :
    Calls Try.prog 16 #[rcV m, .agg #[s0, s1, s2, s3]] w fun e w' => e = .returned (.bool true) ∧ Below w.heap.size w w' := by
  by_cases hf : n0 ≤ 2147483647 ∧ n1 ≤ 2147483647 ∧ n2 ≤ 2147483647 ∧ n3 ≤ 2147483647
  · cases hp : propQ m
    · exact eff_far h0.1 h1.1 h2.1 h3.1 w (.inr hp)
    · exact eff_law h0 h1 h2 h3 hf hp
  · exact eff_far h0.1 h1.1 h2.1 h3.1 w (.inl hf)
end Go.Proofs.Ytooghncdhjdcpaa
