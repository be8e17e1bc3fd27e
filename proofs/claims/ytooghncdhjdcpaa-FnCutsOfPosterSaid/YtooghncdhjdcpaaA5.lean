/-
A block of the call's own (a result's), behind whatever made memory since. No condition.
-/
import Derived.Test.YtooghncdhjdcpaaA4
import Derived.Handy
import Derived.Deep.QuietTactic
import Derived.BigQuiet
namespace Go.Proofs.Ytooghncdhjdcpaa
open Go.RowKit Fl

/-- Four cells of block n that may be written. -/
abbrev Blank4 (n : Nat) (v0 v1 v2 v3 : Value) (w' : World) : Prop :=
  n < w'.heap.size ∧ w'.cell? ⟨n, 0, none⟩ = some v0 ∧ w'.cell? ⟨n, 1, none⟩ = some v1 ∧ w'.cell? ⟨n, 2, none⟩ = some v2 ∧ w'.cell? ⟨n, 3, none⟩ = some v3 ∧
  w'.frozen? ⟨n, 0, none⟩ = false ∧ w'.frozen? ⟨n, 1, none⟩ = false ∧ w'.frozen? ⟨n, 2, none⟩ = false ∧ w'.frozen? ⟨n, 3, none⟩ = false
theorem blank4_below {W w' : World} {n : Nat} {v0 v1 v2 v3 : Value} (h : Blank4 n v0 v1 v2 v3 W) (hb : Below W.heap.size W w') : Blank4 n v0 v1 v2 v3 w' := by
  obtain ⟨h1, h2, h3, h4, h5, f1, f2, f3, f4⟩ := h
  have hs := hb.size
  refine ⟨by omega, ?_, ?_, ?_, ?_, ?_, ?_, ?_, ?_⟩
  all_goals first
    | (rw [hb.cell (by simpa using h1)]; assumption)
    | (rw [hb.frozen (by simpa using h1)]; assumption)
theorem blank4_alloc {W : World} {n : Nat} {v0 v1 v2 v3 : Value} (o : Obj) (h : Blank4 n v0 v1 v2 v3 W) : Blank4 n v0 v1 v2 v3 (W.alloc o) := blank4_below h (below1 _ _)
theorem blank4_drew {W : World} {n : Nat} {v0 v1 v2 v3 : Value} (h : Blank4 n v0 v1 v2 v3 W) : Blank4 n v0 v1 v2 v3 W.drew := blank4_below h (Below.refl _ _).drew
theorem frozen_alloc_at (W : World) (C : Array Value) (t : TypeId) (j : Nat) : (W.alloc (.cells C t)).frozen? ⟨W.heap.size, j, none⟩ = false := by
  have h : (W.alloc (.cells C t)).heap[W.heap.size]? = some (.cells C t (0, 0)) := by
    show (W.heap.push _)[W.heap.size]? = _
    simp
  exact Joins.unfrozen_of_block h j
theorem blank4_base (W : World) (n : Nat) (v0 v1 v2 v3 : Value) (t : TypeId) (hn : n = W.heap.size) : Blank4 n v0 v1 v2 v3 (W.alloc (.cells #[v0, v1, v2, v3] t)) := by
  subst hn
  exact ⟨by simp, cell_alloc_at _ _ _ 0, cell_alloc_at _ _ _ 1, cell_alloc_at _ _ _ 2, cell_alloc_at _ _ _ 3, frozen_alloc_at _ _ _ 0, frozen_alloc_at _ _ _ 1, frozen_alloc_at _ _ _ 2, frozen_alloc_at _ _ _ 3⟩
theorem bel_drewN {a w : World} (n : Nat) (h : Below a.heap.size a w) : Below a.heap.size a (w.drewN n) := h.trans (Joins.below_draws _ _ _)

end Go.Proofs.Ytooghncdhjdcpaa
