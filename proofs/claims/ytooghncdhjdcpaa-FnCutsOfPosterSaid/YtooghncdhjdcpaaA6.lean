/-
A rectangle and a pair kept together; a result's pair. No condition.
-/
import Derived.Test.YtooghncdhjdcpaaA5
namespace Go.Proofs.Ytooghncdhjdcpaa
open Go.RowKit Fl

abbrev Pair2 (m : Nat) (u0 u1 : Value) (w' : World) : Prop := m < w'.heap.size ∧ w'.cell? ⟨m, 0, none⟩ = some u0 ∧ w'.cell? ⟨m, 1, none⟩ = some u1
theorem pair2_below {W w' : World} {m : Nat} {u0 u1 : Value} (h : Pair2 m u0 u1 W) (hb : Below W.heap.size W w') : Pair2 m u0 u1 w' := by
  obtain ⟨h1, h2, h3⟩ := h
  have hs := hb.size
  refine ⟨by omega, ?_, ?_⟩
  all_goals rw [hb.cell (by simpa using h1)]; assumption
theorem pair2_base (W : World) (m : Nat) (u0 u1 : Value) (t : TypeId) (hm : m = W.heap.size) : Pair2 m u0 u1 (W.alloc (.cells #[u0, u1] t)) := by
  subst hm
  exact ⟨by simp, cell_alloc_at _ _ _ 0, cell_alloc_at _ _ _ 1⟩
abbrev Kept42 (w : World) (n : Nat) (v0 v1 v2 v3 : Value) (m : Nat) (u0 u1 : Value) (w' : World) : Prop :=
  (Below w.heap.size w w' ∧ n < w'.heap.size ∧ w'.cell? ⟨n, 0, none⟩ = some v0 ∧ w'.cell? ⟨n, 1, none⟩ = some v1 ∧ w'.cell? ⟨n, 2, none⟩ = some v2 ∧ w'.cell? ⟨n, 3, none⟩ = some v3) ∧
    (m < w'.heap.size ∧ w'.cell? ⟨m, 0, none⟩ = some u0 ∧ w'.cell? ⟨m, 1, none⟩ = some u1)
theorem keep42 {w W w' : World} {n m : Nat} {v0 v1 v2 v3 u0 u1 : Value} (h : Kept42 w n v0 v1 v2 v3 m u0 u1 W) (hb : Below W.heap.size W w') : Kept42 w n v0 v1 v2 v3 m u0 u1 w' :=
  ⟨keep4 h.1 hb, pair2_below h.2 hb⟩
theorem kept42_drew {w W : World} {n m : Nat} {v0 v1 v2 v3 u0 u1 : Value} (h : Kept42 w n v0 v1 v2 v3 m u0 u1 W) : Kept42 w n v0 v1 v2 v3 m u0 u1 W.drew := keep42 h (Below.refl _ _).drew
theorem kept42_alloc {w W : World} {n m : Nat} {v0 v1 v2 v3 u0 u1 : Value} (o : Obj) (h : Kept42 w n v0 v1 v2 v3 m u0 u1 W) : Kept42 w n v0 v1 v2 v3 m u0 u1 (W.alloc o) := keep42 h (below1 _ _)
theorem kept42_base {w W : World} {n m : Nat} {v0 v1 v2 v3 u0 u1 : Value} (t : TypeId) (hm : m = W.heap.size) (h : Kept4 w n v0 v1 v2 v3 W) : Kept42 w n v0 v1 v2 v3 m u0 u1 (W.alloc (.cells #[u0, u1] t)) :=
  ⟨kept_alloc _ h, pair2_base _ _ _ _ _ hm⟩

/-- Two cells of block n that may be written. -/
abbrev Blank2 (n : Nat) (v0 v1 : Value) (w' : World) : Prop :=
  n < w'.heap.size ∧ w'.cell? ⟨n, 0, none⟩ = some v0 ∧ w'.cell? ⟨n, 1, none⟩ = some v1 ∧ w'.frozen? ⟨n, 0, none⟩ = false ∧ w'.frozen? ⟨n, 1, none⟩ = false
theorem blank2_below {W w' : World} {n : Nat} {v0 v1 : Value} (h : Blank2 n v0 v1 W) (hb : Below W.heap.size W w') : Blank2 n v0 v1 w' := by
  obtain ⟨h1, h2, h3, f1, f2⟩ := h
  have hs := hb.size
  refine ⟨by omega, ?_, ?_, ?_, ?_⟩
  all_goals first
    | (rw [hb.cell (by simpa using h1)]; assumption)
    | (rw [hb.frozen (by simpa using h1)]; assumption)
theorem blank2_alloc {W : World} {n : Nat} {v0 v1 : Value} (o : Obj) (h : Blank2 n v0 v1 W) : Blank2 n v0 v1 (W.alloc o) := blank2_below h (below1 _ _)
theorem blank2_drew {W : World} {n : Nat} {v0 v1 : Value} (h : Blank2 n v0 v1 W) : Blank2 n v0 v1 W.drew := blank2_below h (Below.refl _ _).drew
theorem blank2_base (W : World) (n : Nat) (v0 v1 : Value) (t : TypeId) (hn : n = W.heap.size) : Blank2 n v0 v1 (W.alloc (.cells #[v0, v1] t)) := by
  subst hn
  exact ⟨by simp, cell_alloc_at _ _ _ 0, cell_alloc_at _ _ _ 1, frozen_alloc_at _ _ _ 0, frozen_alloc_at _ _ _ 1⟩
theorem kept4_arg {w : World} {g a b c d : Nat} (h : RectAt w g a b c d) : Kept4 w g (.float .f64 a) (.float .f64 b) (.float .f64 c) (.float .f64 d) w.drew := keep4 ⟨Below.refl _ _, h⟩ (Below.refl _ _).drew

end Go.Proofs.Ytooghncdhjdcpaa
