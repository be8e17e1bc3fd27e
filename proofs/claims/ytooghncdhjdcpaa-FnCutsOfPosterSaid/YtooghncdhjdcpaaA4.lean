/-
A region's condition may be made stronger midway; rectangles made by 'rect'. No condition.
-/
import Derived.Test.YtooghncdhjdcpaaA3
namespace Go.Proofs.Ytooghncdhjdcpaa
open Go.RowKit Fl

/-- What is kept under a stronger condition is kept under the weaker one. -/
theorem held_mono {P : Program} {md : Region.Mode} {ops : Array Oper} {Q : Exit → Act → World → Prop} {S T : World → Prop} (h : ∀ w, T w → S w) :
    ∀ (fuel : Nat) (listed : Array Bool) (a : Act) (w : World), wpAnyH P md ops Q T fuel listed a w → wpAnyH P md ops Q S fuel listed a w
  | 0, _, _, _, hw => hw
  | fuel + 1, _, _, _, hw => ⟨hw.1, fun i hi => wpOp_mono (fun a' w' h' => ⟨h w' h'.1, held_mono h fuel _ a' w' h'.2⟩) (hw.2 i hi)⟩

/-- A pair in a block n. -/
abbrev Kept2 (w : World) (n : Nat) (v0 v1 : Value) (w' : World) : Prop :=
  Below w.heap.size w w' ∧ n < w'.heap.size ∧ w'.cell? ⟨n, 0, none⟩ = some v0 ∧ w'.cell? ⟨n, 1, none⟩ = some v1
theorem keep2 {w W w' : World} {n : Nat} {v0 v1 : Value} (h : Kept2 w n v0 v1 W) (hb : Below W.heap.size W w') : Kept2 w n v0 v1 w' := by
  obtain ⟨h1, h2, h3, h4⟩ := h
  have hs := hb.size
  refine ⟨h1.trans (hb.mono h1.size), by omega, ?_, ?_⟩
  all_goals rw [hb.cell (by simpa using h2)]; assumption
theorem kept2_alloc {w W : World} {n : Nat} {v0 v1 : Value} (o : Obj) (h : Kept2 w n v0 v1 W) : Kept2 w n v0 v1 (W.alloc o) := keep2 h (below1 _ _)
theorem kept2_drew {w W : World} {n : Nat} {v0 v1 : Value} (h : Kept2 w n v0 v1 W) : Kept2 w n v0 v1 W.drew := keep2 h (Below.refl _ _).drew
theorem kept2_base (w W : World) (n : Nat) (v0 v1 : Value) (t : TypeId) (hb : Below w.heap.size w W) (hn : n = W.heap.size) : Kept2 w n v0 v1 (W.alloc (.cells #[v0, v1] t)) := by
  subst hn
  exact ⟨bel_alloc _ hb, by simp, cell_alloc_at _ _ _ 0, cell_alloc_at _ _ _ 1⟩

/-- rect: a new rectangle behind a pointer. -/
theorem rect_exact (a b c d : Nat) (w : World) :
    Calls Try.prog 67 #[.agg #[.float .f64 a, .float .f64 b, .float .f64 c, .float .f64 d]] w fun e w' => e = .returned (.pointer (some ⟨w.heap.size + 1, 0, none⟩)) ∧ (w.alloc (.cells #[.float .f64 a, .float .f64 b, .float .f64 c, .float .f64 d] 36)).alloc (.cells #[.float .f64 a, .float .f64 b, .float .f64 c, .float .f64 d] 157) = w' := by
  go_enter Try.func67, Try.ntmps67
  go_wp2_with (go_at_call 98; go_in)
  go_ret
  exact ⟨rfl, rfl⟩
/-- A new rectangle's pointer and what it leads to, as a region wants it. -/
def IsRect (a b c d : Nat) (w : World) (e : Ending) (w' : World) : Prop := ∃ g, e = .returned (.pointer (some ⟨g, 0, none⟩)) ∧ RectAt w' g a b c d ∧ Below w.heap.size w w'
theorem rect_any (a b c d : Nat) (w : World) : Calls Try.prog 67 #[.agg #[.float .f64 a, .float .f64 b, .float .f64 c, .float .f64 d]] w (IsRect a b c d w) :=
  (rect_exact a b c d w).mono fun _ _ ⟨he, hw⟩ => ⟨_, he, hw ▸ rectAt_new _ _ _ _ _ _ _ (by simp), hw ▸ below2 _ _ _⟩

/-- A condition and a rectangle behind a pointer, kept together. -/
theorem kept_and {W w' : World} {p q : Prop} {g a b c d : Nat} (h : p ∧ RectAt W g a b c d) (hp : p → q) (hb : Below W.heap.size W w') : q ∧ RectAt w' g a b c d := ⟨hp h.1, h.2.below hb⟩

end Go.Proofs.Ytooghncdhjdcpaa
