/-
What the frames of the laws share: the program's layout; arguments of floats opened. No condition.
-/
import Derived.Test.YtooghncdhjdcpaaRows
import Derived.WalkKit
import Derived.ProofKit
import Derived.OpenShut
import Derived.ChangeOld
import Derived.Below
import Derived.Lib.SmallJoins
import Derived.WalkLawsBesides
namespace Go.Proofs.Ytooghncdhjdcpaa
open Go.ChangeShapes Go.WideShapes Go.ChangeAt Go.RowKit Go.Joins

theorem own : ownKnob Try.prog.godebug = none := by kernel_rfl
theorem laidOut : laidOutB Try.prog = true := by kernel_rfl

section
variable {H : Type} {enc : TypeId × Value → H} {w : World} {base : Nat} {spare : Nat → Bool} {held : Bool}

/-- A cell that reads at float64 is a float. -/
theorem float_form {v : Value} {n : Nat} {y : DataW H × List MemPlace} (h : DataW.trod enc Try.prog w base spare held n 22 [v] = some y) : ∃ b, v = .float .f64 b := by
  cases n with
  | zero => simp [DataW.trod] at h
  | succ n =>
    simp only [DataW.trod, Try.underlying22] at h
    cases v <;> simp at h
    rename_i k b
    cases k
    · exact absurd h.1.1 (by decide)
    · exact ⟨b, rfl⟩

set_option maxRecDepth 100000 in
theorem open_pair {v : Value} {d : DataW H} {p : List MemPlace} {r : Reach} {b0 : Nat} (hv : Value.okWide Try.prog w r b0 28 v) (h : DataW.Trod enc Try.prog w base spare held 28 v d p) :
    ∃ a b : Nat, v = .agg #[.float .f64 a, .float .f64 b] := by
  obtain ⟨v0, v1, y0, y1, n, rfl, _, _, h0, h1⟩ := open_agg2 Try.underlying28 (by kernel_rfl) (by kernel_rfl) hv h
  obtain ⟨a, rfl⟩ := float_form h0
  obtain ⟨b, rfl⟩ := float_form h1
  exact ⟨a, b, rfl⟩

set_option maxRecDepth 100000 in
theorem open_rect {v : Value} {d : DataW H} {p : List MemPlace} {r : Reach} {b0 : Nat} (hv : Value.okWide Try.prog w r b0 36 v) (h : DataW.Trod enc Try.prog w base spare held 36 v d p) :
    ∃ a b c e : Nat, v = .agg #[.float .f64 a, .float .f64 b, .float .f64 c, .float .f64 e] := by
  obtain ⟨v0, v1, v2, v3, y0, y1, y2, y3, n, rfl, _, _, h0, h1, h2, h3⟩ := open_agg4 Try.underlying36 (by kernel_rfl) (by kernel_rfl) hv h
  obtain ⟨a, rfl⟩ := float_form h0
  obtain ⟨b, rfl⟩ := float_form h1
  obtain ⟨c, rfl⟩ := float_form h2
  obtain ⟨e, rfl⟩ := float_form h3
  exact ⟨a, b, c, e, rfl⟩
end
end Go.Proofs.Ytooghncdhjdcpaa
