/-
What the frames of the laws share: an argument that is a list of bytes opened; a nil one has no room. No condition.
-/
import Derived.Test.YtmngibfakkfnnaaFm
namespace Go.Proofs.Ytmngibfakkfnnaa
open Go.ChangeShapes Go.WideShapes Go.ChangeAt Go.RowKit Go.Proofs.YtmngibfakkfnnaaW.PrintWords

section
variable {H : Type} {enc : TypeId × Value → H} {w : World} {base : Nat} {ts : List TypeId} {ds : List (DataW H)} {j : Nat}
theorem open_bytes {v : Value} {d : DataW H} {p : List MemPlace} {r : Reach} {b0 : Nat} (hsz : (DataW.weightsEach Try.prog ts ds).all (· ≤ reachBytes) = true) (ht : ts[j]? = some 35) (hd : ds[j]? = some d)
    (hv : Value.okWide Try.prog w r b0 35 v) (h : DataW.Trod enc Try.prog w base (fun _ => true) true 35 v d p) :
    ∃ (A : Option Addr) (c : Nat) (l : List Int), v = .slice A l.length c ∧ l.length ≤ c ∧ Kd.C (Kd.int .u8) w A l.length l ∧ (∀ n ∈ l, (Lit.int .u8 n).wf = true) ∧ (A = none → c = 0) := by
  have h0 := h
  obtain ⟨a, len, cap, rfl⟩ := okWide_slice Try.underlying35 hv
  obtain ⟨fuel, hf⟩ := h0
  obtain ⟨A, c, l, he, hl, _, hC, hw⟩ := open_nums (B := 1) Try.underlying35 Try.underlying5 (by kernel_rfl) (by kernel_rfl) (by decide) hsz ht hd hv h
  refine ⟨A, c, l, he, hl, hC, hw, fun hA => ?_⟩
  injection he with h1 h2 h3
  rcases open_ints Try.underlying35 Try.underlying5 (by kernel_rfl) hf with ⟨hcs, _⟩ | ⟨x, l', c', zs, hcs, _⟩
  · simp [Value.cells] at hcs
    obtain ⟨_, _, hc⟩ := hcs
    rw [← h3]; exact hc
  · simp [Value.cells] at hcs
    rw [hA] at h1
    rw [h1] at hcs
    cases hcs.1
end
end Go.Proofs.Ytmngibfakkfnnaa
