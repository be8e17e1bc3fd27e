/-
What the frames of the laws share: an argument that is a list of bools opened. No condition.
-/
import Derived.Test.YtmngibfakkfnnaaFm
import Derived.Deep.Grids
namespace Go.Proofs.Ytmngibfakkfnnaa
open Go.ChangeShapes Go.WideShapes Go.ChangeAt Go.RowKit Go.Proofs.YtmngibfakkfnnaaW.PrintWords

section
variable {H : Type} {enc : TypeId × Value → H} {w : World} {base : Nat} {ts : List TypeId} {ds : List (DataW H)} {j : Nat}
theorem open_flags {v : Value} {d : DataW H} {p : List MemPlace} {r : Reach} {b0 : Nat} (hsz : (DataW.weightsEach Try.prog ts ds).all (· ≤ reachBytes) = true) (ht : ts[j]? = some 38) (hd : ds[j]? = some d)
    (hv : Value.okWide Try.prog w r b0 38 v) (h : DataW.Trod enc Try.prog w base (fun _ => true) true 38 v d p) :
    ∃ (A : Option Addr) (c : Nat) (l : List Bool), v = .slice A l.length c ∧ l.length ≤ c ∧ l.length ≤ 140737488351232 ∧ Kd.C Kd.bool w A l.length l := by
  obtain ⟨a, len, cap, rfl⟩ := okWide_slice Try.underlying38 hv
  obtain ⟨fuel, hf⟩ := h
  rcases Go.Deep.open_bools Try.underlying38 Try.underlying4 (by kernel_rfl) hf with ⟨hcs, _⟩ | ⟨x, l, c, B, hcs, _, hl, hm, hx, hcell⟩
  · simp [Value.cells] at hcs
    obtain ⟨rfl, rfl, rfl⟩ := hcs
    exact ⟨none, 0, [], rfl, Nat.le_refl _, by simp, row_none⟩
  · simp [Value.cells] at hcs
    obtain ⟨rfl, rfl, rfl⟩ := hcs
    have hz : ((List.range cap).map B).length = cap := by simp
    have hn : (((List.range cap).map B).take len).length = len := by rw [List.length_take, hz]; omega
    refine ⟨some x, cap, ((List.range cap).map B).take len, by rw [hn], by omega, ?_, row_read (by omega) (by omega) (z := false) (fun i hi => ?_)⟩
    · obtain ⟨hx, _⟩ := Prod.mk.inj hx
      subst hx
      have z := sized_slice hsz ht hd Try.underlying38
      rw [show Try.prog.bytesOf 4 = 1 by kernel_rfl] at z
      simp at z
      have : reachBytes = 140737488351232 := rfl
      omega
    · rw [hz] at hi
      rw [hcell i hi, List.getD_eq_getElem?_getD, List.getElem?_map, List.getElem?_range hi]
      rfl
end
end Go.Proofs.Ytmngibfakkfnnaa
