/-
What the frames of the laws share: the program's layout; arguments that are lists opened. No condition.
-/
import Derived.Test.YthfihamhkhnckaaDoorRows
import Derived.Test.YthfihamhkhnckaaDoorWWords
import Derived.WalkKit
import Derived.ProofKit
import Derived.OpenShut
import Derived.ShutString
import Derived.SliceStrings
import Derived.ChangeOld
import Derived.Below
import Derived.SizedLaws
namespace Go.Proofs.YthfihamhkhnckaaDoor
open Go.ChangeShapes Go.WideShapes Go.ChangeAt Go.RowKit Go.Proofs.YthfihamhkhnckaaDoorW.PrintWords

theorem own : ownKnob Tryd.prog.godebug = none := by kernel_rfl
theorem laidOut : laidOutB Tryd.prog = true := by kernel_rfl

/-- A row of plain elements in memory, read. -/
theorem row_read {α : Type} {enc : α → Value} {h1 : ∀ x, (enc x).oneCell' = true} {W : World} {a : Addr} {len : Nat} {zs : List α} {z : α} (hl : len ≤ zs.length) (hm : zs.length ≤ maxLen)
    (hc : ∀ i, i < zs.length → W.cell? (a.add i) = some (enc (zs.getD i z))) : (Kd.scalar enc h1).C W (some a) (zs.take len).length (zs.take len) := by
  refine ⟨rfl, ?_, fun _ => ⟨a, rfl, fun j p hj => ⟨[enc p], rfl, rfl, fun i u hu => ?_⟩⟩⟩
  · have : maxLen ≤ 9223372036854775807 := by decide
    simp; omega
  · obtain ⟨hj1, hj2⟩ := List.getElem?_eq_some_iff.1 hj
    rw [List.length_take] at hj1
    have hz : j < zs.length := by omega
    cases i with
    | zero =>
      have hu' : u = enc p := by simpa using hu.symm
      have := hc j hz
      rw [hu', Kd.scalar, Nat.mul_one, Nat.add_zero, this, List.getD_eq_getElem?_getD, List.getElem?_eq_getElem hz]
      rw [List.getElem_take] at hj2
      simp [hj2]
    | succ i => simp at hu
theorem row_none {α : Type} {d : Kd α} {W : World} : d.C W none ([] : List α).length [] := ⟨rfl, Nat.zero_le _, fun h => absurd h (by simp)⟩

section
variable {H : Type} {enc : TypeId × Value → H} {w : World} {base : Nat} {ts : List TypeId} {ds : List (DataW H)} {j : Nat}
set_option maxRecDepth 100000 in
theorem open_texts {v : Value} {d : DataW H} {p : List MemPlace} {r : Reach} {b0 : Nat} (hsz : (DataW.weightsEach Tryd.prog ts ds).all (· ≤ reachBytes) = true) (ht : ts[j]? = some 22) (hd : ds[j]? = some d)
    (hv : Value.okWide Tryd.prog w r b0 22 v) (h : DataW.Trod enc Tryd.prog w base (fun _ => true) true 22 v d p) :
    ∃ (A : Option Addr) (c : Nat) (l : List ByteArray), v = .slice A l.length c ∧ l.length ≤ c ∧ l.length ≤ 140737488351232 ∧ Kd.C Kd.string w A l.length l := by
  obtain ⟨a, len, cap, rfl⟩ := okWide_slice Tryd.underlying22 hv
  obtain ⟨fuel, hf⟩ := h
  rcases open_strings Tryd.underlying22 Tryd.underlying9 (by kernel_rfl) hf with ⟨hcs, _⟩ | ⟨x, l, c, zs, hcs, _, hl, hm, hz, hx, hcell, _⟩
  · simp [Value.cells] at hcs
    obtain ⟨rfl, rfl, rfl⟩ := hcs
    exact ⟨none, 0, [], rfl, Nat.le_refl _, by simp, row_none⟩
  · simp [Value.cells] at hcs
    obtain ⟨rfl, rfl, rfl⟩ := hcs
    have hz' : zs.length = cap := by simpa using hz
    have hn : (zs.take len).length = len := by rw [List.length_take]; omega
    refine ⟨some x, cap, zs.take len, by rw [hn], by omega, ?_, row_read (by omega) (by omega) hcell⟩
    obtain ⟨hx, _⟩ := Prod.mk.inj hx
    subst hx
    have z := sized_slice hsz ht hd Tryd.underlying22
    rw [show Tryd.prog.bytesOf 9 = 16 by kernel_rfl] at z
    have h1 : (strs (H := H) (zs.take len)).length + (strs (H := H) (zs.drop len)).length = zs.length := by
      simp [strs]
      omega
    rw [h1] at z
    have : reachBytes = 140737488351232 := rfl
    omega
set_option maxRecDepth 100000 in
theorem open_nums {v : Value} {d : DataW H} {p : List MemPlace} {r : Reach} {b0 : Nat} {t e B : Nat} {k : IntKind} (hu : Tryd.prog.underlying t = some (.slice e)) (he : Tryd.prog.underlying e = some (.int k)) (hc : Tryd.prog.cellsOf e = 1) (hB : Tryd.prog.bytesOf e = B) (hB0 : 0 < B)
    (hsz : (DataW.weightsEach Tryd.prog ts ds).all (· ≤ reachBytes) = true) (ht : ts[j]? = some t) (hd : ds[j]? = some d)
    (hv : Value.okWide Tryd.prog w r b0 t v) (h : DataW.Trod enc Tryd.prog w base (fun _ => true) true t v d p) :
    ∃ (A : Option Addr) (c : Nat) (l : List Int), v = .slice A l.length c ∧ l.length ≤ c ∧ l.length ≤ 140737488351232 ∧ Kd.C (Kd.int k) w A l.length l ∧ ∀ n ∈ l, (Lit.int k n).wf = true := by
  obtain ⟨a, len, cap, rfl⟩ := okWide_slice hu hv
  obtain ⟨fuel, hf⟩ := h
  rcases open_ints hu he hc hf with ⟨hcs, _⟩ | ⟨x, l, c, zs, hcs, _, hl, hm, hz, hx, hcell, hwf⟩
  · simp [Value.cells] at hcs
    obtain ⟨rfl, rfl, rfl⟩ := hcs
    exact ⟨none, 0, [], rfl, Nat.le_refl _, by simp, row_none, by simp⟩
  · simp [Value.cells] at hcs
    obtain ⟨rfl, rfl, rfl⟩ := hcs
    have hz' : zs.length = cap := by simpa using hz
    have hn : (zs.take len).length = len := by rw [List.length_take]; omega
    refine ⟨some x, cap, zs.take len, by rw [hn], by omega, ?_, row_read (by omega) (by omega) hcell, fun n hn => hwf n (List.mem_of_mem_take hn)⟩
    obtain ⟨hx, _⟩ := Prod.mk.inj hx
    subst hx
    have z := sized_slice hsz ht hd hu
    rw [hB] at z
    have h1 : (lits (H := H) k (zs.take len)).length + (lits (H := H) k (zs.drop len)).length = zs.length := by
      simp [lits]
      omega
    rw [h1] at z
    have : reachBytes = 140737488351232 := rfl
    have := Nat.le_mul_of_pos_right zs.length hB0
    omega
end
end Go.Proofs.YthfihamhkhnckaaDoor
