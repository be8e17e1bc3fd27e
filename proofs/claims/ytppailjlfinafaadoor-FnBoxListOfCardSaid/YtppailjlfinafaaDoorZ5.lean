/-
FnBoxListOf: the guarded closure: the walk. Condition: some names, with commas between.
-/
import Derived.Test.YtppailjlfinafaaDoorZ4
import Derived.Defers
import Derived.Recover
import Derived.Laws.Pointers
namespace Go.Proofs.YtppailjlfinafaaDoor
open Go.RowKit Go.ChangeShapes Go.Proofs.YtppailjlfinafaaDoorW.PrintWords

/-- Two blocks apart, what lay stays. -/
structure Kept2 (b1 b2 : Nat) (w w' : World) : Prop where
  os : w'.os = w.os
  tape : w'.tape = w.tape
  output : w'.output = w.output
  size : w.heap.size ≤ w'.heap.size
  block : ∀ j, j < w.heap.size → j ≠ b1 → j ≠ b2 → w'.heap[j]? = w.heap[j]?
/-- What the closure leaves. -/
def Listed (ns : List Nat) (b1 b2 : Nat) (w w' : World) : Prop :=
  ∃ g ps, w'.cell? ⟨b1, 0, none⟩ = some (.pointer (some ⟨g, 0, none⟩)) ∧ w'.cell? ⟨b2, 0, none⟩ = some .nilIface ∧ PB w' g ps ∧ (∀ i, (ps i).isSome = ns.contains i) ∧ w.heap.size ≤ g ∧ Kept2 b1 b2 w w'
theorem PB.other {w : World} {g : Nat} {ps : Nat → Option Addr} (h : PB w g ps) (a : Addr) (v : Value) (hn : a.block ≠ g) : PB (w.setCell a v) g ps :=
  ⟨fun i hi => by rw [World.cell?_setCell_other _ _ _ _ (by intro e; apply hn; rw [e])]; exact h.cell i hi, fun i hi => by rw [World.frozen?_setCell]; exact h.open_ i hi, by simp; exact h.lt⟩
theorem closure_calls (ns : List Nat) (h0 : ns ≠ []) (h5 : ns.length ≤ 5) (hns : ∀ n ∈ ns, n < 5) (b0 b1 b2 : Nat) (x y : Value) (w : World)
    (c0 : w.cell? ⟨b0, 0, none⟩ = some (.string (bs (joinN ns)))) (c1 : w.cell? ⟨b1, 0, none⟩ = some x) (f1 : w.frozen? ⟨b1, 0, none⟩ = false) (c2 : w.cell? ⟨b2, 0, none⟩ = some y) (f2 : w.frozen? ⟨b2, 0, none⟩ = false) (h12 : b1 ≠ b2) :
    Calls Tryd.prog 6 #[.pointer (some ⟨b0, 0, none⟩), .pointer (some ⟨b1, 0, none⟩), .pointer (some ⟨b2, 0, none⟩)] w fun e w' => e = .returned (.tuple #[]) ∧ Listed ns b1 b2 w w' := by
  have HP := Lib.hid (parse_calls ns h0 h5 hns w)
  have l1 := World.block_lt_of_cell? w _ c1
  have l2 := World.block_lt_of_cell? w _ c2
  generalize bs (joinN ns) = S at c0 HP
  go_enter Tryd.func6, Tryd.ntmps6
  go_wp2_with (go_at_call 7; refine HP.out.mono ?_; rintro e w1 ⟨g, ps, rfl, hPB, hsome, hg, hb⟩; have k1 := pw_cell_below hb c1; have k2 := pw_cell_below hb c2; have m1 := (World.frozen?_of_block (hb.block b1 l1)).trans f1; have m2 := (World.frozen?_of_block (hb.block b2 l2)).trans f2)
  go_end0
  refine ⟨rfl, g, ps, ?_, World.cell?_setCell_same _ _ _ ((World.cell?_setCell_other _ _ _ _ (by intro h; cases h; exact h12 rfl)).trans k2), ?_, hsome, hg, ?_⟩
  · rw [World.cell?_setCell_other _ _ _ _ (by intro h; cases h; exact h12 rfl)]
    exact World.cell?_setCell_same _ _ _ k1
  · exact (hPB.other _ _ (by show b1 ≠ g; omega)).other _ _ (by show b2 ≠ g; omega)
  · refine ⟨hb.os, hb.tape, hb.output, by simpa using hb.size, fun j hj n1 n2 => ?_⟩
    rw [heap_setCell_other _ _ _ _ n2, heap_setCell_other _ _ _ _ n1]
    exact hb.block j hj
theorem catch_idle (p : Addr) (w : World) :
    CallsD Tryd.prog 8 #[.pointer (some p)] .returning w fun e u' w' => e = .returned (.tuple #[]) ∧ u' = .returning ∧ w' = w := by
  refine callsD_of_wpS Tryd.func8 rfl fun c₀ cs hu => ?_
  apply wpS_seq
  apply wpS_region
  simp [wpOpsS, go_sem, recoverD, hu, Tryd.ntmps8, Exit.thenS]
  refine wpS_cond (t := false) (by simp [Act.eval, Array.replicate]) ?_
  simp only [Bool.false_eq_true, if_false]
  refine wpS_of_wp (wp_skip ?_)
  cases c₀
  simp_all [bodyPostS, results, Tryd.results8]
theorem calm_calls (ns : List Nat) (h0 : ns ≠ []) (h5 : ns.length ≤ 5) (hns : ∀ n ∈ ns, n < 5) (b0 b1 b2 : Nat) (x y : Value) (w : World)
    (c0 : w.cell? ⟨b0, 0, none⟩ = some (.string (bs (joinN ns)))) (c1 : w.cell? ⟨b1, 0, none⟩ = some x) (f1 : w.frozen? ⟨b1, 0, none⟩ = false) (c2 : w.cell? ⟨b2, 0, none⟩ = some y) (f2 : w.frozen? ⟨b2, 0, none⟩ = false) (h12 : b1 ≠ b2) :
    Calls Tryd.prog 5 #[.func (.func 6) #[] #[.pointer (some ⟨b0, 0, none⟩), .pointer (some ⟨b1, 0, none⟩), .pointer (some ⟨b2, 0, none⟩)]] w fun e w' => e = .returned (.bool true) ∧ Listed ns b1 b2 w w' := by
  have hmf : ∀ (fn : Fn) (first cap : Array Value) (w : World), (Instr.makeFunc fn first cap).run Tryd.prog w = .ok (.func fn first cap) w := fun _ _ _ _ => rfl
  have l0 := World.block_lt_of_cell? w _ c0
  have l1 := World.block_lt_of_cell? w _ c1
  have l2 := World.block_lt_of_cell? w _ c2
  have ba := (Below.refl _ w).alloc (Nat.le_refl _) (.cells #[.bool false] 4)
  have H := Lib.hid (closure_calls ns h0 h5 hns b0 b1 b2 x y (w.alloc (.cells #[.bool false] 4)) (pw_cell_below ba c0) (pw_cell_below ba c1) ((World.frozen?_of_block (ba.block b1 l1)).trans f1) (pw_cell_below ba c2) ((World.frozen?_of_block (ba.block b2 l2)).trans f2) h12)
  have hsz : (w.alloc (.cells #[.bool false] 4)).heap.size = w.heap.size + 1 := by simp
  clear ba c0 c1 c2 f1 f2
  go_enter_defers Tryd.func5, Tryd.ntmps5
  go_wp2_with (go_at_call 6; refine H.out.mono ?_; rintro e w1 ⟨rfl, g, ps, q1, q2, hPB, hsome, hg, hK⟩
               have hblk : w1.heap[w.heap.size]? = (w.alloc (.cells #[.bool false] 4)).heap[w.heap.size]? := hK.block _ (by simp) (by omega) (by omega)
               have kc : w1.cell? ⟨w.heap.size, 0, none⟩ = some (.bool false) := (World.cell?_of_block hblk).trans (by simp [World.cell?, World.alloc, -World.alloc_eq])
               have kf : w1.frozen? ⟨w.heap.size, 0, none⟩ = false := (World.frozen?_of_block hblk).trans (by simp [World.frozen?, World.alloc, -World.alloc_eq])
               clear hblk)
  refine leaves_cons (f := 8) (args := #[.pointer (some ⟨w.heap.size, 0, none⟩)]) (by simp) (by simp [go_sem]) ?_
  refine (catch_idle ⟨w.heap.size, 0, none⟩ _).mono ?_
  rintro e u' w'' ⟨rfl, rfl, rfl⟩
  have k2 : (w1.setCell ⟨w.heap.size, 0, none⟩ (.bool true)).cell? ⟨w.heap.size, 0, none⟩ = some (.bool true) := World.cell?_setCell_same _ _ _ kc
  rw [hsz] at hg
  have hs1 := hK.size
  rw [hsz] at hs1
  have main : Listed ns b1 b2 w (w1.setCell ⟨w.heap.size, 0, none⟩ (.bool true)) := by
    refine ⟨g, ps, ?_, ?_, hPB.other _ _ (by show w.heap.size ≠ g; omega), hsome, by omega, hK.os, hK.tape, hK.output, by simp; omega, fun j hj n1 n2 => ?_⟩
    · rw [World.cell?_setCell_other _ _ _ _ (by intro h; cases h; omega)]; exact q1
    · rw [World.cell?_setCell_other _ _ _ _ (by intro h; cases h; omega)]; exact q2
    · rw [heap_setCell_other _ _ _ _ (by show j ≠ w.heap.size; omega), hK.block j (by omega) n1 n2]
      exact Below.heap_alloc w _ j hj
  generalize w1.setCell ⟨w.heap.size, 0, none⟩ (.bool true) = W at k2 main ⊢
  simp [Leaves, settle, results, Tryd.results5, go_sem, k2]
  exact main
end Go.Proofs.YtppailjlfinafaaDoor
