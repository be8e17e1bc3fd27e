/-
FnBoxListOf: impl.BoxListOf: the walk. Condition: some names, with commas between.
-/
import Derived.Test.YtppailjlfinafaaDoorZ5
import Derived.BigQuiet
import Derived.RegionTactic
import Derived.Deep.QuietTactic
import Derived.StillTailTactics
namespace Go.Proofs.YtppailjlfinafaaDoor
open Go.RowKit Go.ChangeShapes Go.Proofs.YtppailjlfinafaaDoorW.PrintWords

theorem four_blocks (w : World) (o1 o2 o3 o4 : Obj) : ((((w.alloc o1).alloc o2).alloc o3).alloc o4).heap[w.heap.size]? = some o1 ∧ ((((w.alloc o1).alloc o2).alloc o3).alloc o4).heap[w.heap.size + 1]? = some o2 ∧ ((((w.alloc o1).alloc o2).alloc o3).alloc o4).heap[w.heap.size + 1 + 1]? = some o3 ∧ ((((w.alloc o1).alloc o2).alloc o3).alloc o4).heap[w.heap.size + 1 + 1 + 1]? = some o4 := by
  have h4 := blk_new (((w.alloc o1).alloc o2).alloc o3) o4
  have h3 := blk_new ((w.alloc o1).alloc o2) o3
  have h2 := blk_new (w.alloc o1) o2
  have h1 := blk_new w o1
  simp only [World.size_alloc] at h1 h2 h3 h4
  refine ⟨?_, ?_, ?_, h4⟩
  · rw [Below.heap_alloc _ _ _ (by simp only [World.size_alloc]; omega), Below.heap_alloc _ _ _ (by simp only [World.size_alloc]; omega), Below.heap_alloc _ _ _ (by simp only [World.size_alloc]; omega)]; exact h1
  · rw [Below.heap_alloc _ _ _ (by simp only [World.size_alloc]; omega), Below.heap_alloc _ _ _ (by simp only [World.size_alloc]; omega)]; exact h2
  · rw [Below.heap_alloc _ _ _ (by simp only [World.size_alloc]; omega)]; exact h3
theorem five_sets (w : World) (b : Nat) (v0 v1 v2 v3 v4 u0 u1 u2 u3 u4 : Value) (r0 : w.cell? ⟨b, 0, none⟩ = some u0) (r1 : w.cell? ⟨b, 1, none⟩ = some u1) (r2 : w.cell? ⟨b, 2, none⟩ = some u2) (r3 : w.cell? ⟨b, 3, none⟩ = some u3) (r4 : w.cell? ⟨b, 4, none⟩ = some u4) (W : World)
    (hW : (((((w.setCell ⟨b, 0, none⟩ v0).setCell ⟨b, 1, none⟩ v1).setCell ⟨b, 2, none⟩ v2).setCell ⟨b, 3, none⟩ v3).setCell ⟨b, 4, none⟩ v4) = W) :
    W.cell? ⟨b, 0, none⟩ = some v0 ∧ W.cell? ⟨b, 1, none⟩ = some v1 ∧ W.cell? ⟨b, 2, none⟩ = some v2 ∧ W.cell? ⟨b, 3, none⟩ = some v3 ∧ W.cell? ⟨b, 4, none⟩ = some v4 := by
  have ne : ∀ i j : Nat, i ≠ j → (⟨b, i, none⟩ : Addr) ≠ ⟨b, j, none⟩ := fun i j h e => by cases e; exact h rfl
  subst hW
  refine ⟨?_, ?_, ?_, ?_, ?_⟩
  · rw [World.cell?_setCell_other _ _ _ _ (ne 4 0 (by decide)), World.cell?_setCell_other _ _ _ _ (ne 3 0 (by decide)), World.cell?_setCell_other _ _ _ _ (ne 2 0 (by decide)), World.cell?_setCell_other _ _ _ _ (ne 1 0 (by decide))]
    exact World.cell?_setCell_same _ _ _ r0
  · rw [World.cell?_setCell_other _ _ _ _ (ne 4 1 (by decide)), World.cell?_setCell_other _ _ _ _ (ne 3 1 (by decide)), World.cell?_setCell_other _ _ _ _ (ne 2 1 (by decide))]
    exact World.cell?_setCell_same _ _ _ ((World.cell?_setCell_other _ _ _ _ (ne 0 1 (by decide))).trans r1)
  · rw [World.cell?_setCell_other _ _ _ _ (ne 4 2 (by decide)), World.cell?_setCell_other _ _ _ _ (ne 3 2 (by decide))]
    exact World.cell?_setCell_same _ _ _ ((World.cell?_setCell_other _ _ _ _ (ne 1 2 (by decide))).trans ((World.cell?_setCell_other _ _ _ _ (ne 0 2 (by decide))).trans r2))
  · rw [World.cell?_setCell_other _ _ _ _ (ne 4 3 (by decide))]
    exact World.cell?_setCell_same _ _ _ ((World.cell?_setCell_other _ _ _ _ (ne 2 3 (by decide))).trans ((World.cell?_setCell_other _ _ _ _ (ne 1 3 (by decide))).trans ((World.cell?_setCell_other _ _ _ _ (ne 0 3 (by decide))).trans r3)))
  · exact World.cell?_setCell_same _ _ _ ((World.cell?_setCell_other _ _ _ _ (ne 3 4 (by decide))).trans ((World.cell?_setCell_other _ _ _ _ (ne 2 4 (by decide))).trans ((World.cell?_setCell_other _ _ _ _ (ne 1 4 (by decide))).trans ((World.cell?_setCell_other _ _ _ _ (ne 0 4 (by decide))).trans r4))))
set_option maxRecDepth 100000 in
set_option maxHeartbeats 4000000 in
theorem impl_calls (ns : List Nat) (h0 : ns ≠ []) (h5 : ns.length ≤ 5) (hns : ∀ n ∈ ns, n < 5) (w : World) :
    Calls Tryd.prog 4 #[.string (bs (joinN ns))] w fun e w' => e = .returned (.tuple #[.agg #[.bool (ns.contains 0), .bool (ns.contains 1), .bool (ns.contains 2), .bool (ns.contains 3), .bool (ns.contains 4)], .bool true]) ∧ Below w.heap.size w w' := by
  have hmf : ∀ (fn : Fn) (first cap : Array Value) (w : World), (Instr.makeFunc fn first cap).run Tryd.prog w = .ok (.func fn first cap) w := fun _ _ _ _ => rfl
  have H := fun (W : World) (hW : W = (((w.alloc (.cells #[.string (bs (joinN ns))] 9)).alloc (.cells #[.bool false, .bool false, .bool false, .bool false, .bool false] 24)).alloc (.cells #[.pointer none] 28)).alloc (.cells #[.nilIface] 30)) => (by
    subst hW
    obtain ⟨t1, t2, t3, t4⟩ := four_blocks w (.cells #[.string (bs (joinN ns))] 9) (.cells #[.bool false, .bool false, .bool false, .bool false, .bool false] 24) (.cells #[.pointer none] 28) (.cells #[.nilIface] 30)
    refine (calm_calls ns h0 h5 hns w.heap.size (w.heap.size + 1 + 1) (w.heap.size + 1 + 1 + 1) (.pointer none) .nilIface _ (blk_cell t1 0) (blk_cell t3 0) (frozen_of_row _ _ 0 _ _ t3) (blk_cell t4 0) (frozen_of_row _ _ 0 _ _ t4) (by omega)).mono ?_
    rintro e w1 ⟨he, g, ps, q1, q2, hPB, hsome, hg, hK⟩
    have hs := hK.size
    simp only [World.size_alloc] at hg hs
    have t2' := (hK.block (w.heap.size + 1) (by simp only [World.size_alloc]; omega) (by omega) (by omega)).trans t2
    exact ⟨he, g, ps, q1, q2, hPB, hsome, hg, t2', ⟨hK.os, hK.tape, hK.output, by omega, fun j hj => (hK.block j (by simp only [World.size_alloc]; omega) (by omega) (by omega)).trans (by rw [Below.heap_alloc _ _ _ (by simp only [World.size_alloc]; omega), Below.heap_alloc _ _ _ (by simp only [World.size_alloc]; omega), Below.heap_alloc _ _ _ (by simp only [World.size_alloc]; omega), Below.heap_alloc _ _ _ hj])⟩⟩
    : Calls Tryd.prog 5 #[.func (.func 6) #[] #[.pointer (some ⟨w.heap.size, 0, none⟩), .pointer (some ⟨w.heap.size + 1 + 1, 0, none⟩), .pointer (some ⟨w.heap.size + 1 + 1 + 1, 0, none⟩)]] W fun e w1 => e = .returned (.bool true) ∧ ∃ g ps, w1.cell? ⟨w.heap.size + 1 + 1, 0, none⟩ = some (.pointer (some ⟨g, 0, none⟩)) ∧ w1.cell? ⟨w.heap.size + 1 + 1 + 1, 0, none⟩ = some .nilIface ∧ PB w1 g ps ∧ (∀ i, (ps i).isSome = ns.contains i) ∧ w.heap.size + 1 + 1 + 1 + 1 ≤ g ∧ w1.heap[w.heap.size + 1]? = some (.cells #[.bool false, .bool false, .bool false, .bool false, .bool false] 24) ∧ Below w.heap.size w w1)
  have H' := Lib.hid (H _ rfl)
  clear H
  generalize bs (joinN ns) = S at H'
  go_enter Tryd.func4, Tryd.ntmps4
  go_wp2_with (go_at_call 5; refine H'.out.mono ?_; rintro e w1 ⟨rfl, g, ps, q1, q2, hPB, hsome, hg, hblk, hB⟩)
  have hne : ∀ (p : Option Addr) (w : World), (binOp .neq 34 (.pointer p) (.pointer none)).run Tryd.prog w = .ok (.bool p.isSome) w := fun p w => by cases p <;> kernel_rfl
  obtain ⟨p0, e0⟩ : ∃ p, ps 0 = p := ⟨_, rfl⟩
  obtain ⟨p1, e1⟩ : ∃ p, ps 1 = p := ⟨_, rfl⟩
  obtain ⟨p2, e2⟩ : ∃ p, ps 2 = p := ⟨_, rfl⟩
  obtain ⟨p3, e3⟩ : ∃ p, ps 3 = p := ⟨_, rfl⟩
  obtain ⟨p4, e4⟩ : ∃ p, ps 4 = p := ⟨_, rfl⟩
  have c0 := hPB.cell 0 (by decide)
  have c1 := hPB.cell 1 (by decide)
  have c2 := hPB.cell 2 (by decide)
  have c3 := hPB.cell 3 (by decide)
  have c4 := hPB.cell 4 (by decide)
  have s0 := hsome 0
  have s1 := hsome 1
  have s2 := hsome 2
  have s3 := hsome 3
  have s4 := hsome 4
  rw [e0] at c0 s0
  rw [e1] at c1 s1
  rw [e2] at c2 s2
  rw [e3] at c3 s3
  rw [e4] at c4 s4
  have HS := Lib.hid (⟨s0, s1, s2, s3, s4⟩ : p0.isSome = ns.contains 0 ∧ p1.isSome = ns.contains 1 ∧ p2.isSome = ns.contains 2 ∧ p3.isSome = ns.contains 3 ∧ p4.isSome = ns.contains 4)
  clear e0 e1 e2 e3 e4 s0 s1 s2 s3 s4 hPB hsome
  have r0 := blk_cell hblk 0
  have r1 := blk_cell hblk 1
  have r2 := blk_cell hblk 2
  have r3 := blk_cell hblk 3
  have r4 := blk_cell hblk 4
  have f0 := frozen_of_row w1 _ 0 _ _ hblk
  have f1 := frozen_of_row w1 _ 1 _ _ hblk
  have f2 := frozen_of_row w1 _ 2 _ _ hblk
  have f3 := frozen_of_row w1 _ 3 _ _ hblk
  have f4 := frozen_of_row w1 _ 4 _ _ hblk
  have HB := Lib.hid hB
  have HBK := Lib.hid hblk
  clear hblk hB hmf h0 h5 hns H'
  go_still_tail 26, (by kernel_rfl)
  change wpList _ _ _ _ _ w1.drew
  go_wp2_with fail
  have hBel : Below w.heap.size w (((((w1.setCell ⟨w.heap.size + 1, 0, none⟩ (.bool p0.isSome)).setCell ⟨w.heap.size + 1, 1, none⟩ (.bool p1.isSome)).setCell ⟨w.heap.size + 1, 2, none⟩ (.bool p2.isSome)).setCell ⟨w.heap.size + 1, 3, none⟩ (.bool p3.isSome)).setCell ⟨w.heap.size + 1, 4, none⟩ (.bool p4.isSome)) :=
    ((((HB.out.setCell (Nat.le_succ _) _).setCell (Nat.le_succ _) _).setCell (Nat.le_succ _) _).setCell (Nat.le_succ _) _).setCell (Nat.le_succ _) _
  have hCells := five_sets w1 (w.heap.size + 1) (.bool p0.isSome) (.bool p1.isSome) (.bool p2.isSome) (.bool p3.isSome) (.bool p4.isSome) _ _ _ _ _ r0 r1 r2 r3 r4 _ rfl
  obtain ⟨z0, z1, z2, z3, z4⟩ := HS.out
  rw [z0, z1, z2, z3, z4] at hBel hCells
  rw [z0, z1, z2, z3, z4]
  generalize (((((w1.setCell ⟨w.heap.size + 1, 0, none⟩ (.bool (ns.contains 0))).setCell ⟨w.heap.size + 1, 1, none⟩ (.bool (ns.contains 1))).setCell ⟨w.heap.size + 1, 2, none⟩ (.bool (ns.contains 2))).setCell ⟨w.heap.size + 1, 3, none⟩ (.bool (ns.contains 3))).setCell ⟨w.heap.size + 1, 4, none⟩ (.bool (ns.contains 4))) = F at hBel hCells ⊢
  obtain ⟨k0, k1, k2, k3, k4⟩ := hCells
  refine bodyPost_ret (v := .tuple #[.agg #[.bool (ns.contains 0), .bool (ns.contains 1), .bool (ns.contains 2), .bool (ns.contains 3), .bool (ns.contains 4)], .bool true]) ?_ rfl ⟨rfl, hBel.drew⟩
  simp [results, Tryd.results4, go_sem, k0, k1, k2, k3, k4]
end Go.Proofs.YtppailjlfinafaaDoor
