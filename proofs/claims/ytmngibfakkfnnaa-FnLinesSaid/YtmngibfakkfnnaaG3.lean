/-
The law FnLines: the program's lines: the walk through the closure that is guarded. Conditions: bytes that lie in memory, of bounded number.
-/
import Derived.Test.YtmngibfakkfnnaaG2
import Derived.Defers
import Derived.Recover
import Derived.Laws.Pointers
namespace Go.Proofs.Ytmngibfakkfnnaa
open Go.RowKit Go.ChangeShapes Go.Proofs.YtmngibfakkfnnaaW.PrintWords

theorem catch_idle (p : Addr) (w : World) :
    CallsD Try.prog 48 #[.pointer (some p)] .returning w fun e u' w' => e = .returned (.tuple #[]) ∧ u' = .returning ∧ w' = w := by
  refine callsD_of_wpS Try.func48 rfl fun c₀ cs hu => ?_
  apply wpS_seq
  apply wpS_region
  simp [wpOpsS, go_sem, recoverD, hu, Try.ntmps48, Exit.thenS]
  refine wpS_cond (t := false) (by simp [Act.eval, Array.replicate]) ?_
  simp only [Bool.false_eq_true, if_false]
  refine wpS_of_wp (wp_skip ?_)
  cases c₀
  simp_all [bodyPostS, results, Try.results48]

theorem calm_calls (D : List Int) (b0 b1 b2 : Nat) (A : Option Addr) (c : Nat) (w : World) (hD : byted D) (hn : D.length ≤ 1000) (hc : D.length ≤ c) (hC : Kd.C (Kd.int .u8) w A D.length D)
    (h0 : w.cell? ⟨b0, 0, none⟩ = some (.slice A D.length c)) (h1 : w.cell? ⟨b1, 0, none⟩ = some (.bool false)) (h2 : w.cell? ⟨b2, 0, none⟩ = some (.slice none 0 0)) (hf : w.frozen? ⟨b2, 0, none⟩ = false)
    (hb0 : b0 < w.heap.size) (hb1 : b1 < w.heap.size) (hb2 : b2 < w.heap.size) (h01 : b1 ≠ b2) (hA0 : A = none → c = 0) :
    Calls Try.prog 38 #[.func (.func 39) #[] #[.pointer (some ⟨b0, 0, none⟩), .pointer (some ⟨b1, 0, none⟩), .pointer (some ⟨b2, 0, none⟩)]] w fun e w' => e = .returned (.bool true) ∧ ∃ v rows, w'.cell? ⟨b2, 0, none⟩ = some v ∧ w'.frozen? ⟨b2, 0, none⟩ = false ∧ w'.ownsRow w.heap.size 35 1 v (linesF D.length D).length rows ∧ RowsAt w' w.heap.size rows (linesF D.length D) ∧ w.grownBy w' (some b2) := by
  have hmf : ∀ (fn : Fn) (first cap : Array Value) (w : World), (Instr.makeFunc fn first cap).run Try.prog w = .ok (.func fn first cap) w := fun _ _ _ _ => rfl
  have old : ∀ (o : Obj) (j : Nat), j < w.heap.size → (w.alloc o).heap[j]? = w.heap[j]? := fun o j hj => Below.heap_alloc w o j hj
  have H := hidg (loop_calls D b0 b1 b2 A c (w.alloc (.cells #[.bool false] 4)) hD hn hc (Kd.C_below hC ((Below.refl _ _).alloc (Nat.le_refl _) _))
    (by rw [World.cell?_of_block (old _ b0 hb0)]; exact h0) (by rw [World.cell?_of_block (old _ b1 hb1)]; exact h1) (by rw [World.cell?_of_block (old _ b2 hb2)]; exact h2) (by rw [World.frozen?_of_block (old _ b2 hb2)]; exact hf)
    (by simp; omega) (by simp; omega) h01 hA0)
  go_enter_defers Try.func38, Try.ntmps38
  go_wp2_with (go_at_call 39; refine H.out.mono ?_; rintro e w1 ⟨rfl, v, rows, hv, hz, hov, hrows, hg⟩
               have hblk : w1.heap[w.heap.size]? = (w.alloc (.cells #[.bool false] 4)).heap[w.heap.size]? := hg.block _ (by simp) (fun h => by simp at h; omega)
               have kc : w1.cell? ⟨w.heap.size, 0, none⟩ = some (.bool false) := (World.cell?_of_block hblk).trans (by simp [World.cell?, World.alloc, -World.alloc_eq])
               have kf : w1.frozen? ⟨w.heap.size, 0, none⟩ = false := (World.frozen?_of_block hblk).trans (by simp [World.frozen?, World.alloc, -World.alloc_eq])
               clear hblk)
  refine leaves_cons (f := 48) (args := #[.pointer (some ⟨w.heap.size, 0, none⟩)]) (by simp) (by simp [go_sem]) ?_
  refine (catch_idle ⟨w.heap.size, 0, none⟩ _).mono ?_
  rintro e u' w'' ⟨rfl, rfl, rfl⟩
  have k2 : (w1.setCell ⟨w.heap.size, 0, none⟩ (.bool true)).cell? ⟨w.heap.size, 0, none⟩ = some (.bool true) := World.cell?_setCell_same _ _ _ kc
  have hne : ∀ j, j ≠ w.heap.size → (w1.setCell ⟨w.heap.size, 0, none⟩ (.bool true)).heap[j]? = w1.heap[j]? := fun j hj => heap_setCell_other _ _ _ _ hj
  have hsz : (w.alloc (.cells #[.bool false] 4)).heap.size = w.heap.size + 1 := by simp
  have hs1 := hg.size
  rw [hsz] at hov hrows hs1
  have main : ∃ v rows, (w1.setCell ⟨w.heap.size, 0, none⟩ (.bool true)).cell? ⟨b2, 0, none⟩ = some v ∧ (w1.setCell ⟨w.heap.size, 0, none⟩ (.bool true)).frozen? ⟨b2, 0, none⟩ = false ∧ (w1.setCell ⟨w.heap.size, 0, none⟩ (.bool true)).ownsRow w.heap.size 35 1 v (linesF D.length D).length rows ∧
      RowsAt (w1.setCell ⟨w.heap.size, 0, none⟩ (.bool true)) w.heap.size rows (linesF D.length D) ∧ w.grownBy (w1.setCell ⟨w.heap.size, 0, none⟩ (.bool true)) (some b2) := by
    refine ⟨v, rows, ?_, by rw [World.frozen?_setCell]; exact hz, own_weaken (own_move hov (fun j hj => hne j (by have := (hov.lt j hj).1; omega))) (Nat.le_succ _), ?_, ⟨?_, ?_, ?_, by simp; omega, fun k hk hkb => ?_⟩⟩
    · rw [World.cell?_of_block (hne b2 (by omega))]; exact hv
    · have := hrows.move (w1 := w1.setCell ⟨w.heap.size, 0, none⟩ (.bool true)) (fun j hj1 _ _ => hne j (by omega))
      exact ⟨this.1, fun i r l hr hl => own_weaken (this.2 i r l hr hl) (Nat.le_succ _)⟩
    · show w1.os = w.os; rw [hg.os]; rfl
    · show w1.tape = w.tape; rw [hg.tape]; rfl
    · show w1.output = w.output; rw [hg.output]; rfl
    · rw [hne k (by omega), hg.block k (by simp; omega) hkb]; exact old _ k hk
  generalize w1.setCell ⟨w.heap.size, 0, none⟩ (.bool true) = W at k2 main ⊢
  simp [Leaves, settle, results, Try.results38, go_sem, k2]
  obtain ⟨v, rows, a1, a0, a2, a3, a4⟩ := main
  exact ⟨v, a1, a0, rows, a2, a3, a4⟩

theorem three_blocks (w : World) (o1 o2 o3 : Obj) : (((w.alloc o1).alloc o2).alloc o3).heap[w.heap.size]? = some o1 ∧ (((w.alloc o1).alloc o2).alloc o3).heap[w.heap.size + 1]? = some o2 ∧ (((w.alloc o1).alloc o2).alloc o3).heap[w.heap.size + 1 + 1]? = some o3 := by
  have h3 : (((w.alloc o1).alloc o2).alloc o3).heap[((w.alloc o1).alloc o2).heap.size]? = some o3 := heap_alloc_new _ _
  have h2 : ((w.alloc o1).alloc o2).heap[(w.alloc o1).heap.size]? = some o2 := heap_alloc_new _ _
  have h1 : (w.alloc o1).heap[w.heap.size]? = some o1 := heap_alloc_new _ _
  simp only [World.size_alloc] at h1 h2 h3
  refine ⟨?_, ?_, h3⟩
  · rw [Below.heap_alloc _ _ _ (by simp only [World.size_alloc]; omega), Below.heap_alloc _ _ _ (by simp only [World.size_alloc]; omega)]; exact h1
  · rw [Below.heap_alloc _ _ _ (by simp only [World.size_alloc]; omega)]; exact h2
theorem linesOf_calls (D : List Int) (A : Option Addr) (c : Nat) (w : World) (hD : byted D) (hn : D.length ≤ 1000) (hc : D.length ≤ c) (hC : Kd.C (Kd.int .u8) w A D.length D) (hA0 : A = none → c = 0) :
    Calls Try.prog 27 #[.slice A D.length c, .bool false] w fun e w' => ∃ v rows, e = .returned (.tuple #[v, .bool true]) ∧ w'.ownsRow w.heap.size 35 1 v (linesF D.length D).length rows ∧ RowsAt w' w.heap.size rows (linesF D.length D) ∧ Below w.heap.size w w' := by
  have hmf : ∀ (fn : Fn) (first cap : Array Value) (w : World), (Instr.makeFunc fn first cap).run Try.prog w = .ok (.func fn first cap) w := fun _ _ _ _ => rfl
  have H := fun (W : World) (hW : W = ((w.alloc (.cells #[.slice A D.length c] 35)).alloc (.cells #[.bool false] 4)).alloc (.cells #[.slice none 0 0] 44)) => (by
    subst hW
    obtain ⟨t1, t2, t3⟩ := three_blocks w (.cells #[.slice A D.length c] 35) (.cells #[.bool false] 4) (.cells #[.slice none 0 0] 44)
    exact calm_calls D w.heap.size (w.heap.size + 1) (w.heap.size + 1 + 1) A c _ hD hn hc (Kd.C_below hC (((below_alloc (below_alloc (below_alloc (Below.refl _ _) _) _) _))))
      ((cell_of_row _ _ 0 _ _ (0, 0) t1).trans rfl) ((cell_of_row _ _ 0 _ _ (0, 0) t2).trans rfl) ((cell_of_row _ _ 0 _ _ (0, 0) t3).trans rfl) (frozen_of_row _ _ 0 _ _ t3)
      (by simp only [World.size_alloc]; omega) (by simp only [World.size_alloc]; omega) (by simp only [World.size_alloc]; omega) (by omega) hA0 : Calls Try.prog 38 #[.func (.func 39) #[] #[.pointer (some ⟨w.heap.size, 0, none⟩), .pointer (some ⟨w.heap.size + 1, 0, none⟩), .pointer (some ⟨w.heap.size + 1 + 1, 0, none⟩)]] W _)
  have H' := hidg (H _ rfl)
  clear H
  go_enter Try.func27, Try.ntmps27
  go_wp2_with (go_at_call 38; refine H'.out.mono ?_; rintro e w1 ⟨rfl, v, rows, hv, hz, hov, hrows, hg⟩; obtain ⟨Av, cv, rfl⟩ := own_slice hov)
  have hsz : (((w.alloc (.cells #[.slice A D.length c] 35)).alloc (.cells #[.bool false] 4)).alloc (.cells #[.slice none 0 0] 44)).heap.size = w.heap.size + 1 + 1 + 1 := by simp
  have hs1 := hg.size
  rw [hsz] at hov hrows hs1
  have hne : ∀ j, j ≠ w.heap.size + 1 + 1 → (w1.setCell ⟨w.heap.size + 1 + 1, 0, none⟩ (.slice Av (linesF D.length D).length cv)).heap[j]? = w1.heap[j]? := fun j hj => heap_setCell_other _ _ _ _ hj
  have k2 : (w1.setCell ⟨w.heap.size + 1 + 1, 0, none⟩ (.slice Av (linesF D.length D).length cv)).cell? ⟨w.heap.size + 1 + 1, 0, none⟩ = some (.slice Av (linesF D.length D).length cv) := World.cell?_setCell_same _ _ _ hv
  have m1 : (w1.setCell ⟨w.heap.size + 1 + 1, 0, none⟩ (.slice Av (linesF D.length D).length cv)).ownsRow w.heap.size 35 1 (.slice Av (linesF D.length D).length cv) (linesF D.length D).length rows :=
    own_weaken (own_move hov (fun j hj => hne j (by have := (hov.lt j hj).1; omega))) (by omega)
  have m2 : RowsAt (w1.setCell ⟨w.heap.size + 1 + 1, 0, none⟩ (.slice Av (linesF D.length D).length cv)) w.heap.size rows (linesF D.length D) := by
    have := hrows.move (w1 := w1.setCell ⟨w.heap.size + 1 + 1, 0, none⟩ (.slice Av (linesF D.length D).length cv)) (fun j hj1 _ _ => hne j (by omega))
    exact ⟨this.1, fun i r l hr hl => own_weaken (this.2 i r l hr hl) (by omega)⟩
  have m3 : Below w.heap.size w (w1.setCell ⟨w.heap.size + 1 + 1, 0, none⟩ (.slice Av (linesF D.length D).length cv)) :=
    (pw_below_grown (below_alloc (below_alloc (below_alloc (Below.refl _ w) _) _) _) _ (by omega) hg (fun k h => by simp at h; omega)).setCell (by show w.heap.size ≤ w.heap.size + 1 + 1; omega) _
  generalize w1.setCell ⟨w.heap.size + 1 + 1, 0, none⟩ (.slice Av (linesF D.length D).length cv) = W at k2 m1 m2 m3 ⊢
  exact bodyPost_ret (v := .tuple #[.slice Av (linesF D.length D).length cv, .bool true]) (by simp [results, Try.results27, go_sem, k2]) rfl ⟨_, rows, rfl, m1, m2, m3⟩
end Go.Proofs.Ytmngibfakkfnnaa
