/-
FnCollected: the guarded closure and impl.Collected: the walks. Conditions: every token has its effect; some page is collected.
-/
import Derived.Test.YthfihamhkhnckaaDoorK8
import Derived.WalkKit
import Derived.Defers
import Derived.Recover
import Derived.Laws.Pointers
namespace Go.Proofs.YthfihamhkhnckaaDoor
open Go.RowKit Go.ChangeShapes Go.Proofs.YthfihamhkhnckaaDoorW.PrintWords

set_option maxHeartbeats 1000000
/-- The tokens lie in memory. -/
def Toks (ts : List (List UInt8)) (A : Option Addr) (w : World) : Prop := ∀ i (h : i < ts.length), ∃ ad, A = some ad ∧ w.cell? (ad.add i) = some (.string (bs (ts[i]'h)))
theorem Toks.below {ts : List (List UInt8)} {A : Option Addr} {w w1 : World} (h : Toks ts A w) (hb : Below w.heap.size w w1) : Toks ts A w1 := fun i hi => by
  obtain ⟨ad, e, hc⟩ := h i hi
  exact ⟨ad, e, pw_cell_below hb hc⟩
/-- Two blocks apart, what lay stays. -/
structure Kept2 (b1 b2 : Nat) (w w' : World) : Prop where
  os : w'.os = w.os
  tape : w'.tape = w.tape
  output : w'.output = w.output
  size : w.heap.size ≤ w'.heap.size
  block : ∀ j, j < w.heap.size → j ≠ b1 → j ≠ b2 → w'.heap[j]? = w.heap[j]?
/-- What the closure leaves. -/
def Listed (L : List Int) (b1 b2 : Nat) (w w' : World) : Prop :=
  ∃ A cv, w'.heap[b1]? = some (.cells #[.slice A L.length cv] 24 (0, 0)) ∧ w'.cell? ⟨b2, 0, none⟩ = some .nilIface ∧ w'.ownsRow w.heap.size 3 1 (.slice A L.length cv) L.length (nums .i64 L) ∧ Kept2 b1 b2 w w'
section
variable (n : Nat) (M : Nat → List Int) (ts : List (List UInt8)) (hts : ts.length ≤ 100) (hE : Run n ts M) (hne : M ts.length ≠ []) (A : Option Addr) (cap : Nat)
include hts hE hne
theorem closure_calls (b0 b1 b2 b3 : Nat) (x : Value) (w : World) (hT : Toks ts A w)
    (c0 : w.cell? ⟨b0, 0, none⟩ = some (.int .i64 (n : Int))) (c1 : w.cell? ⟨b1, 0, none⟩ = some (.slice A ts.length cap)) (h2 : w.heap[b2]? = some (.cells #[x] 24 (0, 0))) (h3 : w.heap[b3]? = some (.cells #[.nilIface] 40 (0, 0))) (h23 : b2 ≠ b3) :
    Calls Tryd.prog 18 #[.pointer (some ⟨b0, 0, none⟩), .pointer (some ⟨b1, 0, none⟩), .pointer (some ⟨b2, 0, none⟩), .pointer (some ⟨b3, 0, none⟩)] w fun e w' => e = .returned (.tuple #[]) ∧ Listed (M ts.length) b2 b3 w w' := by
  have HP := Lib.hid (pages_calls n M ts hts hE hne A cap w hT)
  have l2 := blk_lt h2
  have l3 := blk_lt h3
  have H2 := Lib.hid h2
  have H3 := Lib.hid h3
  clear hE hne hT h2 h3
  generalize M ts.length = L at *
  go_enter Tryd.func18, Tryd.ntmps18
  go_wp2_with (go_at_call 19; refine HP.out.mono ?_; rintro e w1 ⟨v, rfl, ho, hb⟩; have m2 := (hb.block b2 l2).trans H2.out; have m3 := (hb.block b3 l3).trans H3.out; have k2 := blk_cell m2 0; have f2 := blk_frozen m2 0; have k3 := blk_cell m3 0; have f3 := blk_frozen m3 0; have M2 := Lib.hid m2; obtain ⟨A2, cv, rfl⟩ := own_slice ho; have Ho := Lib.hid ho; clear m2 m3 ho)
  go_end0
  have ne : ∀ k, (Value.slice A2 L.length cv).ownBlock = some k → w.heap.size ≤ k := fun k hk => own_base Ho.out k hk
  refine ⟨rfl, A2, cv, ?_, ?_, ?_, hb.os, hb.tape, hb.output, by simpa using hb.size, fun j hj n1 n2 => ?_⟩
  · exact blk_far (blk_put M2.out 0 _ rfl) h23 _
  · exact World.cell?_setCell_same _ _ _ ((World.cell?_setCell_other _ _ _ _ (by intro h; cases h; exact h23 rfl)).trans k3)
  · refine own_setCell (own_setCell Ho.out (fun h => ?_) _) (fun h => ?_) _
    · have := ne _ h.symm; simp at this; omega
    · have := ne _ h.symm; simp at this; omega
  · rw [heap_setCell_other _ _ _ _ n2, heap_setCell_other _ _ _ _ n1]
    exact hb.block j hj
end
theorem catch_idle (p : Addr) (w : World) :
    CallsD Tryd.prog 26 #[.pointer (some p)] .returning w fun e u' w' => e = .returned (.tuple #[]) ∧ u' = .returning ∧ w' = w := by
  refine callsD_of_wpS Tryd.func26 rfl fun c₀ cs hu => ?_
  apply wpS_seq
  apply wpS_region
  simp [wpOpsS, go_sem, recoverD, hu, Tryd.ntmps26, Exit.thenS]
  refine wpS_cond (t := false) (by simp [Act.eval, Array.replicate]) ?_
  simp only [Bool.false_eq_true, if_false]
  refine wpS_of_wp (wp_skip ?_)
  cases c₀
  simp_all [bodyPostS, results, Tryd.results26]
section
variable (n : Nat) (M : Nat → List Int) (ts : List (List UInt8)) (hts : ts.length ≤ 100) (hE : Run n ts M) (hne : M ts.length ≠ []) (A : Option Addr) (cap : Nat)
include hts hE hne
theorem calm_calls (b0 b1 b2 b3 : Nat) (x : Value) (w : World) (hT : Toks ts A w)
    (c0 : w.cell? ⟨b0, 0, none⟩ = some (.int .i64 (n : Int))) (c1 : w.cell? ⟨b1, 0, none⟩ = some (.slice A ts.length cap)) (h2 : w.heap[b2]? = some (.cells #[x] 24 (0, 0))) (h3 : w.heap[b3]? = some (.cells #[.nilIface] 40 (0, 0))) (h23 : b2 ≠ b3) :
    Calls Tryd.prog 17 #[.func (.func 18) #[] #[.pointer (some ⟨b0, 0, none⟩), .pointer (some ⟨b1, 0, none⟩), .pointer (some ⟨b2, 0, none⟩), .pointer (some ⟨b3, 0, none⟩)]] w fun e w' => e = .returned (.bool true) ∧ Listed (M ts.length) b2 b3 w w' := by
  have hmf : ∀ (fn : Fn) (first cap : Array Value) (w : World), (Instr.makeFunc fn first cap).run Tryd.prog w = .ok (.func fn first cap) w := fun _ _ _ _ => rfl
  have l2 := blk_lt h2
  have l3 := blk_lt h3
  have ba := (Below.refl _ w).alloc (Nat.le_refl _) (.cells #[.bool false] 4)
  have H := Lib.hid (closure_calls n M ts hts hE hne A cap b0 b1 b2 b3 x (w.alloc (.cells #[.bool false] 4)) (hT.below ba) (pw_cell_below ba c0) (pw_cell_below ba c1) ((ba.block b2 l2).trans h2) ((ba.block b3 l3).trans h3) h23)
  have hsz : (w.alloc (.cells #[.bool false] 4)).heap.size = w.heap.size + 1 := by simp
  clear ba c0 c1 h2 h3 hT hE hne
  generalize M ts.length = L at *
  go_enter_defers Tryd.func17, Tryd.ntmps17
  go_wp2_with (go_at_call 18; refine H.out.mono ?_; rintro e w1 ⟨rfl, A2, cv, q1, q2, q3, hK⟩
               have hblk : w1.heap[w.heap.size]? = (w.alloc (.cells #[.bool false] 4)).heap[w.heap.size]? := hK.block _ (by simp) (by omega) (by omega)
               have kc : w1.cell? ⟨w.heap.size, 0, none⟩ = some (.bool false) := (World.cell?_of_block hblk).trans (by simp [World.cell?, World.alloc, -World.alloc_eq])
               have kf : w1.frozen? ⟨w.heap.size, 0, none⟩ = false := (World.frozen?_of_block hblk).trans (by simp [World.frozen?, World.alloc, -World.alloc_eq])
               have Q1 := Lib.hid q1
               have Q3 := Lib.hid q3
               clear hblk q1 q3)
  refine leaves_cons (f := 26) (args := #[.pointer (some ⟨w.heap.size, 0, none⟩)]) (by simp) (by simp [go_sem]) ?_
  refine (catch_idle ⟨w.heap.size, 0, none⟩ _).mono ?_
  rintro e u' w'' ⟨rfl, rfl, rfl⟩
  have k2 : (w1.setCell ⟨w.heap.size, 0, none⟩ (.bool true)).cell? ⟨w.heap.size, 0, none⟩ = some (.bool true) := World.cell?_setCell_same _ _ _ kc
  have hs1 := hK.size
  rw [hsz] at hs1
  have main : Listed L b2 b3 w (w1.setCell ⟨w.heap.size, 0, none⟩ (.bool true)) := by
    refine ⟨A2, cv, blk_far Q1.out (by show b2 ≠ w.heap.size; omega) _, ?_, own_weaken (own_setCell Q3.out (fun h => ?_) _) (by simp), hK.os, hK.tape, hK.output, by simp; omega, fun j hj n1 n2 => ?_⟩
    · rw [World.cell?_setCell_other _ _ _ _ (by intro h; cases h; omega)]; exact q2
    · have := own_base Q3.out _ h.symm; rw [hsz] at this; simp at this; omega
    · rw [heap_setCell_other _ _ _ _ (by show j ≠ w.heap.size; omega), hK.block j (by omega) n1 n2]
      exact Below.heap_alloc w _ j hj
  generalize w1.setCell ⟨w.heap.size, 0, none⟩ (.bool true) = W at k2 main ⊢
  simp [Leaves, settle, results, Tryd.results17, go_sem, k2]
  exact main
end
end Go.Proofs.YthfihamhkhnckaaDoor
