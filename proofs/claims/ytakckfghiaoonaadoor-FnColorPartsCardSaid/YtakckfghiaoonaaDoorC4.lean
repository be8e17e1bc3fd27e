/-
FnHexColor, FnColorParts: the guarded closures, impl.HexColor and impl.ColorOf: the walks. Condition: what the closure calls comes to a colour.
-/
import Derived.Test.YtakckfghiaoonaaDoorC3
namespace Go.Proofs.YtakckfghiaoonaaDoor
open Go.RowKit Go.ChangeShapes Go.Proofs.YtakckfghiaoonaaDoorW.PrintWords

/-- A function comes to a colour at a text. -/
def Good (F : Nat) (S : ByteArray) (x y z : Nat) : Prop := ∀ w, Calls Tryd.prog F #[.string S] w fun e w' => e = .returned (.tuple #[rgb32 x y z, .nilIface]) ∧ Below w.heap.size w w'
/-- Two blocks apart, what lay stays. -/
structure Kept2 (b1 b2 : Nat) (w w' : World) : Prop where
  os : w'.os = w.os
  tape : w'.tape = w.tape
  output : w'.output = w.output
  size : w.heap.size ≤ w'.heap.size
  block : ∀ j, j < w.heap.size → j ≠ b1 → j ≠ b2 → w'.heap[j]? = w.heap[j]?
/-- What the closure leaves. -/
def Held (x y z b1 b2 : Nat) (w w' : World) : Prop :=
  (w'.cell? ⟨b1, 0, none⟩ = some (.float .f32 x) ∧ w'.cell? ⟨b1, 1, none⟩ = some (.float .f32 y) ∧ w'.cell? ⟨b1, 2, none⟩ = some (.float .f32 z)) ∧ w'.cell? ⟨b2, 0, none⟩ = some .nilIface ∧ Kept2 b1 b2 w w'
theorem catch_idle (p : Addr) (w : World) :
    CallsD Tryd.prog 19 #[.pointer (some p)] .returning w fun e u' w' => e = .returned (.tuple #[]) ∧ u' = .returning ∧ w' = w := by
  refine callsD_of_wpS Tryd.func19 rfl fun c₀ cs hu => ?_
  apply wpS_seq
  apply wpS_region
  simp [wpOpsS, go_sem, recoverD, hu, Tryd.ntmps19, Exit.thenS]
  refine wpS_cond (t := false) (by simp [Act.eval, Array.replicate]) ?_
  simp only [Bool.false_eq_true, if_false]
  refine wpS_of_wp (wp_skip ?_)
  cases c₀
  simp_all [bodyPostS, results, Tryd.results19]
theorem four_blocks (w : World) (o1 o2 o3 o4 : Obj) : ((((w.alloc o1).alloc o2).alloc o3).alloc o4).heap[w.heap.size]? = some o1 ∧ ((((w.alloc o1).alloc o2).alloc o3).alloc o4).heap[w.heap.size + 1]? = some o2 ∧ ((((w.alloc o1).alloc o2).alloc o3).alloc o4).heap[w.heap.size + 1 + 1]? = some o3 ∧ ((((w.alloc o1).alloc o2).alloc o3).alloc o4).heap[w.heap.size + 1 + 1 + 1]? = some o4 := by
  have h4 := blk_new (((w.alloc o1).alloc o2).alloc o3) o4
  have h3 := blk_new ((w.alloc o1).alloc o2) o3
  have h2 := blk_new (w.alloc o1) o2
  have h1 := blk_new w o1
  simp only [World.size_alloc] at h1 h2 h3 h4
  refine ⟨?_, ?_, ?_, h4⟩
  · rw [Below.heap_alloc _ _ _ (by simp only [World.size_alloc]; omega), Below.heap_alloc _ _ _ (by simp only [World.size_alloc]; omega), Below.heap_alloc _ _ _ (by simp only [World.size_alloc]; omega)]; exact h1
  · rw [Below.heap_alloc _ _ _ (by simp only [World.size_alloc]; omega), Below.heap_alloc _ _ _ (by simp only [World.size_alloc]; omega)]; exact h2
  · rw [Below.heap_alloc _ _ _ (by simp only [World.size_alloc]; omega)]; exact h3
set_option maxHeartbeats 1000000 in
theorem shade_any (x y z X Y Z : Nat) (hx : floatToFloatBits .f32 x .f64 = some X) (hy : floatToFloatBits .f32 y .f64 = some Y) (hz : floatToFloatBits .f32 z .f64 = some Z) (w : World) :
    Calls Tryd.prog 14 #[rgb32 x y z] w fun e w' => e = .returned (rgb X Y Z) ∧ Below w.heap.size w w' := by
  have k1 := fun (w : World) => run_convert_float_float (P := Tryd.prog) w 36 24 .f32 .f64 _ _ (by kernel_rfl) (by kernel_rfl) hx
  have k2 := fun (w : World) => run_convert_float_float (P := Tryd.prog) w 36 24 .f32 .f64 _ _ (by kernel_rfl) (by kernel_rfl) hy
  have k3 := fun (w : World) => run_convert_float_float (P := Tryd.prog) w 36 24 .f32 .f64 _ _ (by kernel_rfl) (by kernel_rfl) hz
  clear hx hy hz
  go_enter Tryd.func14, Tryd.ntmps14
  go_wp2_with fail
  exact bodyPost_ret (v := rgb X Y Z) (by simp [results, Tryd.results14, go_sem]) rfl ⟨rfl, below_alloc (below_alloc (Below.refl _ _) _) _⟩
abbrev Z3 : Obj := .cells #[.float .f32 0, .float .f32 0, .float .f32 0] 38
abbrev Z6 : Obj := .cells #[.float .f64 0, .float .f64 0, .float .f64 0] 26

set_option maxHeartbeats 1000000 in
theorem closure_hex (S : ByteArray) (x y z : Nat) (hg : Good 17 S x y z) (b0 b1 b2 : Nat) (w : World)
    (c0 : w.cell? ⟨b0, 0, none⟩ = some (.string S)) (h1 : w.heap[b1]? = some Z3) (h2 : w.heap[b2]? = some (.cells #[.nilIface] 40)) (h12 : b1 ≠ b2) :
    Calls Tryd.prog 16 #[.pointer (some ⟨b0, 0, none⟩), .pointer (some ⟨b1, 0, none⟩), .pointer (some ⟨b2, 0, none⟩)] w fun e w' => e = .returned (.tuple #[]) ∧ Held x y z b1 b2 w w' := by
  have HP := Lib.hid (hg w)
  have l1 := lt_of_block h1
  have l2 := lt_of_block h2
  go_enter Tryd.func16, Tryd.ntmps16
  go_wp2_with (go_at_call 17; refine HP.out.mono ?_; rintro e w1 ⟨rfl, hb⟩; have m1 := (hb.block b1 l1).trans h1; have m2 := (hb.block b2 l2).trans h2; obtain ⟨⟨k0, k1, k2⟩, f0, f1, f2⟩ := tri_blk m1; have n0 := blk_cell m2 0; have n1 := frozen_of_row _ _ 0 _ _ m2)
  go_end0
  have e0 : ∀ i j : Nat, (⟨b1, i, none⟩ : Addr) ≠ ⟨b2, j, none⟩ := fun i j h => by cases h; exact h12 rfl
  obtain ⟨r0, r1, r2⟩ := three_sets w1 b1 (.float .f32 x) (.float .f32 y) (.float .f32 z) _ _ _ k0 k1 k2 _ rfl
  refine ⟨rfl, ⟨?_, ?_, ?_⟩, ?_, hb.os, hb.tape, hb.output, by simpa using hb.size, fun j hj n1 n2 => ?_⟩
  · rw [World.cell?_setCell_other _ _ _ _ (e0 0 0).symm]; exact r0
  · rw [World.cell?_setCell_other _ _ _ _ (e0 1 0).symm]; exact r1
  · rw [World.cell?_setCell_other _ _ _ _ (e0 2 0).symm]; exact r2
  · exact World.cell?_setCell_same _ _ _ ((World.cell?_setCell_other _ _ _ _ (e0 2 0)).trans ((World.cell?_setCell_other _ _ _ _ (e0 1 0)).trans ((World.cell?_setCell_other _ _ _ _ (e0 0 0)).trans n0)))
  · rw [heap_setCell_other _ _ _ _ n2, heap_setCell_other _ _ _ _ n1, heap_setCell_other _ _ _ _ n1, heap_setCell_other _ _ _ _ n1]
    exact hb.block j hj
theorem calm_hex (S : ByteArray) (x y z : Nat) (hg : Good 17 S x y z) (b0 b1 b2 : Nat) (w : World)
    (c0 : w.cell? ⟨b0, 0, none⟩ = some (.string S)) (h1 : w.heap[b1]? = some Z3) (h2 : w.heap[b2]? = some (.cells #[.nilIface] 40)) (h12 : b1 ≠ b2) :
    Calls Tryd.prog 11 #[.func (.func 16) #[] #[.pointer (some ⟨b0, 0, none⟩), .pointer (some ⟨b1, 0, none⟩), .pointer (some ⟨b2, 0, none⟩)]] w fun e w' => e = .returned (.bool true) ∧ Held x y z b1 b2 w w' := by
  have hmf : ∀ (fn : Fn) (first cap : Array Value) (w : World), (Instr.makeFunc fn first cap).run Tryd.prog w = .ok (.func fn first cap) w := fun _ _ _ _ => rfl
  have l1 := lt_of_block h1
  have l2 := lt_of_block h2
  have ba := (Below.refl _ w).alloc (Nat.le_refl _) (.cells #[.bool false] 4)
  have H := Lib.hid (closure_hex S x y z hg b0 b1 b2 (w.alloc (.cells #[.bool false] 4)) (pw_cell_below ba c0) ((ba.block b1 l1).trans h1) ((ba.block b2 l2).trans h2) h12)
  have hsz : (w.alloc (.cells #[.bool false] 4)).heap.size = w.heap.size + 1 := by simp
  clear ba c0 h1 h2
  go_enter_defers Tryd.func11, Tryd.ntmps11
  go_wp2_with (go_at_call 16; refine H.out.mono ?_; rintro e w1 ⟨rfl, ⟨q0, q1, q2⟩, q3, hK⟩
               have hblk : w1.heap[w.heap.size]? = (w.alloc (.cells #[.bool false] 4)).heap[w.heap.size]? := hK.block _ (by simp) (by omega) (by omega)
               have kc : w1.cell? ⟨w.heap.size, 0, none⟩ = some (.bool false) := (World.cell?_of_block hblk).trans (by simp [World.cell?, World.alloc, -World.alloc_eq])
               have kf : w1.frozen? ⟨w.heap.size, 0, none⟩ = false := (World.frozen?_of_block hblk).trans (by simp [World.frozen?, World.alloc, -World.alloc_eq])
               clear hblk)
  refine leaves_cons (f := 19) (args := #[.pointer (some ⟨w.heap.size, 0, none⟩)]) (by simp) (by simp [go_sem]) ?_
  refine (catch_idle ⟨w.heap.size, 0, none⟩ _).mono ?_
  rintro e u' w'' ⟨rfl, rfl, rfl⟩
  have k2 : (w1.setCell ⟨w.heap.size, 0, none⟩ (.bool true)).cell? ⟨w.heap.size, 0, none⟩ = some (.bool true) := World.cell?_setCell_same _ _ _ kc
  have hs1 := hK.size
  rw [hsz] at hs1
  have ne1 : ∀ i : Nat, (⟨w.heap.size, 0, none⟩ : Addr) ≠ ⟨b1, i, none⟩ := fun i h => by cases h; omega
  have main : Held x y z b1 b2 w (w1.setCell ⟨w.heap.size, 0, none⟩ (.bool true)) := by
    refine ⟨⟨?_, ?_, ?_⟩, ?_, hK.os, hK.tape, hK.output, by simp; omega, fun j hj n1 n2 => ?_⟩
    · rw [World.cell?_setCell_other _ _ _ _ (ne1 0)]; exact q0
    · rw [World.cell?_setCell_other _ _ _ _ (ne1 1)]; exact q1
    · rw [World.cell?_setCell_other _ _ _ _ (ne1 2)]; exact q2
    · rw [World.cell?_setCell_other _ _ _ _ (by intro h; cases h; omega)]; exact q3
    · rw [heap_setCell_other _ _ _ _ (by show j ≠ w.heap.size; omega), hK.block j (by omega) n1 n2]
      exact Below.heap_alloc w _ j hj
  generalize w1.setCell ⟨w.heap.size, 0, none⟩ (.bool true) = W at k2 main ⊢
  simp [Leaves, settle, results, Tryd.results11, go_sem, k2]
  exact main
set_option maxRecDepth 100000 in
set_option maxHeartbeats 4000000 in
theorem impl_hex (S : ByteArray) (x y z X Y Z : Nat) (hg : Good 17 S x y z) (hx : floatToFloatBits .f32 x .f64 = some X) (hy : floatToFloatBits .f32 y .f64 = some Y) (hz : floatToFloatBits .f32 z .f64 = some Z) (w : World) :
    Calls Tryd.prog 8 #[.string S] w fun e w' => e = .returned (.tuple #[rgb X Y Z, .bool true]) ∧ Below w.heap.size w w' := by
  have hmf : ∀ (fn : Fn) (first cap : Array Value) (w : World), (Instr.makeFunc fn first cap).run Tryd.prog w = .ok (.func fn first cap) w := fun _ _ _ _ => rfl
  have H := fun (W : World) (hW : W = (((w.alloc (.cells #[.string S] 9)).alloc Z6).alloc Z3).alloc (.cells #[.nilIface] 40)) => (by
    subst hW
    obtain ⟨t1, t2, t3, t4⟩ := four_blocks w (.cells #[.string S] 9) Z6 Z3 (.cells #[.nilIface] 40)
    refine (calm_hex S x y z hg w.heap.size (w.heap.size + 1 + 1) (w.heap.size + 1 + 1 + 1) _ (blk_cell t1 0) t3 t4 (by omega)).mono ?_
    rintro e w1 ⟨he, q, q3, hK⟩
    have hs := hK.size
    simp only [World.size_alloc] at hs
    have t2' := (hK.block (w.heap.size + 1) (by simp only [World.size_alloc]; omega) (by omega) (by omega)).trans t2
    exact ⟨he, q, q3, t2', ⟨hK.os, hK.tape, hK.output, by omega, fun j hj => (hK.block j (by simp only [World.size_alloc]; omega) (by omega) (by omega)).trans (by rw [Below.heap_alloc _ _ _ (by simp only [World.size_alloc]; omega), Below.heap_alloc _ _ _ (by simp only [World.size_alloc]; omega), Below.heap_alloc _ _ _ (by simp only [World.size_alloc]; omega), Below.heap_alloc _ _ _ hj])⟩⟩
    : Calls Tryd.prog 11 #[.func (.func 16) #[] #[.pointer (some ⟨w.heap.size, 0, none⟩), .pointer (some ⟨w.heap.size + 1 + 1, 0, none⟩), .pointer (some ⟨w.heap.size + 1 + 1 + 1, 0, none⟩)]] W fun e w1 => e = .returned (.bool true) ∧ (w1.cell? ⟨w.heap.size + 1 + 1, 0, none⟩ = some (.float .f32 x) ∧ w1.cell? ⟨w.heap.size + 1 + 1, 1, none⟩ = some (.float .f32 y) ∧ w1.cell? ⟨w.heap.size + 1 + 1, 2, none⟩ = some (.float .f32 z)) ∧ w1.cell? ⟨w.heap.size + 1 + 1 + 1, 0, none⟩ = some .nilIface ∧ w1.heap[w.heap.size + 1]? = some Z6 ∧ Below w.heap.size w w1)
  have H' := Lib.hid (H _ rfl)
  have HS := Lib.hid (fun W => shade_any x y z X Y Z hx hy hz W)
  clear H hg hx hy hz
  go_enter Tryd.func8, Tryd.ntmps8
  go_wp2_with (first
    | (go_at_call 11; refine H'.out.mono ?_; rintro e w1 ⟨rfl, ⟨q0, q1, q2⟩, q3, hblk, hB⟩)
    | (go_at_call 14; refine (HS.out _).mono ?_; rintro e w2 ⟨rfl, hb2⟩; have m2 := (hb2.block _ (lt_of_block hblk)).trans hblk; have hB2 := hB.trans (hb2.mono hB.size); obtain ⟨⟨k0, k1, k2⟩, f0, f1, f2⟩ := tri_blk m2))
  obtain ⟨F, hF, r0, r1, r2, hBF⟩ := tri_done (.float .f64 X) (.float .f64 Y) (.float .f64 Z) m2 hB2 (Nat.le_succ _)
  rw [← hF]
  refine bodyPost_ret (v := .tuple #[rgb X Y Z, .bool true]) ?_ rfl ⟨rfl, hBF⟩
  simp [results, Tryd.results8, go_sem, r0, r1, r2]
set_option maxHeartbeats 1000000 in
theorem closure_of (S : ByteArray) (x y z : Nat) (hg : Good 13 S x y z) (b0 b1 b2 : Nat) (w : World)
    (c0 : w.cell? ⟨b0, 0, none⟩ = some (.string S)) (h1 : w.heap[b1]? = some Z3) (h2 : w.heap[b2]? = some (.cells #[.nilIface] 40)) (h12 : b1 ≠ b2) :
    Calls Tryd.prog 12 #[.pointer (some ⟨b0, 0, none⟩), .pointer (some ⟨b1, 0, none⟩), .pointer (some ⟨b2, 0, none⟩)] w fun e w' => e = .returned (.tuple #[]) ∧ Held x y z b1 b2 w w' := by
  have HP := Lib.hid (hg w)
  have l1 := lt_of_block h1
  have l2 := lt_of_block h2
  go_enter Tryd.func12, Tryd.ntmps12
  go_wp2_with (go_at_call 13; refine HP.out.mono ?_; rintro e w1 ⟨rfl, hb⟩; have m1 := (hb.block b1 l1).trans h1; have m2 := (hb.block b2 l2).trans h2; obtain ⟨⟨k0, k1, k2⟩, f0, f1, f2⟩ := tri_blk m1; have n0 := blk_cell m2 0; have n1 := frozen_of_row _ _ 0 _ _ m2)
  go_end0
  have e0 : ∀ i j : Nat, (⟨b1, i, none⟩ : Addr) ≠ ⟨b2, j, none⟩ := fun i j h => by cases h; exact h12 rfl
  obtain ⟨r0, r1, r2⟩ := three_sets w1 b1 (.float .f32 x) (.float .f32 y) (.float .f32 z) _ _ _ k0 k1 k2 _ rfl
  refine ⟨rfl, ⟨?_, ?_, ?_⟩, ?_, hb.os, hb.tape, hb.output, by simpa using hb.size, fun j hj n1 n2 => ?_⟩
  · rw [World.cell?_setCell_other _ _ _ _ (e0 0 0).symm]; exact r0
  · rw [World.cell?_setCell_other _ _ _ _ (e0 1 0).symm]; exact r1
  · rw [World.cell?_setCell_other _ _ _ _ (e0 2 0).symm]; exact r2
  · exact World.cell?_setCell_same _ _ _ ((World.cell?_setCell_other _ _ _ _ (e0 2 0)).trans ((World.cell?_setCell_other _ _ _ _ (e0 1 0)).trans ((World.cell?_setCell_other _ _ _ _ (e0 0 0)).trans n0)))
  · rw [heap_setCell_other _ _ _ _ n2, heap_setCell_other _ _ _ _ n1, heap_setCell_other _ _ _ _ n1, heap_setCell_other _ _ _ _ n1]
    exact hb.block j hj
theorem calm_of (S : ByteArray) (x y z : Nat) (hg : Good 13 S x y z) (b0 b1 b2 : Nat) (w : World)
    (c0 : w.cell? ⟨b0, 0, none⟩ = some (.string S)) (h1 : w.heap[b1]? = some Z3) (h2 : w.heap[b2]? = some (.cells #[.nilIface] 40)) (h12 : b1 ≠ b2) :
    Calls Tryd.prog 11 #[.func (.func 12) #[] #[.pointer (some ⟨b0, 0, none⟩), .pointer (some ⟨b1, 0, none⟩), .pointer (some ⟨b2, 0, none⟩)]] w fun e w' => e = .returned (.bool true) ∧ Held x y z b1 b2 w w' := by
  have hmf : ∀ (fn : Fn) (first cap : Array Value) (w : World), (Instr.makeFunc fn first cap).run Tryd.prog w = .ok (.func fn first cap) w := fun _ _ _ _ => rfl
  have l1 := lt_of_block h1
  have l2 := lt_of_block h2
  have ba := (Below.refl _ w).alloc (Nat.le_refl _) (.cells #[.bool false] 4)
  have H := Lib.hid (closure_of S x y z hg b0 b1 b2 (w.alloc (.cells #[.bool false] 4)) (pw_cell_below ba c0) ((ba.block b1 l1).trans h1) ((ba.block b2 l2).trans h2) h12)
  have hsz : (w.alloc (.cells #[.bool false] 4)).heap.size = w.heap.size + 1 := by simp
  clear ba c0 h1 h2
  go_enter_defers Tryd.func11, Tryd.ntmps11
  go_wp2_with (go_at_call 12; refine H.out.mono ?_; rintro e w1 ⟨rfl, ⟨q0, q1, q2⟩, q3, hK⟩
               have hblk : w1.heap[w.heap.size]? = (w.alloc (.cells #[.bool false] 4)).heap[w.heap.size]? := hK.block _ (by simp) (by omega) (by omega)
               have kc : w1.cell? ⟨w.heap.size, 0, none⟩ = some (.bool false) := (World.cell?_of_block hblk).trans (by simp [World.cell?, World.alloc, -World.alloc_eq])
               have kf : w1.frozen? ⟨w.heap.size, 0, none⟩ = false := (World.frozen?_of_block hblk).trans (by simp [World.frozen?, World.alloc, -World.alloc_eq])
               clear hblk)
  refine leaves_cons (f := 19) (args := #[.pointer (some ⟨w.heap.size, 0, none⟩)]) (by simp) (by simp [go_sem]) ?_
  refine (catch_idle ⟨w.heap.size, 0, none⟩ _).mono ?_
  rintro e u' w'' ⟨rfl, rfl, rfl⟩
  have k2 : (w1.setCell ⟨w.heap.size, 0, none⟩ (.bool true)).cell? ⟨w.heap.size, 0, none⟩ = some (.bool true) := World.cell?_setCell_same _ _ _ kc
  have hs1 := hK.size
  rw [hsz] at hs1
  have ne1 : ∀ i : Nat, (⟨w.heap.size, 0, none⟩ : Addr) ≠ ⟨b1, i, none⟩ := fun i h => by cases h; omega
  have main : Held x y z b1 b2 w (w1.setCell ⟨w.heap.size, 0, none⟩ (.bool true)) := by
    refine ⟨⟨?_, ?_, ?_⟩, ?_, hK.os, hK.tape, hK.output, by simp; omega, fun j hj n1 n2 => ?_⟩
    · rw [World.cell?_setCell_other _ _ _ _ (ne1 0)]; exact q0
    · rw [World.cell?_setCell_other _ _ _ _ (ne1 1)]; exact q1
    · rw [World.cell?_setCell_other _ _ _ _ (ne1 2)]; exact q2
    · rw [World.cell?_setCell_other _ _ _ _ (by intro h; cases h; omega)]; exact q3
    · rw [heap_setCell_other _ _ _ _ (by show j ≠ w.heap.size; omega), hK.block j (by omega) n1 n2]
      exact Below.heap_alloc w _ j hj
  generalize w1.setCell ⟨w.heap.size, 0, none⟩ (.bool true) = W at k2 main ⊢
  simp [Leaves, settle, results, Tryd.results11, go_sem, k2]
  exact main
set_option maxRecDepth 100000 in
set_option maxHeartbeats 4000000 in
theorem impl_of (S : ByteArray) (x y z X Y Z : Nat) (hg : Good 13 S x y z) (hx : floatToFloatBits .f32 x .f64 = some X) (hy : floatToFloatBits .f32 y .f64 = some Y) (hz : floatToFloatBits .f32 z .f64 = some Z) (w : World) :
    Calls Tryd.prog 6 #[.string S] w fun e w' => e = .returned (.tuple #[rgb X Y Z, .bool true]) ∧ Below w.heap.size w w' := by
  have hmf : ∀ (fn : Fn) (first cap : Array Value) (w : World), (Instr.makeFunc fn first cap).run Tryd.prog w = .ok (.func fn first cap) w := fun _ _ _ _ => rfl
  have H := fun (W : World) (hW : W = (((w.alloc (.cells #[.string S] 9)).alloc Z6).alloc Z3).alloc (.cells #[.nilIface] 40)) => (by
    subst hW
    obtain ⟨t1, t2, t3, t4⟩ := four_blocks w (.cells #[.string S] 9) Z6 Z3 (.cells #[.nilIface] 40)
    refine (calm_of S x y z hg w.heap.size (w.heap.size + 1 + 1) (w.heap.size + 1 + 1 + 1) _ (blk_cell t1 0) t3 t4 (by omega)).mono ?_
    rintro e w1 ⟨he, q, q3, hK⟩
    have hs := hK.size
    simp only [World.size_alloc] at hs
    have t2' := (hK.block (w.heap.size + 1) (by simp only [World.size_alloc]; omega) (by omega) (by omega)).trans t2
    exact ⟨he, q, q3, t2', ⟨hK.os, hK.tape, hK.output, by omega, fun j hj => (hK.block j (by simp only [World.size_alloc]; omega) (by omega) (by omega)).trans (by rw [Below.heap_alloc _ _ _ (by simp only [World.size_alloc]; omega), Below.heap_alloc _ _ _ (by simp only [World.size_alloc]; omega), Below.heap_alloc _ _ _ (by simp only [World.size_alloc]; omega), Below.heap_alloc _ _ _ hj])⟩⟩
    : Calls Tryd.prog 11 #[.func (.func 12) #[] #[.pointer (some ⟨w.heap.size, 0, none⟩), .pointer (some ⟨w.heap.size + 1 + 1, 0, none⟩), .pointer (some ⟨w.heap.size + 1 + 1 + 1, 0, none⟩)]] W fun e w1 => e = .returned (.bool true) ∧ (w1.cell? ⟨w.heap.size + 1 + 1, 0, none⟩ = some (.float .f32 x) ∧ w1.cell? ⟨w.heap.size + 1 + 1, 1, none⟩ = some (.float .f32 y) ∧ w1.cell? ⟨w.heap.size + 1 + 1, 2, none⟩ = some (.float .f32 z)) ∧ w1.cell? ⟨w.heap.size + 1 + 1 + 1, 0, none⟩ = some .nilIface ∧ w1.heap[w.heap.size + 1]? = some Z6 ∧ Below w.heap.size w w1)
  have H' := Lib.hid (H _ rfl)
  have HS := Lib.hid (fun W => shade_any x y z X Y Z hx hy hz W)
  clear H hg hx hy hz
  go_enter Tryd.func6, Tryd.ntmps6
  go_wp2_with (first
    | (go_at_call 11; refine H'.out.mono ?_; rintro e w1 ⟨rfl, ⟨q0, q1, q2⟩, q3, hblk, hB⟩)
    | (go_at_call 14; refine (HS.out _).mono ?_; rintro e w2 ⟨rfl, hb2⟩; have m2 := (hb2.block _ (lt_of_block hblk)).trans hblk; have hB2 := hB.trans (hb2.mono hB.size); obtain ⟨⟨k0, k1, k2⟩, f0, f1, f2⟩ := tri_blk m2))
  obtain ⟨F, hF, r0, r1, r2, hBF⟩ := tri_done (.float .f64 X) (.float .f64 Y) (.float .f64 Z) m2 hB2 (Nat.le_succ _)
  rw [← hF]
  refine bodyPost_ret (v := .tuple #[rgb X Y Z, .bool true]) ?_ rfl ⟨rfl, hBF⟩
  simp [results, Tryd.results6, go_sem, r0, r1, r2]
end Go.Proofs.YtakckfghiaoonaaDoor
