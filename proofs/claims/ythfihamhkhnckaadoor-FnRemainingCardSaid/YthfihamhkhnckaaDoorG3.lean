/-
FnCollected, FnSelected, FnRemaining: the collected pages, part by part; the guarded closure: walks and plain laws. Conditions: as each theorem says.
-/
import Derived.Test.YthfihamhkhnckaaDoorG2
import Derived.WalkKit
import Derived.Defers
import Derived.Recover
import Derived.Laws.Pointers

namespace Go.Proofs.YthfihamhkhnckaaDoor
open Go.RowKit Go.ChangeShapes Go.Proofs.YthfihamhkhnckaaDoorW.PrintWords

set_option maxHeartbeats 1000000

/-- A token's effect on a collection. -/
structure Eff (n : Nat) (tok : List UInt8) (F : List Int → List Int) : Prop where
  grow : ∀ l, (F l).length ≤ l.length + 1000
  calls : ∀ (i : Int) (l : List Int) (B c : Nat) (w : World), l.length ≤ 900000 → Cp B c l w → B ≤ w.heap.size → Calls Tryd.prog 31 #[.int .i64 (n : Int), .int .i64 i, .string (bs tok), .pointer (some ⟨c, 0, none⟩)] w (Done B c (F l) w)
/-- The collection ahead of every token: each token has its effect. -/
structure Run (n : Nat) (ts : List (List UInt8)) (M : Nat → List Int) : Prop where
  zero : M 0 = []
  step : ∀ i (h : i < ts.length), ∃ F, Eff n (ts[i]'h) F ∧ M (i + 1) = F (M i)
theorem Run.small {n : Nat} {ts : List (List UInt8)} {M : Nat → List Int} (h : Run n ts M) : ∀ k, k ≤ ts.length → (M k).length ≤ k * 1000 := by
  intro k
  induction k with
  | zero => intro _; rw [h.zero]; simp
  | succ k ih =>
    intro hk
    obtain ⟨F, hF, he⟩ := h.step k hk
    have h1 := hF.grow (M k)
    have h2 := ih (by omega)
    rw [he]
    omega
set_option maxRecDepth 100000 in
theorem calc_calls (n : Nat) (M : Nat → List Int) (ts : List (List UInt8)) (hts : ts.length ≤ 100) (hE : Run n ts M) (A : Option Addr) (cap : Nat) (w : World)
    (hcell : ∀ i (h : i < ts.length), ∃ ad, A = some ad ∧ w.cell? (ad.add i) = some (.string (bs (ts[i]'h)))) :
    Calls Tryd.prog 27 #[.int .i64 (n : Int), .slice A ts.length cap] w fun e w' => ∃ v, e = .returned (.tuple #[v, .nilIface]) ∧ w'.ownsRow w.heap.size 3 1 v (M ts.length).length (nums .i64 (M ts.length)) ∧ Below w.heap.size w w' := by
  go_enter Tryd.func27, Tryd.ntmps27
  go_wp2_with fail
  go_loopw [13] (fun vi wr => ∃ k : Nat, vi = .int .i64 (k : Int) ∧ k ≤ ts.length ∧ Hid (Cp w.heap.size (w.heap.size + 1) (M k) wr) ∧ Hid (Below w.heap.size w wr)) (fun vi _ => ts.length - (intOf vi).toNat)
  case atStart =>
    refine ⟨0, rfl, by omega, Lib.hid ?_, Lib.hid ?_⟩
    · have h1 := blk_new (w.alloc (.cells #[] 3)) (.cells #[.slice (some ⟨w.heap.size, 0, none⟩) 0 0] 24)
      rw [World.size_alloc] at h1
      rw [hE.zero]
      exact ⟨by omega, _, h1, World.ownsRow.alloc (own_lit w w.heap.size 3 .i64 [] (Nat.le_refl _) (by simp)) _⟩
    · exact ((Below.refl _ w).alloc (Nat.le_refl _) _).alloc (by simp) _
  case round =>
    obtain ⟨k, rfl, hk, hC, hb⟩ := hrel
    have hsz := hb.out.size
    by_cases hlt : k < ts.length
    · obtain ⟨ad, rfl, hcl⟩ := hcell k hlt
      have hcl := (hb.out.cell (World.block_lt_of_cell? w _ hcl)).trans hcl
      have hel := hE.small k (by omega)
      obtain ⟨F, hF, hst⟩ := hE.step k hlt
      have HP := Lib.hid (hF.calls (k : Int) (M k) w.heap.size (w.heap.size + 1) wr (by omega) hC.out hsz)
      rw [← hst] at HP
      generalize bs (ts[k]'hlt) = T at *
      have hcell := Lib.hid hcell
      clear hst hel hE hF
      go_wp2_with (go_at_call 31; refine HP.out.mono ?_; rintro e w9 ⟨rfl, h1, h2⟩)
      exact ⟨⟨k + 1, by simp, by omega, Lib.hid h1, Lib.hid (hb.out.trans h2)⟩, by simp [intOf]; omega⟩
    · obtain rfl : k = ts.length := by omega
      obtain ⟨hc, v, hbk, ho⟩ := hC.out
      have c1 := blk_cell hbk 0
      obtain ⟨A2, cv, rfl⟩ := own_slice ho
      have Ho := Lib.hid ho
      have hge : ¬ ((ts.length : Int) < (ts.length : Int)) := by omega
      clear ho hbk hcell
      go_wp2_with fail
      exact bodyPost_ret (v := .tuple #[.slice A2 (M ts.length).length cv, .nilIface]) (by simp [results, Tryd.results27, go_sem]) rfl ⟨_, rfl, Ho.out, hb.out⟩

set_option maxRecDepth 100000 in
theorem pages_calls (n : Nat) (M : Nat → List Int) (ts : List (List UInt8)) (hts : ts.length ≤ 100) (hE : Run n ts M) (hne : M ts.length ≠ []) (A : Option Addr) (cap : Nat) (w : World)
    (hcell : ∀ i (h : i < ts.length), ∃ ad, A = some ad ∧ w.cell? (ad.add i) = some (.string (bs (ts[i]'h)))) :
    Calls Tryd.prog 19 #[.int .i64 (n : Int), .slice A ts.length cap] w fun e w' => ∃ v, e = .returned (.tuple #[v, .nilIface]) ∧ w'.ownsRow w.heap.size 3 1 v (M ts.length).length (nums .i64 (M ts.length)) ∧ Below w.heap.size w w' := by
  have HC := Lib.hid (calc_calls n M ts hts hE A cap w hcell)
  have h0 : (M ts.length).length ≠ 0 := fun h => hne (List.length_eq_zero_iff.1 h)
  clear hcell hE
  generalize M ts.length = L at *
  have hz : ((L.length : Int) == 0) = false := beq_eq_false_iff_ne.2 (by omega)
  clear hne
  go_enter Tryd.func19, Tryd.ntmps19
  go_wp2_with (go_at_call 27; refine HC.out.mono ?_; rintro e w1 ⟨v, rfl, ho, hb⟩; obtain ⟨A2, cv, rfl⟩ := own_slice ho; have ho := Lib.hid ho)
  exact bodyPost_ret (v := .tuple #[.slice A2 L.length cv, .nilIface]) (by simp [results, Tryd.results19, go_sem]) rfl ⟨_, rfl, ho.out, hb⟩

end Go.Proofs.YthfihamhkhnckaaDoor

namespace Go.Proofs.YthfihamhkhnckaaDoor
open Go.RowKit Go.ChangeShapes Go.Proofs.YthfihamhkhnckaaDoorW.PrintWords

set_option maxHeartbeats 1000000
/-- The tokens lie in memory. -/
def Toks (ts : List (List UInt8)) (A : Option Addr) (w : World) : Prop := ∀ i (h : i < ts.length), ∃ ad, A = some ad ∧ w.cell? (ad.add i) = some (.string (bs (ts[i]'h)))
theorem Toks.below {ts : List (List UInt8)} {A : Option Addr} {w w1 : World} (h : Toks ts A w) (hb : Below w.heap.size w w1) : Toks ts A w1 := fun i hi => by
  obtain ⟨ad, e, hc⟩ := h i hi
  exact ⟨ad, e, pw_cell_below hb hc⟩
/-- Two blocks apart, what lay stays. -/
structure Kept2 (b1 b2 : Nat) (w w' : World) : Prop where
  os : w'.os = w.os
  tape : w'.tape = w.tape
  output : w'.output = w.output
  size : w.heap.size ≤ w'.heap.size
  block : ∀ j, j < w.heap.size → j ≠ b1 → j ≠ b2 → w'.heap[j]? = w.heap[j]?
/-- What the closure leaves. -/
def Listed (L : List Int) (b1 b2 : Nat) (w w' : World) : Prop :=
  ∃ A cv, w'.heap[b1]? = some (.cells #[.slice A L.length cv] 24 (0, 0)) ∧ w'.cell? ⟨b2, 0, none⟩ = some .nilIface ∧ w'.ownsRow w.heap.size 3 1 (.slice A L.length cv) L.length (nums .i64 L) ∧ Kept2 b1 b2 w w'
section
variable (n : Nat) (M : Nat → List Int) (ts : List (List UInt8)) (hts : ts.length ≤ 100) (hE : Run n ts M) (hne : M ts.length ≠ []) (A : Option Addr) (cap : Nat)
include hts hE hne
theorem closure_calls (b0 b1 b2 b3 : Nat) (x : Value) (w : World) (hT : Toks ts A w)
    (c0 : w.cell? ⟨b0, 0, none⟩ = some (.int .i64 (n : Int))) (c1 : w.cell? ⟨b1, 0, none⟩ = some (.slice A ts.length cap)) (h2 : w.heap[b2]? = some (.cells #[x] 24 (0, 0))) (h3 : w.heap[b3]? = some (.cells #[.nilIface] 40 (0, 0))) (h23 : b2 ≠ b3) :
    Calls Tryd.prog 18 #[.pointer (some ⟨b0, 0, none⟩), .pointer (some ⟨b1, 0, none⟩), .pointer (some ⟨b2, 0, none⟩), .pointer (some ⟨b3, 0, none⟩)] w fun e w' => e = .returned (.tuple #[]) ∧ Listed (M ts.length) b2 b3 w w' := by
  have HP := Lib.hid (pages_calls n M ts hts hE hne A cap w hT)
  have l2 := blk_lt h2
  have l3 := blk_lt h3
  have H2 := Lib.hid h2
  have H3 := Lib.hid h3
  clear hE hne hT h2 h3
  generalize M ts.length = L at *
  go_enter Tryd.func18, Tryd.ntmps18
  go_wp2_with (go_at_call 19; refine HP.out.mono ?_; rintro e w1 ⟨v, rfl, ho, hb⟩; have m2 := (hb.block b2 l2).trans H2.out; have m3 := (hb.block b3 l3).trans H3.out; have k2 := blk_cell m2 0; have f2 := blk_frozen m2 0; have k3 := blk_cell m3 0; have f3 := blk_frozen m3 0; have M2 := Lib.hid m2; obtain ⟨A2, cv, rfl⟩ := own_slice ho; have Ho := Lib.hid ho; clear m2 m3 ho)
  go_end0
  have ne : ∀ k, (Value.slice A2 L.length cv).ownBlock = some k → w.heap.size ≤ k := fun k hk => own_base Ho.out k hk
  refine ⟨rfl, A2, cv, ?_, ?_, ?_, hb.os, hb.tape, hb.output, by simpa using hb.size, fun j hj n1 n2 => ?_⟩
  · exact blk_far (blk_put M2.out 0 _ rfl) h23 _
  · exact World.cell?_setCell_same _ _ _ ((World.cell?_setCell_other _ _ _ _ (by intro h; cases h; exact h23 rfl)).trans k3)
  · refine own_setCell (own_setCell Ho.out (fun h => ?_) _) (fun h => ?_) _
    · have := ne _ h.symm; simp at this; omega
    · have := ne _ h.symm; simp at this; omega
  · rw [heap_setCell_other _ _ _ _ n2, heap_setCell_other _ _ _ _ n1]
    exact hb.block j hj
end
theorem catch_idle (p : Addr) (w : World) :
    CallsD Tryd.prog 26 #[.pointer (some p)] .returning w fun e u' w' => e = .returned (.tuple #[]) ∧ u' = .returning ∧ w' = w := by
  refine callsD_of_wpS Tryd.func26 rfl fun c₀ cs hu => ?_
  apply wpS_seq
  apply wpS_region
  simp [wpOpsS, go_sem, recoverD, hu, Tryd.ntmps26, Exit.thenS]
  refine wpS_cond (t := false) (by simp [Act.eval, Array.replicate]) ?_
  simp only [Bool.false_eq_true, if_false]
  refine wpS_of_wp (wp_skip ?_)
  cases c₀
  simp_all [bodyPostS, results, Tryd.results26]
section
variable (n : Nat) (M : Nat → List Int) (ts : List (List UInt8)) (hts : ts.length ≤ 100) (hE : Run n ts M) (hne : M ts.length ≠ []) (A : Option Addr) (cap : Nat)
include hts hE hne
theorem calm_calls (b0 b1 b2 b3 : Nat) (x : Value) (w : World) (hT : Toks ts A w)
    (c0 : w.cell? ⟨b0, 0, none⟩ = some (.int .i64 (n : Int))) (c1 : w.cell? ⟨b1, 0, none⟩ = some (.slice A ts.length cap)) (h2 : w.heap[b2]? = some (.cells #[x] 24 (0, 0))) (h3 : w.heap[b3]? = some (.cells #[.nilIface] 40 (0, 0))) (h23 : b2 ≠ b3) :
    Calls Tryd.prog 17 #[.func (.func 18) #[] #[.pointer (some ⟨b0, 0, none⟩), .pointer (some ⟨b1, 0, none⟩), .pointer (some ⟨b2, 0, none⟩), .pointer (some ⟨b3, 0, none⟩)]] w fun e w' => e = .returned (.bool true) ∧ Listed (M ts.length) b2 b3 w w' := by
  have hmf : ∀ (fn : Fn) (first cap : Array Value) (w : World), (Instr.makeFunc fn first cap).run Tryd.prog w = .ok (.func fn first cap) w := fun _ _ _ _ => rfl
  have l2 := blk_lt h2
  have l3 := blk_lt h3
  have ba := (Below.refl _ w).alloc (Nat.le_refl _) (.cells #[.bool false] 4)
  have H := Lib.hid (closure_calls n M ts hts hE hne A cap b0 b1 b2 b3 x (w.alloc (.cells #[.bool false] 4)) (hT.below ba) (pw_cell_below ba c0) (pw_cell_below ba c1) ((ba.block b2 l2).trans h2) ((ba.block b3 l3).trans h3) h23)
  have hsz : (w.alloc (.cells #[.bool false] 4)).heap.size = w.heap.size + 1 := by simp
  clear ba c0 c1 h2 h3 hT hE hne
  generalize M ts.length = L at *
  go_enter_defers Tryd.func17, Tryd.ntmps17
  go_wp2_with (go_at_call 18; refine H.out.mono ?_; rintro e w1 ⟨rfl, A2, cv, q1, q2, q3, hK⟩
               have hblk : w1.heap[w.heap.size]? = (w.alloc (.cells #[.bool false] 4)).heap[w.heap.size]? := hK.block _ (by simp) (by omega) (by omega)
               have kc : w1.cell? ⟨w.heap.size, 0, none⟩ = some (.bool false) := (World.cell?_of_block hblk).trans (by simp [World.cell?, World.alloc, -World.alloc_eq])
               have kf : w1.frozen? ⟨w.heap.size, 0, none⟩ = false := (World.frozen?_of_block hblk).trans (by simp [World.frozen?, World.alloc, -World.alloc_eq])
               have Q1 := Lib.hid q1
               have Q3 := Lib.hid q3
               clear hblk q1 q3)
  refine leaves_cons (f := 26) (args := #[.pointer (some ⟨w.heap.size, 0, none⟩)]) (by simp) (by simp [go_sem]) ?_
  refine (catch_idle ⟨w.heap.size, 0, none⟩ _).mono ?_
  rintro e u' w'' ⟨rfl, rfl, rfl⟩
  have k2 : (w1.setCell ⟨w.heap.size, 0, none⟩ (.bool true)).cell? ⟨w.heap.size, 0, none⟩ = some (.bool true) := World.cell?_setCell_same _ _ _ kc
  have hs1 := hK.size
  rw [hsz] at hs1
  have main : Listed L b2 b3 w (w1.setCell ⟨w.heap.size, 0, none⟩ (.bool true)) := by
    refine ⟨A2, cv, blk_far Q1.out (by show b2 ≠ w.heap.size; omega) _, ?_, own_weaken (own_setCell Q3.out (fun h => ?_) _) (by simp), hK.os, hK.tape, hK.output, by simp; omega, fun j hj n1 n2 => ?_⟩
    · rw [World.cell?_setCell_other _ _ _ _ (by intro h; cases h; omega)]; exact q2
    · have := own_base Q3.out _ h.symm; rw [hsz] at this; simp at this; omega
    · rw [heap_setCell_other _ _ _ _ (by show j ≠ w.heap.size; omega), hK.block j (by omega) n1 n2]
      exact Below.heap_alloc w _ j hj
  generalize w1.setCell ⟨w.heap.size, 0, none⟩ (.bool true) = W at k2 main ⊢
  simp [Leaves, settle, results, Tryd.results17, go_sem, k2]
  exact main
end
end Go.Proofs.YthfihamhkhnckaaDoor
