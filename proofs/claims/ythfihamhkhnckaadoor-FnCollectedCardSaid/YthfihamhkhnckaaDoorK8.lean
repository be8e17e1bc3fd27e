/-
FnCollected: the tokens one after another; PagesForPageCollection: the walks. Conditions: every token has its effect; some page is collected.
-/
import Derived.Test.YthfihamhkhnckaaDoorK7
namespace Go.Proofs.YthfihamhkhnckaaDoor
open Go.RowKit Go.ChangeShapes Go.Proofs.YthfihamhkhnckaaDoorW.PrintWords

set_option maxHeartbeats 1000000

/-- A token's effect on a collection. -/
structure Eff (n : Nat) (tok : List UInt8) (F : List Int → List Int) : Prop where
  grow : ∀ l, (F l).length ≤ l.length + 1000
  calls : ∀ (i : Int) (l : List Int) (B c : Nat) (w : World), l.length ≤ 900000 → Cp B c l w → B ≤ w.heap.size → Calls Tryd.prog 31 #[.int .i64 (n : Int), .int .i64 i, .string (bs tok), .pointer (some ⟨c, 0, none⟩)] w (Done B c (F l) w)
/-- The collection ahead of every token: each token has its effect. -/
structure Run (n : Nat) (ts : List (List UInt8)) (M : Nat → List Int) : Prop where
  zero : M 0 = []
  step : ∀ i (h : i < ts.length), ∃ F, Eff n (ts[i]'h) F ∧ M (i + 1) = F (M i)
theorem Run.small {n : Nat} {ts : List (List UInt8)} {M : Nat → List Int} (h : Run n ts M) : ∀ k, k ≤ ts.length → (M k).length ≤ k * 1000 := by
  intro k
  induction k with
  | zero => intro _; rw [h.zero]; simp
  | succ k ih =>
    intro hk
    obtain ⟨F, hF, he⟩ := h.step k hk
    have h1 := hF.grow (M k)
    have h2 := ih (by omega)
    rw [he]
    omega
set_option maxRecDepth 100000 in
theorem calc_calls (n : Nat) (M : Nat → List Int) (ts : List (List UInt8)) (hts : ts.length ≤ 100) (hE : Run n ts M) (A : Option Addr) (cap : Nat) (w : World)
    (hcell : ∀ i (h : i < ts.length), ∃ ad, A = some ad ∧ w.cell? (ad.add i) = some (.string (bs (ts[i]'h)))) :
    Calls Tryd.prog 27 #[.int .i64 (n : Int), .slice A ts.length cap] w fun e w' => ∃ v, e = .returned (.tuple #[v, .nilIface]) ∧ w'.ownsRow w.heap.size 3 1 v (M ts.length).length (nums .i64 (M ts.length)) ∧ Below w.heap.size w w' := by
  go_enter Tryd.func27, Tryd.ntmps27
  go_wp2_with fail
  go_loopw [13] (fun vi wr => ∃ k : Nat, vi = .int .i64 (k : Int) ∧ k ≤ ts.length ∧ Hid (Cp w.heap.size (w.heap.size + 1) (M k) wr) ∧ Hid (Below w.heap.size w wr)) (fun vi _ => ts.length - (intOf vi).toNat)
  case atStart =>
    refine ⟨0, rfl, by omega, Lib.hid ?_, Lib.hid ?_⟩
    · have h1 := blk_new (w.alloc (.cells #[] 3)) (.cells #[.slice (some ⟨w.heap.size, 0, none⟩) 0 0] 24)
      rw [World.size_alloc] at h1
      rw [hE.zero]
      exact ⟨by omega, _, h1, World.ownsRow.alloc (own_lit w w.heap.size 3 .i64 [] (Nat.le_refl _) (by simp)) _⟩
    · exact ((Below.refl _ w).alloc (Nat.le_refl _) _).alloc (by simp) _
  case round =>
    obtain ⟨k, rfl, hk, hC, hb⟩ := hrel
    have hsz := hb.out.size
    by_cases hlt : k < ts.length
    · obtain ⟨ad, rfl, hcl⟩ := hcell k hlt
      have hcl := (hb.out.cell (World.block_lt_of_cell? w _ hcl)).trans hcl
      have hel := hE.small k (by omega)
      obtain ⟨F, hF, hst⟩ := hE.step k hlt
      have HP := Lib.hid (hF.calls (k : Int) (M k) w.heap.size (w.heap.size + 1) wr (by omega) hC.out hsz)
      rw [← hst] at HP
      generalize bs (ts[k]'hlt) = T at *
      have hcell := Lib.hid hcell
      clear hst hel hE hF
      go_wp2_with (go_at_call 31; refine HP.out.mono ?_; rintro e w9 ⟨rfl, h1, h2⟩)
      exact ⟨⟨k + 1, by simp, by omega, Lib.hid h1, Lib.hid (hb.out.trans h2)⟩, by simp [intOf]; omega⟩
    · obtain rfl : k = ts.length := by omega
      obtain ⟨hc, v, hbk, ho⟩ := hC.out
      have c1 := blk_cell hbk 0
      obtain ⟨A2, cv, rfl⟩ := own_slice ho
      have Ho := Lib.hid ho
      have hge : ¬ ((ts.length : Int) < (ts.length : Int)) := by omega
      clear ho hbk hcell
      go_wp2_with fail
      exact bodyPost_ret (v := .tuple #[.slice A2 (M ts.length).length cv, .nilIface]) (by simp [results, Tryd.results27, go_sem]) rfl ⟨_, rfl, Ho.out, hb.out⟩

set_option maxRecDepth 100000 in
theorem pages_calls (n : Nat) (M : Nat → List Int) (ts : List (List UInt8)) (hts : ts.length ≤ 100) (hE : Run n ts M) (hne : M ts.length ≠ []) (A : Option Addr) (cap : Nat) (w : World)
    (hcell : ∀ i (h : i < ts.length), ∃ ad, A = some ad ∧ w.cell? (ad.add i) = some (.string (bs (ts[i]'h)))) :
    Calls Tryd.prog 19 #[.int .i64 (n : Int), .slice A ts.length cap] w fun e w' => ∃ v, e = .returned (.tuple #[v, .nilIface]) ∧ w'.ownsRow w.heap.size 3 1 v (M ts.length).length (nums .i64 (M ts.length)) ∧ Below w.heap.size w w' := by
  have HC := Lib.hid (calc_calls n M ts hts hE A cap w hcell)
  have h0 : (M ts.length).length ≠ 0 := fun h => hne (List.length_eq_zero_iff.1 h)
  clear hcell hE
  generalize M ts.length = L at *
  have hz : ((L.length : Int) == 0) = false := beq_eq_false_iff_ne.2 (by omega)
  clear hne
  go_enter Tryd.func19, Tryd.ntmps19
  go_wp2_with (go_at_call 27; refine HC.out.mono ?_; rintro e w1 ⟨v, rfl, ho, hb⟩; obtain ⟨A2, cv, rfl⟩ := own_slice ho; have ho := Lib.hid ho)
  exact bodyPost_ret (v := .tuple #[.slice A2 L.length cv, .nilIface]) (by simp [results, Tryd.results19, go_sem]) rfl ⟨_, rfl, ho.out, hb⟩

end Go.Proofs.YthfihamhkhnckaaDoor
