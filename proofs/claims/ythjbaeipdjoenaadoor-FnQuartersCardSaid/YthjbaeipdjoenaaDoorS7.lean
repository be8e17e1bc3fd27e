/-
Contracts of math.Sin and math.Cos at the words of whole degrees; of the matrix that turns by whole degrees and moves.
-/
import Derived.Test.YthjbaeipdjoenaaDoorS5
import Derived.Test.YthjbaeipdjoenaaDoorM4
namespace Go.Proofs.YthjbaeipdjoenaaDoor
open Go.RowKit Fl

theorem sinW_parts {x r : Nat} {q : Rat} (hx : R x q) (h : sinW x = some r) : (q = 0 ∧ r = x) ∨ (q ≠ 0 ∧ ∃ (k : Int) (z zz v : Nat), eighth (if decide (q < 0) = true then Op.negFloat .f64 x else x) = some (k, z) ∧ fm z z = some zz ∧ (if k % 4 = 2 then roadC zz else roadS z zz) = some v ∧ r = (if (decide (q < 0) ^^ decide (k % 8 > 3)) then Op.negFloat .f64 v else v)) := by
  have e0 := f_eql hx R_zero rfl
  have e1 := f_lss hx R_zero rfl
  unfold sinW at h
  rw [e0, e1] at h
  by_cases hq : q = 0
  · rw [if_pos (by simpa using hq)] at h
    exact .inl ⟨hq, (Option.some.inj h).symm⟩
  · rw [if_neg (by simpa using hq)] at h
    simp only [Option.bind_eq_some_iff, Option.some.injEq, Prod.exists] at h
    obtain ⟨k, z, h1, zz, h2, v, h3, h4⟩ := h
    exact .inr ⟨hq, k, z, zz, v, h1, h2, h3, h4.symm⟩

theorem sin_zero (x : Nat) (hx : R x 0) (w : World) : Calls Tryd.prog 22 #[.float .f64 x] w fun e w' => e = .returned (.float .f64 x) ∧ w = w' := by
  have e0 := f_eql hx R_zero (b := true) (by decide +kernel)
  clear hx
  go_enter Tryd.func22, Tryd.ntmps22
  go_wp2
  go_ret
  exact ⟨rfl, rfl⟩

section
variable {n : Int} {x s c : Nat} {q a b : Rat}
theorem sin_at (h : Turn n x s c q a b) (w : World) (hS : Tab w 3 sinT) (hC : Tab w 2 cosT) : Calls Tryd.prog 22 #[.float .f64 x] w fun e w' => e = .returned (.float .f64 s) ∧ w = w' := by
  rcases sinW_parts h.val h.sin with ⟨rfl, rfl⟩ | ⟨hq, k, z, zz, v, h1, h2, h3, rfl⟩
  · exact sin_zero _ h.val w
  · by_cases hn : q < 0
    · simp only [hn, decide_true, if_true] at h1 ⊢
      exact sin_neg x zz v k z q h.val hq hn h.small h.word _ rfl h.abs h1 h2 h3 w hS hC
    · simp only [hn, decide_false, Bool.false_eq_true, if_false] at h1 ⊢
      exact sin_pos x zz v k z q h.val hq hn h.small h.word _ rfl h.abs h1 h2 h3 w hS hC
theorem cos_at (h : Turn n x s c q a b) (w : World) (hS : Tab w 3 sinT) (hC : Tab w 2 cosT) : Calls Tryd.prog 24 #[.float .f64 x] w fun e w' => e = .returned (.float .f64 c) ∧ w = w' := by
  have h0 := h.cos
  unfold cosW at h0
  simp only [Option.bind_eq_some_iff, Option.some.injEq, Prod.exists] at h0
  obtain ⟨k, z, h1, zz, h2, v, h3, rfl⟩ := h0
  exact cos_any x zz v k z q h.val h.small h.word _ rfl h.abs h1 h2 h3 w hS hC
theorem Sin_at (h : Turn n x s c q a b) (w : World) (hS : Tab w 3 sinT) (hC : Tab w 2 cosT) : Calls Tryd.prog 19 #[.float .f64 x] w fun e w' => e = .returned (.float .f64 s) ∧ w = w' := by
  have H := Lib.hid h
  have HS := Lib.hid hS
  have HC := Lib.hid hC
  clear h hS hC
  go_enter Tryd.func19, Tryd.ntmps19
  go_wp2_with (go_at_call 22; refine (sin_at H.out _ HS.out HC.out).mono ?_; rintro e w' ⟨rfl, rfl⟩)
  go_ret
  exact ⟨rfl, rfl⟩
theorem Cos_at (h : Turn n x s c q a b) (w : World) (hS : Tab w 3 sinT) (hC : Tab w 2 cosT) : Calls Tryd.prog 20 #[.float .f64 x] w fun e w' => e = .returned (.float .f64 c) ∧ w = w' := by
  have H := Lib.hid h
  have HS := Lib.hid hS
  have HC := Lib.hid hC
  clear h hS hC
  go_enter Tryd.func20, Tryd.ntmps20
  go_wp2_with (go_at_call 24; refine (cos_at H.out _ HS.out HC.out).mono ?_; rintro e w' ⟨rfl, rfl⟩)
  go_ret
  exact ⟨rfl, rfl⟩
end
/-- The variables' blocks. -/
structure Vars3 (w : World) : Prop where
  ident : Ident w
  sinV : Tab w 3 sinT
  cosV : Tab w 2 cosT
  size : 3 < w.heap.size
theorem Tab.old {w w' : World} {g : Nat} {l : List Nat} (h : Tab w g l) (hb : Below w.heap.size w w') (hg : g < w.heap.size) : Tab w' g l := fun i hi => (hb.cell (p := ⟨g, i, none⟩) hg).trans (h i hi)
theorem Vars3.old {w w' : World} (h : Vars3 w) (hb : Below w.heap.size w w') : Vars3 w' :=
  ⟨fun o ho => (hb.cell (p := ⟨0, o, none⟩) (show 0 < w.heap.size by have := h.size; omega)).trans (h.ident o ho), h.sinV.old hb h.size, h.cosV.old hb (by have := h.size; omega), Nat.lt_of_lt_of_le h.size hb.size⟩

/-- The words of a turn and a move: of the two products. -/
theorem rotT {n : Int} {x s c : Nat} {q a b : Rat} (h : Turn n x s c q a b) (dx dy : Nat) (m s1 m2 s2 : Nat → Nat → Nat → Nat) (h1 : Mul3 (scaleM one1 one1) (turnM s (Op.negFloat .f64 s) c) m s1) (h2 : Mul3 (prodM s1) (moveM dx dy) m2 s2) (w : World) (hV : Vars3 w) :
    Calls Tryd.prog 17 #[.float .f64 (floatOfInt .f64 n), .float .f64 dx, .float .f64 dy] w fun e w' => e = .returned (matV (prodM s2)) ∧ Below w.heap.size w w' := by
  have r1 := rm h.rad
  have H := Lib.hid h
  have H1 := Lib.hid h1
  have H2 := Lib.hid h2
  have HV : Hid (∀ w', Below w.heap.size w w' → Vars3 w') := Lib.hid fun w' hb => hV.old hb
  clear h1 h2 hV h
  go_enter Tryd.func17, Tryd.ntmps17
  go_wp2_with (first | (go_at_call 19; refine (Sin_at H.out _ (HV.out _ (below1 _ _)).sinV (HV.out _ (below1 _ _)).cosV).mono ?_; rintro e w' ⟨rfl, rfl⟩) | (go_at_call 20; refine (Cos_at H.out _ (HV.out _ (below1 _ _)).sinV (HV.out _ (below1 _ _)).cosV).mono ?_; rintro e w' ⟨rfl, rfl⟩) | (go_at_call 15; refine (calcT one1 one1 s c dx dy m s1 m2 s2 H1.out H2.out _ (HV.out _ (below1 _ _)).ident (by simp)).mono ?_; rintro e w' ⟨rfl, hb⟩; have hZ := (MatAt.new w (fun _ => 0) 43).old hb (by simp); have z0 := (hZ 0 (by omega)).1; have y0 := (hZ 0 (by omega)).2; have z1 := (hZ 1 (by omega)).1; have y1 := (hZ 1 (by omega)).2; have z2 := (hZ 2 (by omega)).1; have y2 := (hZ 2 (by omega)).2; have z3 := (hZ 3 (by omega)).1; have y3 := (hZ 3 (by omega)).2; have z4 := (hZ 4 (by omega)).1; have y4 := (hZ 4 (by omega)).2; have z5 := (hZ 5 (by omega)).1; have y5 := (hZ 5 (by omega)).2; have z6 := (hZ 6 (by omega)).1; have y6 := (hZ 6 (by omega)).2; have z7 := (hZ 7 (by omega)).1; have y7 := (hZ 7 (by omega)).2; have z8 := (hZ 8 (by omega)).1; have y8 := (hZ 8 (by omega)).2; have hB := (below1 w _).trans (hb.mono (by simp)); clear hZ hb))
  exact bodyPost_ret (v := matV (prodM s2)) (by simp [results, Tryd.results17, go_sem, z0, z1, z2, z3, z4, z5, z6, z7, z8, matV]) rfl ⟨rfl, by (iterate 9 (with_reducible refine Below.setCell ?_ (by simp <;> omega) _)); exact hB⟩
end Go.Proofs.YthjbaeipdjoenaaDoor
