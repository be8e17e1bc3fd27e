/-
Contracts of matrix.Multiply, spec.Times and spec.NearMatrix: the product's words, entry by entry; a product of matrices of words that stand for numbers within known errors. Condition: each product and each sum on the way has a word.
-/
import Derived.Test.YtooghncdhjdcpaaA2
import Derived.Below
import Derived.StillTailTactics
import Derived.BigQuiet
import Derived.Deep.QuietTactic
namespace Go.Proofs.Ytooghncdhjdcpaa
open Go.RowKit Fl

/-- The words of a product of two matrices: m the products, s the sums so far. -/
structure Mul3 (A B : Nat → Nat) (m s : Nat → Nat → Nat → Nat) : Prop where
  zero : ∀ i j, s i j 0 = 0
  mul : ∀ i j k, i < 3 → j < 3 → k < 3 → floatBits .mul .f64 (A (i * 3 + k)) (B (k * 3 + j)) = some (m i j k)
  add : ∀ i j k, i < 3 → j < 3 → k < 3 → floatBits .add .f64 (s i j k) (m i j k) = some (s i j (k + 1))
/-- A matrix in a block. -/
def MatAt (w : World) (b : Nat) (X : Nat → Nat) : Prop := ∀ o, o < 9 → w.cell? ⟨b, o, none⟩ = some (.float .f64 (X o)) ∧ w.frozen? ⟨b, o, none⟩ = false
/-- The sums so far, as a matrix. -/
def Part (s : Nat → Nat → Nat → Nat) (i j k o : Nat) : Nat := s (o / 3) (o % 3) (if o < i * 3 + j then 3 else if o = i * 3 + j then k else 0)
def Mats (A B Z C : Nat → Nat) (n : Nat) (w : World) : Prop := MatAt w n A ∧ MatAt w (n + 1) B ∧ MatAt w (n + 1 + 1) Z ∧ MatAt w (n + 1 + 1 + 1) C
abbrev matV (X : Nat → Nat) : Value := .agg #[.float .f64 (X 0), .float .f64 (X 1), .float .f64 (X 2), .float .f64 (X 3), .float .f64 (X 4), .float .f64 (X 5), .float .f64 (X 6), .float .f64 (X 7), .float .f64 (X 8)]

theorem part_here (s : Nat → Nat → Nat → Nat) (i j k : Nat) (hj : j < 3) : Part s i j k (i * 3 + j) = s i j k := by
  unfold Part
  rw [if_neg (by omega), if_pos rfl, show (i * 3 + j) / 3 = i by omega, show (i * 3 + j) % 3 = j by omega]
theorem part_step (s : Nat → Nat → Nat → Nat) (i j k o : Nat) (hj : j < 3) : Part s i j (k + 1) o = if o = i * 3 + j then s i j (k + 1) else Part s i j k o := by
  by_cases e : o = i * 3 + j
  · subst e; rw [part_here s i j _ hj, if_pos rfl]
  · rw [if_neg e]; unfold Part; rw [if_neg e, if_neg e]
theorem part_next {A B m s} (h : Mul3 A B m s) (i j o : Nat) : Part s i (j + 1) 0 o = Part s i j 3 o := by
  unfold Part
  by_cases e : o = i * 3 + j
  · subst e; rw [if_pos (by omega), if_neg (by omega), if_pos rfl]
  · by_cases l : o < i * 3 + j
    · rw [if_pos (by omega), if_pos l]
    · rw [if_neg (by omega), if_neg l, if_neg e]
      split <;> rw [h.zero]
theorem part_row (s : Nat → Nat → Nat → Nat) (i o : Nat) : Part s (i + 1) 0 0 o = Part s i 3 0 o := by
  unfold Part
  rw [show (i + 1) * 3 + 0 = i * 3 + 3 by omega]
theorem mats_eq {A B Z C C' : Nat → Nat} {n : Nat} {w : World} (h : Mats A B Z C n w) (e : ∀ o, C' o = C o) : Mats A B Z C' n w :=
  ⟨h.1, h.2.1, h.2.2.1, fun o ho => by rw [e]; exact h.2.2.2 o ho⟩

theorem mats_set {A B Z C C' : Nat → Nat} {n p x : Nat} {w : World} (h : Mats A B Z C n w) (hp : p < 9) (e : ∀ o, C' o = if o = p then x else C o) : Mats A B Z C' n (w.setCell ⟨n + 1 + 1 + 1, p, none⟩ (.float .f64 x)).drew := by
  refine ⟨fun o ho => ?_, fun o ho => ?_, fun o ho => ?_, fun o ho => ?_⟩
  · exact ⟨(World.cell?_setCell_other w ⟨n + 1 + 1 + 1, p, none⟩ ⟨n, o, none⟩ _ (by intro e; have := congrArg Addr.block e; simp at this <;> omega)).trans (h.1 o ho).1, (World.frozen?_setCell w _ _ _).trans (h.1 o ho).2⟩
  · exact ⟨(World.cell?_setCell_other w ⟨n + 1 + 1 + 1, p, none⟩ ⟨n + 1, o, none⟩ _ (by intro e; have := congrArg Addr.block e; simp at this <;> omega)).trans (h.2.1 o ho).1, (World.frozen?_setCell w _ _ _).trans (h.2.1 o ho).2⟩
  · exact ⟨(World.cell?_setCell_other w ⟨n + 1 + 1 + 1, p, none⟩ ⟨n + 1 + 1, o, none⟩ _ (by intro e; have := congrArg Addr.block e; simp at this <;> omega)).trans (h.2.2.1 o ho).1, (World.frozen?_setCell w _ _ _).trans (h.2.2.1 o ho).2⟩
  · refine ⟨?_, (World.frozen?_setCell w _ _ _).trans (h.2.2.2 o ho).2⟩
    rw [e]
    by_cases q : o = p
    · subst q; rw [if_pos rfl]; exact World.cell?_setCell_same w _ _ (h.2.2.2 o ho).1
    · rw [if_neg q]
      exact (World.cell?_setCell_other w ⟨n + 1 + 1 + 1, p, none⟩ ⟨n + 1 + 1 + 1, o, none⟩ _ (by intro e; exact q (congrArg Addr.off e).symm)).trans (h.2.2.2 o ho).1

theorem MatAt.old {w : World} {b : Nat} {X : Nat → Nat} (h : MatAt w b X) {w' : World} (hb : Below w.heap.size w w') (l : b < w.heap.size) : MatAt w' b X := fun o ho =>
  ⟨(hb.cell (p := ⟨b, o, none⟩) l).trans (h o ho).1, (hb.frozen (p := ⟨b, o, none⟩) l).trans (h o ho).2⟩
theorem MatAt.new (w : World) (X : Nat → Nat) (t : TypeId) : MatAt (w.alloc (.cells #[.float .f64 (X 0), .float .f64 (X 1), .float .f64 (X 2), .float .f64 (X 3), .float .f64 (X 4), .float .f64 (X 5), .float .f64 (X 6), .float .f64 (X 7), .float .f64 (X 8)] t)) w.heap.size X := by
  intro o ho
  have c : o = 0 ∨ o = 1 ∨ o = 2 ∨ o = 3 ∨ o = 4 ∨ o = 5 ∨ o = 6 ∨ o = 7 ∨ o = 8 := by omega
  rcases c with rfl | rfl | rfl | rfl | rfl | rfl | rfl | rfl | rfl <;> exact ⟨by simp only [World.cell?, World.alloc, Array.getElem?_push, if_true]; rfl, by simp only [World.frozen?, World.alloc, Array.getElem?_push, if_true]; rfl⟩
theorem MatAt.at {w : World} {b b' : Nat} {X : Nat → Nat} (h : MatAt w b X) (e : b' = b) : MatAt w b' X := e ▸ h
theorem part_zero {A B m s} (h : Mul3 A B m s) (o : Nat) : Part s 0 0 0 o = 0 := by
  unfold Part
  rw [if_neg (by omega)]
  split <;> rw [h.zero]

theorem multiply (A B : Nat → Nat) (m s : Nat → Nat → Nat → Nat) (h : Mul3 A B m s) (w : World) :
    Calls Try.prog 70 #[matV A, matV B] w fun e w' => e = .returned (matV fun o => s (o / 3) (o % 3) 3) ∧ Below w.heap.size w w' := by
  have H := Lib.hid h
  clear h
  obtain ⟨R, hR⟩ : ∃ R : Nat → Nat, ∀ o, R o = s (o / 3) (o % 3) 3 := ⟨_, fun _ => rfl⟩
  have hR0 : matV R = matV fun o => s (o / 3) (o % 3) 3 := by simp only [matV, hR]
  rw [← hR0]
  clear hR0
  have HR := Lib.hid hR
  clear hR
  go_enter Try.func70, Try.ntmps70
  go_wp2
  go_loopw [6] (fun v wr => ∃ i : Nat, v = .int .i64 i ∧ i ≤ 3 ∧ Hid (Mats A B (fun _ => 0) (Part s i 0 0) w.heap.size wr) ∧ Below w.heap.size w wr) (fun v _ => 3 - (intOf v).toNat)
  case atStart =>
    refine ⟨0, rfl, by omega, Lib.hid (mats_eq (C := fun _ => 0) ⟨?_, ?_, ?_, ?_⟩ (part_zero H.out)), ?_⟩
    · exact (((MatAt.new w A 105).old (below1 _ _) (by simp)).old (below1 _ _) (by simp <;> omega)).old (below1 _ _) (by simp <;> omega)
    · exact ((((MatAt.new _ B 105).at (by simp)).old (below1 _ _) (by simp)).old (below1 _ _) (by simp <;> omega))
    · exact ((MatAt.new _ (fun _ => 0) 105).at (by simp)).old (below1 _ _) (by simp)
    · exact (MatAt.new _ (fun _ => 0) 105).at (by simp)
    · exact (((below1 _ _).alloc (by simp) _).alloc (by simp <;> omega) _).alloc (by simp <;> omega) _
  case round =>
    obtain ⟨i, rfl, hi, hM, hb⟩ := hrel
    by_cases li : i < 3
    · go_wp2
      go_loopw [7] (fun v wr => ∃ j : Nat, v = .int .i64 j ∧ j ≤ 3 ∧ Hid (Mats A B (fun _ => 0) (Part s i j 0) w.heap.size wr) ∧ Below w.heap.size w wr) (fun v _ => 3 - (intOf v).toNat)
      case atStart => exact ⟨0, rfl, by omega, hM, hb⟩
      case round =>
        clear hM hb
        obtain ⟨j, rfl, hj, hM, hb⟩ := hrel
        by_cases lj : j < 3
        · go_wp2
          go_loopw [8] (fun v wr => ∃ k : Nat, v = .int .i64 k ∧ k ≤ 3 ∧ Hid (Mats A B (fun _ => 0) (Part s i j k) w.heap.size wr) ∧ Below w.heap.size w wr) (fun v _ => 3 - (intOf v).toNat)
          case atStart => exact ⟨0, rfl, by omega, hM, hb⟩
          case round =>
            clear hM hb
            obtain ⟨k, rfl, hk, hM, hb⟩ := hrel
            by_cases lk : k < 3
            · go_wp2
              obtain ⟨hA, hB, hZ, hC⟩ := hM.out
              have g1 := (hA (i * 3 + k) (by omega)).1
              have g2 := (hB (k * 3 + j) (by omega)).1
              have g3 := (hC (i * 3 + j) (by omega)).1
              have g4 := (hC (i * 3 + j) (by omega)).2
              rw [part_here s i j k lj] at g3
              have o1 := run_bin (P := Try.prog) .mul (H.out.mul i j k li lj lk)
              have o2 := run_bin (P := Try.prog) .add (H.out.add i j k li lj lk)
              clear hA hB hZ hC
              go_region
              go_wp2
              go_roundw
              case rel => exact ⟨k + 1, by go_num, by omega, Lib.hid (mats_set hM.out (by omega) (fun o => part_step s i j k o lj)), (hb.setCell (by simp <;> omega) _).drew⟩
              case measure => simp [intOf]; omega
            · obtain rfl : k = 3 := by omega
              have hM' := Lib.hid (mats_eq hM.out (fun o => part_next H.out i j o))
              clear hM
              go_wp2
              go_roundw
              case rel => exact ⟨j + 1, by go_num, by omega, hM', hb⟩
              case measure => simp [intOf]; omega
        · obtain rfl : j = 3 := by omega
          have hM' := Lib.hid (mats_eq hM.out (fun o => part_row s i o))
          clear hM
          go_wp2
          go_roundw
          case rel => exact ⟨i + 1, by go_num, by omega, hM', hb⟩
          case measure => simp [intOf]; omega
    · obtain rfl : i = 3 := by omega
      have hM9 : MatAt wr (w.heap.size + 1 + 1 + 1) R := fun o ho => by
        have e : Part s 3 0 0 o = R o := by rw [HR.out]; unfold Part; rw [if_pos (by omega)]
        rw [← e]; exact hM.out.2.2.2 o ho
      have hZ := hM.out.2.2.1
      have z0 := (hZ 0 (by omega))
      have z1 := (hZ 1 (by omega))
      have z2 := (hZ 2 (by omega))
      have z3 := (hZ 3 (by omega))
      have z4 := (hZ 4 (by omega))
      have z5 := (hZ 5 (by omega))
      have z6 := (hZ 6 (by omega))
      have z7 := (hZ 7 (by omega))
      have z8 := (hZ 8 (by omega))
      have c0 := (hM9 0 (by omega))
      have c1 := (hM9 1 (by omega))
      have c2 := (hM9 2 (by omega))
      have c3 := (hM9 3 (by omega))
      have c4 := (hM9 4 (by omega))
      have c5 := (hM9 5 (by omega))
      have c6 := (hM9 6 (by omega))
      have c7 := (hM9 7 (by omega))
      have c8 := (hM9 8 (by omega))
      clear hM9 hZ hM
      go_wp2
      exact bodyPost_ret (v := matV R) (by simp [results, Try.results70, go_sem, z0, z1, z2, z3, z4, z5, z6, z7, z8, matV]) rfl ⟨rfl, by (iterate 9 (with_reducible refine Below.setCell ?_ (by simp <;> omega) _)); exact hb⟩
/-- A matrix by its nine words. -/
def mat (a b c d e f g h i : Nat) (o : Nat) : Nat := [a, b, c, d, e, f, g, h, i].getD o 0
abbrev one1 : Nat := 4607182418800017408
def prodM (s : Nat → Nat → Nat → Nat) (o : Nat) : Nat := s (o / 3) (o % 3) 3
theorem times (A B : Nat → Nat) (m s : Nat → Nat → Nat → Nat) (h : Mul3 A B m s) (w : World) :
    Calls Try.prog 35 #[matV A, matV B] w fun e w' => e = .returned (matV fun o => s (o / 3) (o % 3) 3) ∧ Below w.heap.size w w' := by
  have H := Lib.hid h
  clear h
  obtain ⟨R, hR⟩ : ∃ R : Nat → Nat, ∀ o, R o = s (o / 3) (o % 3) 3 := ⟨_, fun _ => rfl⟩
  have hR0 : matV R = matV fun o => s (o / 3) (o % 3) 3 := by simp only [matV, hR]
  rw [← hR0]
  clear hR0
  have HR := Lib.hid hR
  clear hR
  go_enter Try.func35, Try.ntmps35
  go_wp2
  go_loopw [9] (fun v wr => ∃ i : Nat, v = .int .i64 i ∧ i ≤ 3 ∧ Hid (Mats A B (fun _ => 0) (Part s i 0 0) w.heap.size wr) ∧ Below w.heap.size w wr) (fun v _ => 3 - (intOf v).toNat)
  case atStart =>
    refine ⟨0, rfl, by omega, Lib.hid (mats_eq (C := fun _ => 0) ⟨?_, ?_, ?_, ?_⟩ (part_zero H.out)), ?_⟩
    · exact (((MatAt.new w A 43).old (below1 _ _) (by simp)).old (below1 _ _) (by simp <;> omega)).old (below1 _ _) (by simp <;> omega)
    · exact ((((MatAt.new _ B 43).at (by simp)).old (below1 _ _) (by simp)).old (below1 _ _) (by simp <;> omega))
    · exact ((MatAt.new _ (fun _ => 0) 43).at (by simp)).old (below1 _ _) (by simp)
    · exact (MatAt.new _ (fun _ => 0) 43).at (by simp)
    · exact (((below1 _ _).alloc (by simp) _).alloc (by simp <;> omega) _).alloc (by simp <;> omega) _
  case round =>
    obtain ⟨i, rfl, hi, hM, hb⟩ := hrel
    by_cases li : i < 3
    · go_wp2
      go_loopw [12] (fun v wr => ∃ j : Nat, v = .int .i64 j ∧ j ≤ 3 ∧ Hid (Mats A B (fun _ => 0) (Part s i j 0) w.heap.size wr) ∧ Below w.heap.size w wr) (fun v _ => 3 - (intOf v).toNat)
      case atStart => exact ⟨0, rfl, by omega, hM, hb⟩
      case round =>
        clear hM hb
        obtain ⟨j, rfl, hj, hM, hb⟩ := hrel
        by_cases lj : j < 3
        · go_wp2
          go_loopw [15] (fun v wr => ∃ k : Nat, v = .int .i64 k ∧ k ≤ 3 ∧ Hid (Mats A B (fun _ => 0) (Part s i j k) w.heap.size wr) ∧ Below w.heap.size w wr) (fun v _ => 3 - (intOf v).toNat)
          case atStart => exact ⟨0, rfl, by omega, hM, hb⟩
          case round =>
            clear hM hb
            obtain ⟨k, rfl, hk, hM, hb⟩ := hrel
            by_cases lk : k < 3
            · go_wp2
              obtain ⟨hA, hB, hZ, hC⟩ := hM.out
              have g1 := (hA (i * 3 + k) (by omega)).1
              have g2 := (hB (k * 3 + j) (by omega)).1
              have g3 := (hC (i * 3 + j) (by omega)).1
              have g4 := (hC (i * 3 + j) (by omega)).2
              rw [part_here s i j k lj] at g3
              have o1 := run_bin (P := Try.prog) .mul (H.out.mul i j k li lj lk)
              have o2 := run_bin (P := Try.prog) .add (H.out.add i j k li lj lk)
              clear hA hB hZ hC
              go_region
              go_wp2
              go_roundw
              case rel => exact ⟨k + 1, by go_num, by omega, Lib.hid (mats_set hM.out (by omega) (fun o => part_step s i j k o lj)), (hb.setCell (by simp <;> omega) _).drew⟩
              case measure => simp [intOf]; omega
            · obtain rfl : k = 3 := by omega
              have hM' := Lib.hid (mats_eq hM.out (fun o => part_next H.out i j o))
              clear hM
              go_wp2
              go_roundw
              case rel => exact ⟨j + 1, by go_num, by omega, hM', hb⟩
              case measure => simp [intOf]; omega
        · obtain rfl : j = 3 := by omega
          have hM' := Lib.hid (mats_eq hM.out (fun o => part_row s i o))
          clear hM
          go_wp2
          go_roundw
          case rel => exact ⟨i + 1, by go_num, by omega, hM', hb⟩
          case measure => simp [intOf]; omega
    · obtain rfl : i = 3 := by omega
      have hM9 : MatAt wr (w.heap.size + 1 + 1 + 1) R := fun o ho => by
        have e : Part s 3 0 0 o = R o := by rw [HR.out]; unfold Part; rw [if_pos (by omega)]
        rw [← e]; exact hM.out.2.2.2 o ho
      have hZ := hM.out.2.2.1
      have z0 := (hZ 0 (by omega))
      have z1 := (hZ 1 (by omega))
      have z2 := (hZ 2 (by omega))
      have z3 := (hZ 3 (by omega))
      have z4 := (hZ 4 (by omega))
      have z5 := (hZ 5 (by omega))
      have z6 := (hZ 6 (by omega))
      have z7 := (hZ 7 (by omega))
      have z8 := (hZ 8 (by omega))
      have c0 := (hM9 0 (by omega))
      have c1 := (hM9 1 (by omega))
      have c2 := (hM9 2 (by omega))
      have c3 := (hM9 3 (by omega))
      have c4 := (hM9 4 (by omega))
      have c5 := (hM9 5 (by omega))
      have c6 := (hM9 6 (by omega))
      have c7 := (hM9 7 (by omega))
      have c8 := (hM9 8 (by omega))
      clear hM9 hZ hM
      go_wp2
      exact bodyPost_ret (v := matV R) (by simp [results, Try.results35, go_sem, z0, z1, z2, z3, z4, z5, z6, z7, z8, matV]) rfl ⟨rfl, by (iterate 9 (with_reducible refine Below.setCell ?_ (by simp <;> omega) _)); exact hb⟩

def Two (X Y : Nat → Nat) (n : Nat) (w : World) : Prop := MatAt w n X ∧ MatAt w (n + 1) Y
theorem Two.kept {X Y : Nat → Nat} {n : Nat} {w w' : World} (h : Two X Y n w) (e : ∀ a, w'.cell? a = w.cell? a) (f : ∀ a, w'.frozen? a = w.frozen? a) : Two X Y n w' :=
  ⟨fun o ho => ⟨(e _).trans (h.1 o ho).1, (f _).trans (h.1 o ho).2⟩, fun o ho => ⟨(e _).trans (h.2 o ho).1, (f _).trans (h.2 o ho).2⟩⟩

theorem nearMatrix (X Y : Nat → Nat) (h : ∀ o, o < 9 → NearT (X o) (Y o)) (w : World) :
    Calls Try.prog 34 #[matV X, matV Y] w fun e w' => e = .returned (.bool true) ∧ Below w.heap.size w w' := by
  have H := Lib.hid h
  clear h
  go_enter Try.func34, Try.ntmps34
  go_wp2
  go_loopw [7] (fun v wr => ∃ i : Nat, v = .int .i64 i ∧ i ≤ 3 ∧ Hid (Two X Y w.heap.size wr) ∧ Below w.heap.size w wr) (fun v _ => 3 - (intOf v).toNat)
  case atStart =>
    refine ⟨0, rfl, by omega, Lib.hid ⟨?_, ?_⟩, ?_⟩
    · exact (MatAt.new w X 43).old (below1 _ _) (by simp)
    · exact (MatAt.new _ Y 43).at (by simp)
    · exact (below1 _ _).alloc (by simp) _
  case round =>
    obtain ⟨i, rfl, hi, hM, hb⟩ := hrel
    by_cases li : i < 3
    · go_wp2
      go_loopw [10] (fun v wr => ∃ j : Nat, v = .int .i64 j ∧ j ≤ 3 ∧ Hid (Two X Y w.heap.size wr) ∧ Below w.heap.size w wr) (fun v _ => 3 - (intOf v).toNat)
      case atStart => exact ⟨0, rfl, by omega, hM, hb⟩
      case round =>
        clear hM hb
        obtain ⟨j, rfl, hj, hM, hb⟩ := hrel
        by_cases lj : j < 3
        · have g1 := (hM.out.1 (i * 3 + j) (by omega)).1
          have g2 := (hM.out.2 (i * 3 + j) (by omega)).1
          have K := Lib.hid (H.out (i * 3 + j) (by omega))
          go_wp2
          go_quiet ((go_at_call 24; exact Calls.quiet_of_same ((K.out _).mono fun e w' ⟨he, hw⟩ => ⟨he, hw.symm⟩)))
          go_wp2
          exact ⟨⟨j + 1, by go_num, by omega, Lib.hid (hM.out.kept (fun _ => rfl) (fun _ => rfl)), ⟨hb.os, hb.tape, hb.output, hb.size, hb.block⟩⟩, by simp [intOf]; omega⟩
        · obtain rfl : j = 3 := by omega
          go_wp2
          go_roundw
          case rel => exact ⟨i + 1, by go_num, by omega, hM, hb⟩
          case measure => simp [intOf]; omega
    · obtain rfl : i = 3 := by omega
      go_wp2
      go_ret
      exact ⟨rfl, hb⟩
def mE (M N E F : Rat) : Rat := if M = 0 ∧ E = 0 ∨ N = 0 ∧ F = 0 then 0 else E * (N + F) + M * F + ((M + E) * (N + F) + 1) / 4503599627370496
def aE (M N E F : Rat) : Rat := if M = 0 ∧ N = 0 ∧ E = 0 ∧ F = 0 then 0 else E + F + (M + N + E + F + 1) / 4503599627370496
theorem nr_zero {q v : Rat} (h : Nr q v 0) : q = v := by obtain ⟨h1, h2⟩ := h; grind
theorem ap_is0 {x : Nat} {v : Rat} (h : Ap x v 0 0) : R x 0 ∧ v = 0 := by
  obtain ⟨q, h1, h2, h3⟩ := h
  have e1 := nr_zero h2
  have e2 := nr_zero h3
  subst e2
  subst e1
  exact ⟨h1, rfl⟩
theorem ap_mul2 {x y : Nat} {v u M N E F : Rat} (hx : Ap x v M E) (hy : Ap y u N F) (h : (M + E) * (N + F) ≤ 1000000000000000000000000) :
    ∃ r, floatBits .mul .f64 x y = some r ∧ Ap r (v * u) (M * N) (mE M N E F) := by
  unfold mE
  split
  · rename_i hz
    rcases hz with ⟨rfl, rfl⟩ | ⟨rfl, rfl⟩
    · obtain ⟨h1, rfl⟩ := ap_is0 hx
      obtain ⟨q, h2, _⟩ := hy
      obtain ⟨r, e1, e2⟩ := R_mul_exact h1 h2 0 0 (by rw [Rat.zero_mul]; exact (Rat.zero_mul _).symm) (by decide) (by decide) (by decide)
      rw [Rat.zero_mul] at e2
      exact ⟨r, e1, 0, e2, by rw [Rat.zero_mul]; exact Nr.refl Rat.le_refl, by rw [Rat.zero_mul, Rat.zero_mul]; exact Nr.refl Rat.le_refl⟩
    · obtain ⟨h1, rfl⟩ := ap_is0 hy
      obtain ⟨q, h2, _⟩ := hx
      obtain ⟨r, e1, e2⟩ := R_mul_exact h2 h1 0 0 (by rw [Rat.mul_zero]; exact (Rat.zero_mul _).symm) (by decide) (by decide) (by decide)
      rw [Rat.mul_zero] at e2
      exact ⟨r, e1, 0, e2, by rw [Rat.mul_zero]; exact Nr.refl Rat.le_refl, by rw [Rat.mul_zero, Rat.mul_zero]; exact Nr.refl Rat.le_refl⟩
  · exact Ap.mul hx hy _ _ ⟨Rat.le_refl, Rat.le_refl, h⟩
theorem ap_add2 {x y : Nat} {v u M N E F : Rat} (hx : Ap x v M E) (hy : Ap y u N F) (h : M + N + E + F ≤ 1000000000000000000000000) :
    ∃ r, floatBits .add .f64 x y = some r ∧ Ap r (v + u) (M + N) (aE M N E F) := by
  unfold aE
  split
  · rename_i hz
    obtain ⟨rfl, rfl, rfl, rfl⟩ := hz
    obtain ⟨h1, rfl⟩ := ap_is0 hx
    obtain ⟨h2, rfl⟩ := ap_is0 hy
    obtain ⟨r, e1, e2⟩ := R_add_exact h1 h2 0 0 (by rw [Rat.zero_add]; exact (Rat.zero_mul _).symm) (by decide) (by decide) (by decide)
    rw [Rat.zero_add] at e2
    exact ⟨r, e1, 0, e2, by rw [Rat.zero_add]; exact Nr.refl Rat.le_refl, by rw [Rat.zero_add]; exact Nr.refl Rat.le_refl⟩
  · exact Ap.add hx hy _ _ ⟨Rat.le_refl, Rat.le_refl, h⟩
/-- Each entry of a matrix stands for a number, within bounds of its own. -/
def ApM (X : Nat → Nat) (v M E : Nat → Rat) : Prop := ∀ o, o < 9 → Ap (X o) (v o) (M o) (E o)
def dV (a b : Nat → Rat) (i j : Nat) : Nat → Rat
  | 0 => 0
  | k + 1 => dV a b i j k + a (i * 3 + k) * b (k * 3 + j)
def dE (M N E F : Nat → Rat) (i j : Nat) : Nat → Rat
  | 0 => 0
  | k + 1 => aE (dV M N i j k) (M (i * 3 + k) * N (k * 3 + j)) (dE M N E F i j k) (mE (M (i * 3 + k)) (N (k * 3 + j)) (E (i * 3 + k)) (F (k * 3 + j)))
def mW (A B : Nat → Nat) (i j k : Nat) : Nat := (floatBits .mul .f64 (A (i * 3 + k)) (B (k * 3 + j))).getD 0
def sW (A B : Nat → Nat) (i j : Nat) : Nat → Nat
  | 0 => 0
  | k + 1 => (floatBits .add .f64 (sW A B i j k) (mW A B i j k)).getD 0
/-- What the bounds must keep. -/
def okB (M N E F : Nat → Rat) : Bool :=
  (List.range 3).all fun i => (List.range 3).all fun j => (List.range 3).all fun k =>
    decide ((M (i * 3 + k) + E (i * 3 + k)) * (N (k * 3 + j) + F (k * 3 + j)) ≤ 1000000000000000000000000) &&
    decide (dV M N i j k + M (i * 3 + k) * N (k * 3 + j) + dE M N E F i j k + mE (M (i * 3 + k)) (N (k * 3 + j)) (E (i * 3 + k)) (F (k * 3 + j)) ≤ 1000000000000000000000000)
theorem okB_at {M N E F : Nat → Rat} (h : okB M N E F = true) {i j k : Nat} (hi : i < 3) (hj : j < 3) (hk : k < 3) :
    (M (i * 3 + k) + E (i * 3 + k)) * (N (k * 3 + j) + F (k * 3 + j)) ≤ 1000000000000000000000000 ∧
    dV M N i j k + M (i * 3 + k) * N (k * 3 + j) + dE M N E F i j k + mE (M (i * 3 + k)) (N (k * 3 + j)) (E (i * 3 + k)) (F (k * 3 + j)) ≤ 1000000000000000000000000 := by
  unfold okB at h
  have h1 := List.all_eq_true.1 (List.all_eq_true.1 (List.all_eq_true.1 h i (List.mem_range.2 hi)) j (List.mem_range.2 hj)) k (List.mem_range.2 hk)
  rw [Bool.and_eq_true, decide_eq_true_iff, decide_eq_true_iff] at h1
  exact h1

section
variable {A B : Nat → Nat} {a b M N E F : Nat → Rat}
theorem mul_at (hA : ApM A a M E) (hB : ApM B b N F) (ok : okB M N E F = true) {i j k : Nat} (hi : i < 3) (hj : j < 3) (hk : k < 3) :
    floatBits .mul .f64 (A (i * 3 + k)) (B (k * 3 + j)) = some (mW A B i j k) ∧ Ap (mW A B i j k) (a (i * 3 + k) * b (k * 3 + j)) (M (i * 3 + k) * N (k * 3 + j)) (mE (M (i * 3 + k)) (N (k * 3 + j)) (E (i * 3 + k)) (F (k * 3 + j))) := by
  obtain ⟨r, h1, h2⟩ := ap_mul2 (hA (i * 3 + k) (by omega)) (hB (k * 3 + j) (by omega)) (okB_at ok hi hj hk).1
  have e : mW A B i j k = r := by unfold mW; rw [h1]; rfl
  rw [e]
  exact ⟨h1, h2⟩
theorem sum_at (hA : ApM A a M E) (hB : ApM B b N F) (ok : okB M N E F = true) {i j : Nat} (hi : i < 3) (hj : j < 3) : ∀ k, k < 4 →
    Ap (sW A B i j k) (dV a b i j k) (dV M N i j k) (dE M N E F i j k) ∧ (k < 3 → floatBits .add .f64 (sW A B i j k) (mW A B i j k) = some (sW A B i j (k + 1))) := by
  intro k
  have step : ∀ k, k < 3 → Ap (sW A B i j k) (dV a b i j k) (dV M N i j k) (dE M N E F i j k) → floatBits .add .f64 (sW A B i j k) (mW A B i j k) = some (sW A B i j (k + 1)) ∧ Ap (sW A B i j (k + 1)) (dV a b i j (k + 1)) (dV M N i j (k + 1)) (dE M N E F i j (k + 1)) := by
    intro k hk hs
    obtain ⟨r, h1, h2⟩ := ap_add2 hs (mul_at hA hB ok hi hj hk).2 (okB_at ok hi hj hk).2
    have e : sW A B i j (k + 1) = r := by show (floatBits .add .f64 (sW A B i j k) (mW A B i j k)).getD 0 = r; rw [h1]; rfl
    rw [e]
    exact ⟨h1, h2⟩
  have all : ∀ k, k < 4 → Ap (sW A B i j k) (dV a b i j k) (dV M N i j k) (dE M N E F i j k) := by
    intro k
    induction k with
    | zero => intro _; exact Ap.zero
    | succ k ih => intro hk; exact (step k (by omega) (ih (by omega))).2
  exact fun hk => ⟨all k hk, fun h3 => (step k h3 (all k hk)).1⟩
theorem mul3_of (hA : ApM A a M E) (hB : ApM B b N F) (ok : okB M N E F = true) : Mul3 A B (mW A B) (sW A B) :=
  ⟨fun _ _ => rfl, fun _ _ _ hi hj hk => (mul_at hA hB ok hi hj hk).1, fun _ _ k hi hj hk => (sum_at hA hB ok hi hj k (by omega)).2 hk⟩
def pV (a b : Nat → Rat) (o : Nat) : Rat := dV a b (o / 3) (o % 3) 3
def pE (M N E F : Nat → Rat) (o : Nat) : Rat := dE M N E F (o / 3) (o % 3) 3
theorem prod_of (hA : ApM A a M E) (hB : ApM B b N F) (ok : okB M N E F = true) : ApM (prodM (sW A B)) (pV a b) (pV M N) (pE M N E F) :=
  fun o ho => (sum_at hA hB ok (show o / 3 < 3 by omega) (show o % 3 < 3 by omega) 3 (by omega)).1
end

/-- Nine numbers. -/
def nine (a b c d e f g h i : Rat) (o : Nat) : Rat :=
  if o = 0 then a else if o = 1 then b else if o = 2 then c else if o = 3 then d else if o = 4 then e else if o = 5 then f else if o = 6 then g else if o = 7 then h else i
def noE (_ : Nat) : Rat := 0
theorem Ap.zero1 : Ap 0 0 0 0 := Ap.zero
theorem nine_lt (o : Nat) (h : o < 9) : o = 0 ∨ o = 1 ∨ o = 2 ∨ o = 3 ∨ o = 4 ∨ o = 5 ∨ o = 6 ∨ o = 7 ∨ o = 8 := by omega

end Go.Proofs.Ytooghncdhjdcpaa
