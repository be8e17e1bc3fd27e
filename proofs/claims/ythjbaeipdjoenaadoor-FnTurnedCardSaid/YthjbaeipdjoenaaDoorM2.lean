/-
Contract of spec.Times: the product's words, entry by entry. Condition: each product and each sum on the way has a word.
-/
import Derived.Test.YthjbaeipdjoenaaDoorM1
namespace Go.Proofs.YthjbaeipdjoenaaDoor
open Go.RowKit Fl

theorem times (A B : Nat → Nat) (m s : Nat → Nat → Nat → Nat) (h : Mul3 A B m s) (w : World) :
    Calls Tryd.prog 9 #[matV A, matV B] w fun e w' => e = .returned (matV fun o => s (o / 3) (o % 3) 3) ∧ Below w.heap.size w w' := by
  have H := Lib.hid h
  clear h
  obtain ⟨R, hR⟩ : ∃ R : Nat → Nat, ∀ o, R o = s (o / 3) (o % 3) 3 := ⟨_, fun _ => rfl⟩
  have hR0 : matV R = matV fun o => s (o / 3) (o % 3) 3 := by simp only [matV, hR]
  rw [← hR0]
  clear hR0
  have HR := Lib.hid hR
  clear hR
  go_enter Tryd.func9, Tryd.ntmps9
  go_wp2
  go_loopw [9] (fun v wr => ∃ i : Nat, v = .int .i64 i ∧ i ≤ 3 ∧ Hid (Mats A B (fun _ => 0) (Part s i 0 0) w.heap.size wr) ∧ Below w.heap.size w wr) (fun v _ => 3 - (intOf v).toNat)
  case atStart =>
    refine ⟨0, rfl, by omega, Lib.hid (mats_eq (C := fun _ => 0) ⟨?_, ?_, ?_, ?_⟩ (part_zero H.out)), ?_⟩
    · exact (((MatAt.new w A 26).old (below1 _ _) (by simp)).old (below1 _ _) (by simp <;> omega)).old (below1 _ _) (by simp <;> omega)
    · exact ((((MatAt.new _ B 26).at (by simp)).old (below1 _ _) (by simp)).old (below1 _ _) (by simp <;> omega))
    · exact ((MatAt.new _ (fun _ => 0) 26).at (by simp)).old (below1 _ _) (by simp)
    · exact (MatAt.new _ (fun _ => 0) 26).at (by simp)
    · exact (((below1 _ _).alloc (by simp) _).alloc (by simp <;> omega) _).alloc (by simp <;> omega) _
  case round =>
    obtain ⟨i, rfl, hi, hM, hb⟩ := hrel
    by_cases li : i < 3
    · go_wp2
      go_loopw [12] (fun v wr => ∃ j : Nat, v = .int .i64 j ∧ j ≤ 3 ∧ Hid (Mats A B (fun _ => 0) (Part s i j 0) w.heap.size wr) ∧ Below w.heap.size w wr) (fun v _ => 3 - (intOf v).toNat)
      case atStart => exact ⟨0, rfl, by omega, hM, hb⟩
      case round =>
        clear hM hb
        obtain ⟨j, rfl, hj, hM, hb⟩ := hrel
        by_cases lj : j < 3
        · go_wp2
          go_loopw [15] (fun v wr => ∃ k : Nat, v = .int .i64 k ∧ k ≤ 3 ∧ Hid (Mats A B (fun _ => 0) (Part s i j k) w.heap.size wr) ∧ Below w.heap.size w wr) (fun v _ => 3 - (intOf v).toNat)
          case atStart => exact ⟨0, rfl, by omega, hM, hb⟩
          case round =>
            clear hM hb
            obtain ⟨k, rfl, hk, hM, hb⟩ := hrel
            by_cases lk : k < 3
            · go_wp2
              obtain ⟨hA, hB, hZ, hC⟩ := hM.out
              have g1 := (hA (i * 3 + k) (by omega)).1
              have g2 := (hB (k * 3 + j) (by omega)).1
              have g3 := (hC (i * 3 + j) (by omega)).1
              have g4 := (hC (i * 3 + j) (by omega)).2
              rw [part_here s i j k lj] at g3
              have o1 := run_bin (P := Tryd.prog) .mul (H.out.mul i j k li lj lk)
              have o2 := run_bin (P := Tryd.prog) .add (H.out.add i j k li lj lk)
              clear hA hB hZ hC
              go_region
              go_wp2
              go_roundw
              case rel => exact ⟨k + 1, by go_num, by omega, Lib.hid (mats_set hM.out (by omega) (fun o => part_step s i j k o lj)), (hb.setCell (by simp <;> omega) _).drew⟩
              case measure => simp [intOf]; omega
            · obtain rfl : k = 3 := by omega
              have hM' := Lib.hid (mats_eq hM.out (fun o => part_next H.out i j o))
              clear hM
              go_wp2
              go_roundw
              case rel => exact ⟨j + 1, by go_num, by omega, hM', hb⟩
              case measure => simp [intOf]; omega
        · obtain rfl : j = 3 := by omega
          have hM' := Lib.hid (mats_eq hM.out (fun o => part_row s i o))
          clear hM
          go_wp2
          go_roundw
          case rel => exact ⟨i + 1, by go_num, by omega, hM', hb⟩
          case measure => simp [intOf]; omega
    · obtain rfl : i = 3 := by omega
      have hM9 : MatAt wr (w.heap.size + 1 + 1 + 1) R := fun o ho => by
        have e : Part s 3 0 0 o = R o := by rw [HR.out]; unfold Part; rw [if_pos (by omega)]
        rw [← e]; exact hM.out.2.2.2 o ho
      have hZ := hM.out.2.2.1
      have z0 := (hZ 0 (by omega))
      have z1 := (hZ 1 (by omega))
      have z2 := (hZ 2 (by omega))
      have z3 := (hZ 3 (by omega))
      have z4 := (hZ 4 (by omega))
      have z5 := (hZ 5 (by omega))
      have z6 := (hZ 6 (by omega))
      have z7 := (hZ 7 (by omega))
      have z8 := (hZ 8 (by omega))
      have c0 := (hM9 0 (by omega))
      have c1 := (hM9 1 (by omega))
      have c2 := (hM9 2 (by omega))
      have c3 := (hM9 3 (by omega))
      have c4 := (hM9 4 (by omega))
      have c5 := (hM9 5 (by omega))
      have c6 := (hM9 6 (by omega))
      have c7 := (hM9 7 (by omega))
      have c8 := (hM9 8 (by omega))
      clear hM9 hZ hM
      go_wp2
      exact bodyPost_ret (v := matV R) (by simp [results, Tryd.results9, go_sem, z0, z1, z2, z3, z4, z5, z6, z7, z8, matV]) rfl ⟨rfl, by (iterate 9 (with_reducible refine Below.setCell ?_ (by simp <;> omega) _)); exact hb⟩
end Go.Proofs.YthjbaeipdjoenaaDoor
