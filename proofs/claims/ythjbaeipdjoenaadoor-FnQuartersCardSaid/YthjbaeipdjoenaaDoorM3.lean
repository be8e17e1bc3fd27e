/-
Contract of spec.NearMatrix: it answers true where Near does of each pair of entries. Condition: that.
-/
import Derived.Test.YthjbaeipdjoenaaDoorM1
import Derived.Deep.QuietTactic
import Derived.BigQuiet
namespace Go.Proofs.YthjbaeipdjoenaaDoor
open Go.RowKit Fl

/-- Near says yes of two words. -/
abbrev NearT (x y : Nat) : Prop := ∀ w : World, Calls Tryd.prog 14 #[.float .f64 x, .float .f64 y] w fun e w' => e = .returned (.bool true) ∧ w = w'
theorem NearT.same {x : Nat} {v M E : Rat} (hx : Ap x v M E) (h : M + E ≤ 1000000000000) : NearT x x := fun w => near_same w hx h

def Two (X Y : Nat → Nat) (n : Nat) (w : World) : Prop := MatAt w n X ∧ MatAt w (n + 1) Y
theorem Two.kept {X Y : Nat → Nat} {n : Nat} {w w' : World} (h : Two X Y n w) (e : ∀ a, w'.cell? a = w.cell? a) (f : ∀ a, w'.frozen? a = w.frozen? a) : Two X Y n w' :=
  ⟨fun o ho => ⟨(e _).trans (h.1 o ho).1, (f _).trans (h.1 o ho).2⟩, fun o ho => ⟨(e _).trans (h.2 o ho).1, (f _).trans (h.2 o ho).2⟩⟩

theorem nearMatrix (X Y : Nat → Nat) (h : ∀ o, o < 9 → NearT (X o) (Y o)) (w : World) :
    Calls Tryd.prog 7 #[matV X, matV Y] w fun e w' => e = .returned (.bool true) ∧ Below w.heap.size w w' := by
  have H := Lib.hid h
  clear h
  go_enter Tryd.func7, Tryd.ntmps7
  go_wp2
  go_loopw [7] (fun v wr => ∃ i : Nat, v = .int .i64 i ∧ i ≤ 3 ∧ Hid (Two X Y w.heap.size wr) ∧ Below w.heap.size w wr) (fun v _ => 3 - (intOf v).toNat)
  case atStart =>
    refine ⟨0, rfl, by omega, Lib.hid ⟨?_, ?_⟩, ?_⟩
    · exact (MatAt.new w X 26).old (below1 _ _) (by simp)
    · exact (MatAt.new _ Y 26).at (by simp)
    · exact (below1 _ _).alloc (by simp) _
  case round =>
    obtain ⟨i, rfl, hi, hM, hb⟩ := hrel
    by_cases li : i < 3
    · go_wp2
      go_loopw [10] (fun v wr => ∃ j : Nat, v = .int .i64 j ∧ j ≤ 3 ∧ Hid (Two X Y w.heap.size wr) ∧ Below w.heap.size w wr) (fun v _ => 3 - (intOf v).toNat)
      case atStart => exact ⟨0, rfl, by omega, hM, hb⟩
      case round =>
        clear hM hb
        obtain ⟨j, rfl, hj, hM, hb⟩ := hrel
        by_cases lj : j < 3
        · have g1 := (hM.out.1 (i * 3 + j) (by omega)).1
          have g2 := (hM.out.2 (i * 3 + j) (by omega)).1
          have K := Lib.hid (H.out (i * 3 + j) (by omega))
          go_wp2
          go_quiet ((go_at_call 14; exact Calls.quiet_of_same ((K.out _).mono fun e w' ⟨he, hw⟩ => ⟨he, hw.symm⟩)))
          go_wp2
          exact ⟨⟨j + 1, by go_num, by omega, Lib.hid (hM.out.kept (fun _ => rfl) (fun _ => rfl)), ⟨hb.os, hb.tape, hb.output, hb.size, hb.block⟩⟩, by simp [intOf]; omega⟩
        · obtain rfl : j = 3 := by omega
          go_wp2
          go_roundw
          case rel => exact ⟨i + 1, by go_num, by omega, hM, hb⟩
          case measure => simp [intOf]; omega
    · obtain rfl : i = 3 := by omega
      go_wp2
      go_ret
      exact ⟨rfl, hb⟩
end Go.Proofs.YthjbaeipdjoenaaDoor
