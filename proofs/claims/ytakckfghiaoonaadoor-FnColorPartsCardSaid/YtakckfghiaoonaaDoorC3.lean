/-
FnHexColor: a colour of a hexadecimal code: the walks. Condition: a sign and six hexadecimal digits.
-/
import Derived.Test.YtakckfghiaoonaaDoorC2
import Derived.Defers
import Derived.Recover
import Derived.Laws.Pointers
import Derived.BigQuiet
import Derived.Deep.QuietTactic
import Derived.StillTailTactics
namespace Go.Proofs.YtakckfghiaoonaaDoor
open Go.RowKit Go.ChangeShapes Go.Proofs.YtakckfghiaoonaaDoorW.PrintWords

theorem tri_blk {W : World} {b : Nat} {x y z : Value} {T : TypeId} (h : W.heap[b]? = some (.cells #[x, y, z] T)) :
    (W.cell? ⟨b, 0, none⟩ = some x ∧ W.cell? ⟨b, 1, none⟩ = some y ∧ W.cell? ⟨b, 2, none⟩ = some z) ∧ W.frozen? ⟨b, 0, none⟩ = false ∧ W.frozen? ⟨b, 1, none⟩ = false ∧ W.frozen? ⟨b, 2, none⟩ = false :=
  ⟨⟨blk_cell h 0, blk_cell h 1, blk_cell h 2⟩, frozen_of_row _ _ 0 _ _ h, frozen_of_row _ _ 1 _ _ h, frozen_of_row _ _ 2 _ _ h⟩
theorem tri_done {w W : World} {b : Nat} {x y z : Value} {T : TypeId} (v0 v1 v2 : Value) (h : W.heap[b]? = some (.cells #[x, y, z] T)) (hB : Below w.heap.size w W) (hb : w.heap.size ≤ b) :
    ∃ F, F = (((W.setCell ⟨b, 0, none⟩ v0).setCell ⟨b, 1, none⟩ v1).setCell ⟨b, 2, none⟩ v2) ∧ F.cell? ⟨b, 0, none⟩ = some v0 ∧ F.cell? ⟨b, 1, none⟩ = some v1 ∧ F.cell? ⟨b, 2, none⟩ = some v2 ∧ Below w.heap.size w F := by
  obtain ⟨⟨k0, k1, k2⟩, _⟩ := tri_blk h
  obtain ⟨r0, r1, r2⟩ := three_sets W b v0 v1 v2 x y z k0 k1 k2 _ rfl
  exact ⟨_, rfl, r0, r1, r2, ((hB.setCell hb _).setCell hb _).setCell hb _⟩
set_option maxRecDepth 100000 in
set_option maxHeartbeats 8000000 in
theorem code_calls (up : Bool) (p0 p1 p2 p3 p4 p5 : Nat) (h0 : p0 < 16) (h1 : p1 < 16) (h2 : p2 < 16) (h3 : p3 < 16) (h4 : p4 < 16) (h5 : p5 < 16) (v0 v1 v2 : Nat) (e0 : p0 * 16 + p1 = v0) (e1 : p2 * 16 + p3 = v1) (e2 : p4 * 16 + p5 = v2) (w : World) :
    Calls Tryd.prog 17 #[.string (bs (35 :: six up p0 p1 p2 p3 p4 p5))] w fun e w' => e = .returned (.tuple #[rgb32 (c32 v0) (c32 v1) (c32 v2), .nilIface]) ∧ Below w.heap.size w w' := by
  have k1 := quo32 (part_of (show v0 < 256 by omega))
  have k2 := quo32 (part_of (show v1 < 256 by omega))
  have k3 := quo32 (part_of (show v2 < 256 by omega))
  have HS := Lib.hid (fun W => string_calls up p0 p1 p2 p3 p4 p5 h0 h1 h2 h3 h4 h5 v0 v1 v2 e0 e1 e2 W)
  clear h0 h1 h2 h3 h4 h5 e0 e1 e2
  have hsz : (bs (35 :: six up p0 p1 p2 p3 p4 p5)).size = 7 := rfl
  have hx : (bs (35 :: six up p0 p1 p2 p3 p4 p5)).extract 1 7 = bs (six up p0 p1 p2 p3 p4 p5) := by
    rw [bs_extract]; rfl
  have hc : (((bs (35 :: six up p0 p1 p2 p3 p4 p5))[0]'(by rw [hsz]; decide)).toNat : Int) = 35 := rfl
  generalize bs (six up p0 p1 p2 p3 p4 p5) = T at hx HS
  generalize bs (35 :: six up p0 p1 p2 p3 p4 p5) = S at hsz hx hc
  go_enter Tryd.func17, Tryd.ntmps17
  go_wp2_with (go_at_call 24; refine (HS.out _).mono ?_; rintro e w1 ⟨g, rfl, g0, g1, g2, hb⟩)
  have hs : ((w.alloc (.cells #[.float .f32 0, .float .f32 0, .float .f32 0] 38)).alloc (.cells #[.float .f32 0, .float .f32 0, .float .f32 0] 38)).heap.size = w.heap.size + 1 + 1 := by simp
  have hblk : w1.heap[w.heap.size]? = some (.cells #[.float .f32 0, .float .f32 0, .float .f32 0] 38) := (hb.block w.heap.size (by rw [hs]; omega)).trans ((Below.heap_alloc _ _ _ (by simp)).trans (blk_new w _))
  have hB : Below w.heap.size w w1 := (below_alloc (below_alloc (Below.refl _ _) _) _).trans (hb.mono (by rw [hs]; omega))
  obtain ⟨⟨d0, d1, d2⟩, f0, f1, f2⟩ := tri_blk hblk
  have HB := Lib.hid hB
  have HK := Lib.hid hblk
  clear hb hs hblk hB HS hc hx
  go_still_tail 16, (by kernel_rfl)
  change wpList _ _ _ _ _ w1.drew
  go_wp2_with fail
  obtain ⟨F, hF, r0, r1, r2, hBF⟩ := tri_done (.float .f32 (c32 v0)) (.float .f32 (c32 v1)) (.float .f32 (c32 v2)) HK.out HB.out (Nat.le_refl _)
  rw [← hF]
  refine bodyPost_ret (v := .tuple #[rgb32 (c32 v0) (c32 v1) (c32 v2), .nilIface]) ?_ rfl ⟨rfl, hBF.drew⟩
  simp [results, Tryd.results17, go_sem, r0, r1, r2]
end Go.Proofs.YtakckfghiaoonaaDoor
