/-
FnCollected: impl.Collected: the walk. Conditions: every token has its effect; some page is collected.
-/
import Derived.Test.YthfihamhkhnckaaDoorK9
import Derived.Test.YthfihamhkhnckaaDoorPFnCollectedx5
namespace Go.Proofs.YthfihamhkhnckaaDoor
open Go.RowKit Go.ChangeShapes Go.Proofs.YthfihamhkhnckaaDoorW.PrintWords

set_option maxHeartbeats 4000000
theorem three_blocks (w : World) (o1 o2 o3 : Obj) : (((w.alloc o1).alloc o2).alloc o3).heap[w.heap.size]? = some o1 ∧ (((w.alloc o1).alloc o2).alloc o3).heap[w.heap.size + 1]? = some o2 ∧ (((w.alloc o1).alloc o2).alloc o3).heap[w.heap.size + 1 + 1]? = some o3 := by
  have h3 := blk_new ((w.alloc o1).alloc o2) o3
  have h2 := blk_new (w.alloc o1) o2
  have h1 := blk_new w o1
  simp only [World.size_alloc] at h1 h2 h3
  refine ⟨?_, ?_, h3⟩
  · rw [Below.heap_alloc _ _ _ (by simp only [World.size_alloc]; omega), Below.heap_alloc _ _ _ (by simp only [World.size_alloc]; omega)]; exact h1
  · rw [Below.heap_alloc _ _ _ (by simp only [World.size_alloc]; omega)]; exact h2
theorem drew_size (w : World) (n : Nat) : (w.drewN n).heap.size = w.heap.size := rfl
theorem few_calls (n : Nat) (hn : n ≤ 1000) (l : List ByteArray) (hl : l.length ≤ 100) (A : Option Addr) (cap : Nat) (hcap : l.length ≤ cap) (w : World) (hr : Kd.C Kd.string w A l.length l) :
    Calls Tryd.prog 16 #[.int .i64 (n : Int), .slice A l.length cap] w fun e w' => e = .returned (.bool true) ∧ Below w.heap.size w w' ∧ w'.heap.size = w.heap.size := by
  refine (PFnCollected.impl_few.calls (n : Int) A cap l true w hr hcap ?_).mono ?_
  · unfold PFnCollected.impl_few.f
    rw [if_pos (by omega), if_pos (by omega), decide_eq_true (by omega)]
  · rintro e w' ⟨rfl, hd⟩
    obtain ⟨m, rfl⟩ := hd.out
    exact ⟨rfl, pw_below_drewN (Below.refl _ _) m, drew_size w m⟩
set_option maxRecDepth 100000 in
theorem impl_calls (n : Nat) (hn : n ≤ 1000) (M : Nat → List Int) (ts : List (List UInt8)) (hts : ts.length ≤ 100) (hE : Run n ts M) (hne : M ts.length ≠ []) (A : Option Addr) (cap : Nat) (hcap : ts.length ≤ cap) (w : World) (hT : Toks ts A w)
    (hr : Kd.C Kd.string w A ts.length (ts.map bs)) :
    Calls Tryd.prog 8 #[.int .i64 (n : Int), .slice A ts.length cap] w fun e w' => ∃ v, e = .returned (.tuple #[v, .bool true]) ∧ w'.ownsRow w.heap.size 3 1 v (M ts.length).length (nums .i64 (M ts.length)) ∧ Below w.heap.size w w' := by
  have hmf : ∀ (fn : Fn) (first cap : Array Value) (w : World), (Instr.makeFunc fn first cap).run Tryd.prog w = .ok (.func fn first cap) w := fun _ _ _ _ => rfl
  have HFew : ∀ W, Below w.heap.size w W → Calls Tryd.prog 16 #[.int .i64 (n : Int), .slice A ts.length cap] W fun e w' => e = .returned (.bool true) ∧ Below W.heap.size W w' ∧ w'.heap.size = W.heap.size := fun W hW => by
    have := few_calls n hn (ts.map bs) (by simpa using hts) A cap (by simpa using hcap) W (by rw [List.length_map]; exact Kd.C_below hr hW)
    rwa [List.length_map] at this
  have H := fun (W w1 : World) (hW : W = ((w.alloc (.cells #[.int .i64 (n : Int)] 3)).alloc (.cells #[.slice A ts.length cap] 22)).alloc (.cells #[.slice none 0 0] 24)) (hb1 : Below W.heap.size W w1) (hs1 : w1.heap.size = W.heap.size) => (by
    subst hW
    obtain ⟨t1, t2, t3⟩ := three_blocks w (.cells #[.int .i64 (n : Int)] 3) (.cells #[.slice A ts.length cap] 22) (.cells #[.slice none 0 0] 24)
    have hB3 : Below w.heap.size w (((w.alloc (.cells #[.int .i64 (n : Int)] 3)).alloc (.cells #[.slice A ts.length cap] 22)).alloc (.cells #[.slice none 0 0] 24)) := (((Below.refl _ w).alloc (Nat.le_refl _) _).alloc (by simp only [World.size_alloc]; omega) _).alloc (by simp only [World.size_alloc]; omega) _
    have hb2 := below_alloc hb1 (.cells #[.nilIface] 40)
    have hB4 := hB3.trans (hb2.mono hB3.size)
    have hsz : w1.heap.size = w.heap.size + 1 + 1 + 1 := by rw [hs1]; simp only [World.size_alloc]
    refine (calm_calls n M ts hts hE hne A cap w.heap.size (w.heap.size + 1) (w.heap.size + 1 + 1) w1.heap.size (.slice none 0 0) (w1.alloc (.cells #[.nilIface] 40)) (hT.below hB4) (pw_cell_below hb2 (blk_cell t1 0)) (pw_cell_below hb2 (blk_cell t2 0)) ((hb2.block _ (blk_lt t3)).trans t3) (blk_new _ _) (by omega)).mono ?_
    rintro e w2 ⟨he, A2, cv, q1, q2, q3, hK⟩
    have hs := hK.size
    rw [World.size_alloc] at hs
    refine ⟨he, A2, cv, q1, q2, own_weaken q3 (by rw [World.size_alloc]; omega), ⟨hK.os.trans hB4.os, hK.tape.trans hB4.tape, hK.output.trans hB4.output, by omega, fun j hj => ?_⟩⟩
    exact (hK.block j (by rw [World.size_alloc]; omega) (by omega) (by omega)).trans (hB4.block j hj)
    : Calls Tryd.prog 17 #[.func (.func 18) #[] #[.pointer (some ⟨w.heap.size, 0, none⟩), .pointer (some ⟨w.heap.size + 1, 0, none⟩), .pointer (some ⟨w.heap.size + 1 + 1, 0, none⟩), .pointer (some ⟨w1.heap.size, 0, none⟩)]] (w1.alloc (.cells #[.nilIface] 40)) fun e w2 => e = .returned (.bool true) ∧ ∃ A2 cv, w2.heap[w.heap.size + 1 + 1]? = some (.cells #[.slice A2 (M ts.length).length cv] 24 (0, 0)) ∧ w2.cell? ⟨w1.heap.size, 0, none⟩ = some .nilIface ∧ w2.ownsRow (w.heap.size + 1 + 1 + 1) 3 1 (.slice A2 (M ts.length).length cv) (M ts.length).length (nums .i64 (M ts.length)) ∧ Below w.heap.size w w2)
  have HC := Lib.hid (fun w1 => H _ w1 rfl)
  have HF := Lib.hid (HFew _ ((((Below.refl _ w).alloc (Nat.le_refl _) (.cells #[.int .i64 (n : Int)] 3)).alloc (by simp only [World.size_alloc]; omega) (.cells #[.slice A ts.length cap] 22)).alloc (by simp only [World.size_alloc]; omega) (.cells #[.slice none 0 0] 24)))
  clear H HFew hT hr hE hne
  generalize M ts.length = L at *
  go_enter Tryd.func8, Tryd.ntmps8
  go_wp2_with (first
    | (go_at_call 16; refine HF.out.mono ?_; rintro e w1 ⟨rfl, hb1, hs1⟩; have HC1 := Lib.hid (HC.out w1 hb1 hs1); have HS1 := Lib.hid hs1; clear hb1 hs1)
    | (go_at_call 17; refine HC1.out.mono ?_; rintro e w2 ⟨rfl, A2, cv, q1, q2, q3, hB⟩; have k2 := blk_cell q1 0; have f2 := blk_frozen q1 0; have Q1 := Lib.hid q1; have Q3 := Lib.hid q3; clear q1 q3))
  have r0 : (w2.setCell ⟨w.heap.size + 1 + 1, 0, none⟩ (.slice A2 L.length cv)).cell? ⟨w.heap.size + 1 + 1, 0, none⟩ = some (.slice A2 L.length cv) := World.cell?_setCell_same _ _ _ k2
  refine bodyPost_ret (v := .tuple #[.slice A2 L.length cv, .bool true]) ?_ rfl ⟨_, rfl, own_weaken (own_setCell Q3.out (fun h => ?_) _) (by omega), hB.setCell (p := ⟨w.heap.size + 1 + 1, 0, none⟩) (by show w.heap.size ≤ w.heap.size + 1 + 1; omega) _⟩
  · simp [results, Tryd.results8, go_sem, r0]
  · have := own_base Q3.out _ h.symm
    simp at this
    omega
end Go.Proofs.YthfihamhkhnckaaDoor
