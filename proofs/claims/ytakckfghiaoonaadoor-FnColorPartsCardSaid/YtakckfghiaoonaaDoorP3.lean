/-
FnColorParts: a colour of three numbers read: the walks. Conditions: three of the five texts; what the listed variables hold.
-/
import Derived.Test.YtakckfghiaoonaaDoorP2
namespace Go.Proofs.YtakckfghiaoonaaDoor
open Go.RowKit Go.ChangeShapes Go.Proofs.YtakckfghiaoonaaDoorW.PrintWords

/-- The five texts; their words of 64 and of 32 bits. -/
def qt : Nat → List UInt8
  | 0 => [48]
  | 1 => [48, 46, 50, 53]
  | 2 => [48, 46, 53]
  | 3 => [48, 46, 55, 53]
  | _ => [49]
def qw : Nat → Nat
  | 0 => 0
  | 1 => 4598175219545276416
  | 2 => 4602678819172646912
  | 3 => 4604930618986332160
  | _ => 4607182418800017408
def qh : Nat → Nat
  | 0 => 0
  | 1 => 1048576000
  | 2 => 1056964608
  | 3 => 1061158912
  | _ => 1065353216
structure QtOk (k : Nat) : Prop where
  run : ∀ w, Vars w → Calls Tryd.prog 23 #[.string (bs (qt k)), .int .i64 32] w fun e w' => e = .returned (.tuple #[.float .f64 (qw k), .nilIface]) ∧ w = w'
  low : (FloatKind.f64.format.order (qw k) 0 == some Ordering.lt) = false
  high : (FloatKind.f64.format.order (qw k) 4607182418800017408 == some Ordering.gt) = false
  down : floatToFloatBits .f64 (qw k) .f32 = some (qh k)
  up : floatToFloatBits .f32 (qh k) .f64 = some (qw k)
  clean : (32 : UInt8) ∉ qt k
  short : (qt k).length ≤ 4
theorem qt_ok (k : Nat) (hk : k < 5) : QtOk k := by
  match k, hk with
  | 0, _ => exact ⟨fun w h => parse_0 w h, by decide +kernel, by decide +kernel, by decide +kernel, by decide +kernel, by decide, by decide⟩
  | 1, _ => exact ⟨fun w h => parse_1 w h, by decide +kernel, by decide +kernel, by decide +kernel, by decide +kernel, by decide, by decide⟩
  | 2, _ => exact ⟨fun w h => parse_2 w h, by decide +kernel, by decide +kernel, by decide +kernel, by decide +kernel, by decide, by decide⟩
  | 3, _ => exact ⟨fun w h => parse_3 w h, by decide +kernel, by decide +kernel, by decide +kernel, by decide +kernel, by decide, by decide⟩
  | 4, _ => exact ⟨fun w h => parse_4 w h, by decide +kernel, by decide +kernel, by decide +kernel, by decide +kernel, by decide, by decide⟩
/-- The text of three numbers. -/
def three (a b c : Nat) : List UInt8 := qt a ++ 32 :: (qt b ++ 32 :: qt c)
theorem three_split {a b c : Nat} (ha : QtOk a) (hb : QtOk b) (hc : QtOk c) : splitL 32 (three a b c) = [qt a, qt b, qt c] := by
  unfold three
  rw [splitL_at 32 _ _ ha.clean, splitL_at 32 _ _ hb.clean, splitL_none 32 _ hc.clean]
theorem three_len {a b c : Nat} (ha : QtOk a) (hb : QtOk b) (hc : QtOk c) : (three a b c).length ≤ 1000000 := by
  have h1 := ha.short
  have h2 := hb.short
  have h3 := hc.short
  unfold three
  simp only [List.length_append, List.length_cons]
  omega
/-- A function comes to a colour at a text, where the listed variables hold what is listed. -/
def GoodV (F : Nat) (S : ByteArray) (x y z : Nat) : Prop := ∀ w, Vars w → Calls Tryd.prog F #[.string S] w fun e w' => e = .returned (.tuple #[rgb32 x y z, .nilIface]) ∧ Below w.heap.size w w'
set_option maxRecDepth 100000 in
set_option maxHeartbeats 8000000 in
theorem parse_three {a b c : Nat} (ha : QtOk a) (hb : QtOk b) (hc : QtOk c) : GoodV 13 (bs (three a b c)) (qh a) (qh b) (qh c) := by
  intro w hV
  have HS := fun W => split_walk 32 (three a b c) (three_len ha hb hc) W
  rw [three_split ha hb hc] at HS
  have HS := Lib.hid HS
  have HV := Lib.hid hV
  have H1 := Lib.hid ha.run
  have H2 := Lib.hid hb.run
  have H3 := Lib.hid hc.run
  have a1 := ha.low
  have a2 := ha.high
  have b1 := hb.low
  have b2 := hb.high
  have c1 := hc.low
  have c2 := hc.high
  have k1 := fun (w : World) => run_convert_float_float (P := Tryd.prog) w 24 36 .f64 .f32 _ _ (by kernel_rfl) (by kernel_rfl) ha.down
  have k2 := fun (w : World) => run_convert_float_float (P := Tryd.prog) w 24 36 .f64 .f32 _ _ (by kernel_rfl) (by kernel_rfl) hb.down
  have k3 := fun (w : World) => run_convert_float_float (P := Tryd.prog) w 24 36 .f64 .f32 _ _ (by kernel_rfl) (by kernel_rfl) hc.down
  have hv : strsV [qt a, qt b, qt c] = [.string (bs (qt a)), .string (bs (qt b)), .string (bs (qt c))] := rfl
  rw [hv] at HS
  clear ha hb hc hv hV
  generalize bs (three a b c) = S at HS
  generalize bs (qt a) = Sa at HS H1
  generalize bs (qt b) = Sb at HS H2
  generalize bs (qt c) = Sc at HS H3
  generalize qw a = wa at *
  generalize qw b = wb at *
  generalize qw c = wc at *
  generalize qh a = ra at *
  generalize qh b = rb at *
  generalize qh c = rc at *
  have tk1 : True := trivial
  have tk2 : True := trivial
  go_enter Tryd.func13, Tryd.ntmps13
  go_wp2_with (first
    | (go_at_call 20; refine (HS.out _).mono ?_; rintro e w1 ⟨g, cap, rfl, hO, hb⟩
       have z0 : w1.cell? ⟨g, 0, none⟩ = some (.string Sa) := hO.cellAt 0 (by simp)
       have z1 : w1.cell? ⟨g, 1, none⟩ = some (.string Sb) := hO.cellAt 1 (by simp)
       have z2 : w1.cell? ⟨g, 2, none⟩ = some (.string Sc) := hO.cellAt 2 (by simp)
       have hs : ((w.alloc Z3).alloc Z3).heap.size = w.heap.size + 1 + 1 := by simp
       have hB1 : Below w.heap.size w w1 := (below_alloc (below_alloc (Below.refl _ _) _) _).trans (hb.mono (by rw [hs]; omega))
       have hr : w1.heap[w.heap.size]? = some Z3 := (hb.block w.heap.size (by rw [hs]; omega)).trans ((Below.heap_alloc _ _ _ (by simp)).trans (blk_new w _))
       have hc : w1.heap[w.heap.size + 1]? = some Z3 := (hb.block (w.heap.size + 1) (by rw [hs]; omega)).trans (by have := blk_new (w.alloc Z3) Z3; rw [World.size_alloc] at this; exact this)
       have hle : w.heap.size ≤ w.heap.size + 1 := Nat.le_succ _
       obtain ⟨⟨d0, d1, d2⟩, f0, f1, f2⟩ := tri_blk hr
       obtain ⟨⟨d3, d4, d5⟩, f3, f4, f5⟩ := tri_blk hc
       have hv1 := HV.out.below hB1
       have hv2 := fun v => HV.out.below (hB1.setCell (p := ⟨w.heap.size + 1, 0, none⟩) hle v)
       have hv3 := fun v v' => HV.out.below ((hB1.setCell (p := ⟨w.heap.size + 1, 0, none⟩) hle v).setCell (p := ⟨w.heap.size + 1, 1, none⟩) hle v')
       clear hO hs hb)
    | (go_at_call 23; have _t := tk1; with_reducible refine (H1.out _ hv1).mono ?_; rintro e w2 ⟨rfl, rfl⟩; clear tk1 _t hv1)
    | (go_at_call 23; have _t := tk2; with_reducible refine (H2.out _ (hv2 _)).mono ?_; rintro e w3 ⟨rfl, rfl⟩; clear tk2 _t hv2)
    | (go_at_call 23; with_reducible refine (H3.out _ (hv3 _ _)).mono ?_; rintro e w4 ⟨rfl, rfl⟩; clear hv3))
  have hne : w.heap.size ≠ w.heap.size + 1 := by omega
  have hrG : (((w1.setCell ⟨w.heap.size + 1, 0, none⟩ (.float .f32 ra)).setCell ⟨w.heap.size + 1, 1, none⟩ (.float .f32 rb)).setCell ⟨w.heap.size + 1, 2, none⟩ (.float .f32 rc)).heap[w.heap.size]? = some Z3 := by
    rw [heap_setCell_other _ _ _ _ hne, heap_setCell_other _ _ _ _ hne, heap_setCell_other _ _ _ _ hne]
    exact hr
  obtain ⟨F, hF, r0, r1, r2, hBF⟩ := tri_done (.float .f32 ra) (.float .f32 rb) (.float .f32 rc) hrG (((hB1.setCell hle _).setCell hle _).setCell hle _) (Nat.le_refl _)
  rw [← hF]
  refine bodyPost_ret (v := .tuple #[rgb32 ra rb rc, .nilIface]) ?_ rfl ⟨rfl, hBF⟩
  simp [results, Tryd.results13, go_sem, r0, r1, r2]
set_option maxHeartbeats 1000000 in
theorem closure_ofv (S : ByteArray) (x y z : Nat) (hg : GoodV 13 S x y z) (b0 b1 b2 : Nat) (w : World) (hV : Vars w)
    (c0 : w.cell? ⟨b0, 0, none⟩ = some (.string S)) (h1 : w.heap[b1]? = some Z3) (h2 : w.heap[b2]? = some (.cells #[.nilIface] 40)) (h12 : b1 ≠ b2) :
    Calls Tryd.prog 12 #[.pointer (some ⟨b0, 0, none⟩), .pointer (some ⟨b1, 0, none⟩), .pointer (some ⟨b2, 0, none⟩)] w fun e w' => e = .returned (.tuple #[]) ∧ Held x y z b1 b2 w w' := by
  have HP := Lib.hid (hg w hV)
  have l1 := lt_of_block h1
  have l2 := lt_of_block h2
  go_enter Tryd.func12, Tryd.ntmps12
  go_wp2_with (go_at_call 13; refine HP.out.mono ?_; rintro e w1 ⟨rfl, hb⟩; have m1 := (hb.block b1 l1).trans h1; have m2 := (hb.block b2 l2).trans h2; obtain ⟨⟨k0, k1, k2⟩, f0, f1, f2⟩ := tri_blk m1; have n0 := blk_cell m2 0; have n1 := frozen_of_row _ _ 0 _ _ m2)
  go_end0
  have e0 : ∀ i j : Nat, (⟨b1, i, none⟩ : Addr) ≠ ⟨b2, j, none⟩ := fun i j h => by cases h; exact h12 rfl
  obtain ⟨r0, r1, r2⟩ := three_sets w1 b1 (.float .f32 x) (.float .f32 y) (.float .f32 z) _ _ _ k0 k1 k2 _ rfl
  refine ⟨rfl, ⟨?_, ?_, ?_⟩, ?_, hb.os, hb.tape, hb.output, by simpa using hb.size, fun j hj n1 n2 => ?_⟩
  · rw [World.cell?_setCell_other _ _ _ _ (e0 0 0).symm]; exact r0
  · rw [World.cell?_setCell_other _ _ _ _ (e0 1 0).symm]; exact r1
  · rw [World.cell?_setCell_other _ _ _ _ (e0 2 0).symm]; exact r2
  · exact World.cell?_setCell_same _ _ _ ((World.cell?_setCell_other _ _ _ _ (e0 2 0)).trans ((World.cell?_setCell_other _ _ _ _ (e0 1 0)).trans ((World.cell?_setCell_other _ _ _ _ (e0 0 0)).trans n0)))
  · rw [heap_setCell_other _ _ _ _ n2, heap_setCell_other _ _ _ _ n1, heap_setCell_other _ _ _ _ n1, heap_setCell_other _ _ _ _ n1]
    exact hb.block j hj
theorem calm_ofv (S : ByteArray) (x y z : Nat) (hg : GoodV 13 S x y z) (b0 b1 b2 : Nat) (w : World) (hV : Vars w)
    (c0 : w.cell? ⟨b0, 0, none⟩ = some (.string S)) (h1 : w.heap[b1]? = some Z3) (h2 : w.heap[b2]? = some (.cells #[.nilIface] 40)) (h12 : b1 ≠ b2) :
    Calls Tryd.prog 11 #[.func (.func 12) #[] #[.pointer (some ⟨b0, 0, none⟩), .pointer (some ⟨b1, 0, none⟩), .pointer (some ⟨b2, 0, none⟩)]] w fun e w' => e = .returned (.bool true) ∧ Held x y z b1 b2 w w' := by
  have hmf : ∀ (fn : Fn) (first cap : Array Value) (w : World), (Instr.makeFunc fn first cap).run Tryd.prog w = .ok (.func fn first cap) w := fun _ _ _ _ => rfl
  have l1 := lt_of_block h1
  have l2 := lt_of_block h2
  have ba := (Below.refl _ w).alloc (Nat.le_refl _) (.cells #[.bool false] 4)
  have H := Lib.hid (closure_ofv S x y z hg b0 b1 b2 (w.alloc (.cells #[.bool false] 4)) (hV.below ba) (pw_cell_below ba c0) ((ba.block b1 l1).trans h1) ((ba.block b2 l2).trans h2) h12)
  have hsz : (w.alloc (.cells #[.bool false] 4)).heap.size = w.heap.size + 1 := by simp
  clear ba c0 h1 h2
  go_enter_defers Tryd.func11, Tryd.ntmps11
  go_wp2_with (go_at_call 12; refine H.out.mono ?_; rintro e w1 ⟨rfl, ⟨q0, q1, q2⟩, q3, hK⟩
               have hblk : w1.heap[w.heap.size]? = (w.alloc (.cells #[.bool false] 4)).heap[w.heap.size]? := hK.block _ (by simp) (by omega) (by omega)
               have kc : w1.cell? ⟨w.heap.size, 0, none⟩ = some (.bool false) := (World.cell?_of_block hblk).trans (by simp [World.cell?, World.alloc, -World.alloc_eq])
               have kf : w1.frozen? ⟨w.heap.size, 0, none⟩ = false := (World.frozen?_of_block hblk).trans (by simp [World.frozen?, World.alloc, -World.alloc_eq])
               clear hblk)
  refine leaves_cons (f := 19) (args := #[.pointer (some ⟨w.heap.size, 0, none⟩)]) (by simp) (by simp [go_sem]) ?_
  refine (catch_idle ⟨w.heap.size, 0, none⟩ _).mono ?_
  rintro e u' w'' ⟨rfl, rfl, rfl⟩
  have k2 : (w1.setCell ⟨w.heap.size, 0, none⟩ (.bool true)).cell? ⟨w.heap.size, 0, none⟩ = some (.bool true) := World.cell?_setCell_same _ _ _ kc
  have hs1 := hK.size
  rw [hsz] at hs1
  have ne1 : ∀ i : Nat, (⟨w.heap.size, 0, none⟩ : Addr) ≠ ⟨b1, i, none⟩ := fun i h => by cases h; omega
  have main : Held x y z b1 b2 w (w1.setCell ⟨w.heap.size, 0, none⟩ (.bool true)) := by
    refine ⟨⟨?_, ?_, ?_⟩, ?_, hK.os, hK.tape, hK.output, by simp; omega, fun j hj n1 n2 => ?_⟩
    · rw [World.cell?_setCell_other _ _ _ _ (ne1 0)]; exact q0
    · rw [World.cell?_setCell_other _ _ _ _ (ne1 1)]; exact q1
    · rw [World.cell?_setCell_other _ _ _ _ (ne1 2)]; exact q2
    · rw [World.cell?_setCell_other _ _ _ _ (by intro h; cases h; omega)]; exact q3
    · rw [heap_setCell_other _ _ _ _ (by show j ≠ w.heap.size; omega), hK.block j (by omega) n1 n2]
      exact Below.heap_alloc w _ j hj
  generalize w1.setCell ⟨w.heap.size, 0, none⟩ (.bool true) = W at k2 main ⊢
  simp [Leaves, settle, results, Tryd.results11, go_sem, k2]
  exact main
set_option maxRecDepth 100000 in
set_option maxHeartbeats 4000000 in
theorem impl_ofv (S : ByteArray) (x y z X Y Z : Nat) (hg : GoodV 13 S x y z) (hx : floatToFloatBits .f32 x .f64 = some X) (hy : floatToFloatBits .f32 y .f64 = some Y) (hz : floatToFloatBits .f32 z .f64 = some Z) (w : World) (hV : Vars w) :
    Calls Tryd.prog 6 #[.string S] w fun e w' => e = .returned (.tuple #[rgb X Y Z, .bool true]) ∧ Below w.heap.size w w' := by
  have hmf : ∀ (fn : Fn) (first cap : Array Value) (w : World), (Instr.makeFunc fn first cap).run Tryd.prog w = .ok (.func fn first cap) w := fun _ _ _ _ => rfl
  have H := fun (W : World) (hW : W = (((w.alloc (.cells #[.string S] 9)).alloc Z6).alloc Z3).alloc (.cells #[.nilIface] 40)) => (by
    subst hW
    obtain ⟨t1, t2, t3, t4⟩ := four_blocks w (.cells #[.string S] 9) Z6 Z3 (.cells #[.nilIface] 40)
    refine (calm_ofv S x y z hg w.heap.size (w.heap.size + 1 + 1) (w.heap.size + 1 + 1 + 1) _ (hV.below (below_alloc (below_alloc (below_alloc (below_alloc (Below.refl _ _) _) _) _) _)) (blk_cell t1 0) t3 t4 (by omega)).mono ?_
    rintro e w1 ⟨he, q, q3, hK⟩
    have hs := hK.size
    simp only [World.size_alloc] at hs
    have t2' := (hK.block (w.heap.size + 1) (by simp only [World.size_alloc]; omega) (by omega) (by omega)).trans t2
    exact ⟨he, q, q3, t2', ⟨hK.os, hK.tape, hK.output, by omega, fun j hj => (hK.block j (by simp only [World.size_alloc]; omega) (by omega) (by omega)).trans (by rw [Below.heap_alloc _ _ _ (by simp only [World.size_alloc]; omega), Below.heap_alloc _ _ _ (by simp only [World.size_alloc]; omega), Below.heap_alloc _ _ _ (by simp only [World.size_alloc]; omega), Below.heap_alloc _ _ _ hj])⟩⟩
    : Calls Tryd.prog 11 #[.func (.func 12) #[] #[.pointer (some ⟨w.heap.size, 0, none⟩), .pointer (some ⟨w.heap.size + 1 + 1, 0, none⟩), .pointer (some ⟨w.heap.size + 1 + 1 + 1, 0, none⟩)]] W fun e w1 => e = .returned (.bool true) ∧ (w1.cell? ⟨w.heap.size + 1 + 1, 0, none⟩ = some (.float .f32 x) ∧ w1.cell? ⟨w.heap.size + 1 + 1, 1, none⟩ = some (.float .f32 y) ∧ w1.cell? ⟨w.heap.size + 1 + 1, 2, none⟩ = some (.float .f32 z)) ∧ w1.cell? ⟨w.heap.size + 1 + 1 + 1, 0, none⟩ = some .nilIface ∧ w1.heap[w.heap.size + 1]? = some Z6 ∧ Below w.heap.size w w1)
  have H' := Lib.hid (H _ rfl)
  have HS := Lib.hid (fun W => shade_any x y z X Y Z hx hy hz W)
  clear H hg hx hy hz hV
  go_enter Tryd.func6, Tryd.ntmps6
  go_wp2_with (first
    | (go_at_call 11; refine H'.out.mono ?_; rintro e w1 ⟨rfl, ⟨q0, q1, q2⟩, q3, hblk, hB⟩)
    | (go_at_call 14; refine (HS.out _).mono ?_; rintro e w2 ⟨rfl, hb2⟩; have m2 := (hb2.block _ (lt_of_block hblk)).trans hblk; have hB2 := hB.trans (hb2.mono hB.size); obtain ⟨⟨k0, k1, k2⟩, f0, f1, f2⟩ := tri_blk m2))
  obtain ⟨F, hF, r0, r1, r2, hBF⟩ := tri_done (.float .f64 X) (.float .f64 Y) (.float .f64 Z) m2 hB2 (Nat.le_succ _)
  rw [← hF]
  refine bodyPost_ret (v := .tuple #[rgb X Y Z, .bool true]) ?_ rfl ⟨rfl, hBF⟩
  simp [results, Tryd.results6, go_sem, r0, r1, r2]

end Go.Proofs.YtakckfghiaoonaaDoor
