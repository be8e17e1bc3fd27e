/-
FnColorParts: the law's own function walked at five times five times five numbers. Condition: what the listed variables hold.
-/
import Derived.Test.YtakckfghiaoonaaDoorP4
namespace Go.Proofs.YtakckfghiaoonaaDoor
open Go.RowKit Go.ChangeShapes Go.Proofs.YtakckfghiaoonaaDoorW.PrintWords

theorem quarters_any (k : Nat) (hk : k < 5) (w : World) : Calls Tryd.prog 5 #[.int .i64 (k : Int)] w fun e w' => e = .returned (.string (bs (qt k))) ∧ Below w.heap.size w w' := by
  match k, hk with
  | 0, _ => exact quarters_0 w
  | 1, _ => exact quarters_1 w
  | 2, _ => exact quarters_2 w
  | 3, _ => exact quarters_3 w
  | 4, _ => exact quarters_4 w
theorem quo_k (k : Nat) (hk : k < 5) : floatBits .quo .f64 (floatOfInt .f64 (k : Int)) 4616189618054758400 = some (qw k) ∧ nearB (qw k) (qw k) = true := by
  match k, hk with
  | 0, _ => exact ⟨by decide +kernel, by decide +kernel⟩
  | 1, _ => exact ⟨by decide +kernel, by decide +kernel⟩
  | 2, _ => exact ⟨by decide +kernel, by decide +kernel⟩
  | 3, _ => exact ⟨by decide +kernel, by decide +kernel⟩
  | 4, _ => exact ⟨by decide +kernel, by decide +kernel⟩
theorem three_str (a b c : Nat) : (⟨#[]⟩ : ByteArray) ++ bs (qt a) ++ ⟨#[32]⟩ ++ bs (qt b) ++ ⟨#[32]⟩ ++ bs (qt c) = bs (three a b c) := by
  show bs [] ++ bs (qt a) ++ bs [32] ++ bs (qt b) ++ bs [32] ++ bs (qt c) = _
  rw [bs_app, bs_app, bs_app, bs_app, bs_app]
  unfold three
  simp
set_option maxRecDepth 100000 in
set_option maxHeartbeats 8000000 in
theorem parts_good (a b c : Nat) (ha : a < 5) (hb : b < 5) (hc : c < 5) (w : World) (hV : Vars w) :
    Calls Tryd.prog 3 #[.agg #[.int .i64 (a : Int), .int .i64 (b : Int), .int .i64 (c : Int)]] w fun e w' => e = .returned (.bool true) ∧ Below w.heap.size w w' := by
  have i0 : ∀ w : World, (Instr.index 22 (.agg #[.int .i64 (a : Int), .int .i64 (b : Int), .int .i64 (c : Int)]) (.int .i64 0)).run Tryd.prog w = .ok (.int .i64 (a : Int)) w := fun _ => by kernel_rfl
  have i1 : ∀ w : World, (Instr.index 22 (.agg #[.int .i64 (a : Int), .int .i64 (b : Int), .int .i64 (c : Int)]) (.int .i64 1)).run Tryd.prog w = .ok (.int .i64 (b : Int)) w := fun _ => by kernel_rfl
  have i2 : ∀ w : World, (Instr.index 22 (.agg #[.int .i64 (a : Int), .int .i64 (b : Int), .int .i64 (c : Int)]) (.int .i64 2)).run Tryd.prog w = .ok (.int .i64 (c : Int)) w := fun _ => by kernel_rfl
  have ga : ¬ ((a : Int) < 0) := by omega
  have gb : ¬ ((b : Int) < 0) := by omega
  have gc : ¬ ((c : Int) < 0) := by omega
  have ga' : ¬ (4 < (a : Int)) := by omega
  have gb' : ¬ (4 < (b : Int)) := by omega
  have gc' : ¬ (4 < (c : Int)) := by omega
  have Ha := Lib.hid (fun W => quarters_any a ha W)
  have Hb := Lib.hid (fun W => quarters_any b hb W)
  have Hc := Lib.hid (fun W => quarters_any c hc W)
  have oa := qt_ok a ha
  have ob := qt_ok b hb
  have oc := qt_ok c hc
  have hg := parse_three oa ob oc
  rw [← three_str] at hg
  have HI := Lib.hid (fun W hV => impl_ofv _ _ _ _ _ _ _ hg oa.up ob.up oc.up W hV)
  have HS := Lib.hid (fun W => same_calls _ _ _ _ _ _ (quo_k a ha).2 (quo_k b hb).2 (quo_k c hc).2 W)
  have q1 := fun (t : TypeId) (w : World) => run_float_arith (P := Tryd.prog) w .quo t .f64 _ _ _ (quo_k a ha).1
  have q2 := fun (t : TypeId) (w : World) => run_float_arith (P := Tryd.prog) w .quo t .f64 _ _ _ (quo_k b hb).1
  have q3 := fun (t : TypeId) (w : World) => run_float_arith (P := Tryd.prog) w .quo t .f64 _ _ _ (quo_k c hc).1
  have z := fun l => bs_size l
  have za := oa.short
  have zb := ob.short
  have zc := oc.short
  have HV := Lib.hid hV
  clear ha hb hc oa ob oc hg hV
  go_enter Tryd.func3, Tryd.ntmps3
  go_wp2_with fail
  refine wp_loop_rounds 4 ?_
  rw [rounds_succ]
  go_wp2_with (go_at_call 5; with_reducible refine (Ha.out _).mono ?_; rintro e w1 ⟨rfl, hb1⟩)
  rw [rounds_succ]
  go_wp2_with (go_at_call 5; with_reducible refine (Hb.out _).mono ?_; rintro e w2 ⟨rfl, hb2⟩)
  rw [rounds_succ]
  go_wp2_with (go_at_call 5; with_reducible refine (Hc.out _).mono ?_; rintro e w3 ⟨rfl, hb3⟩)
  rw [rounds_succ]
  have s0 : (w.alloc (.cells #[.int .i64 (a : Int), .int .i64 (b : Int), .int .i64 (c : Int)] 22)).heap.size = w.heap.size + 1 := by simp
  have hb13 := hb1.trans (hb2.mono hb1.size)
  have hb14 := hb13.trans (hb3.mono hb13.size)
  have hB3 : Below w.heap.size w w3 := (below_alloc (Below.refl _ _) _).trans (hb14.mono (by rw [s0]; omega))
  have hv3 := HV.out.below hB3
  have hblk : w3.heap[w.heap.size]? = some (.cells #[.int .i64 (a : Int), .int .i64 (b : Int), .int .i64 (c : Int)] 22) := (hb14.block w.heap.size (by rw [s0]; omega)).trans (blk_new w _)
  clear hb1 hb2 hb3 hb13 hb14 s0
  go_wp2_with (first
    | (go_at_call 6; with_reducible refine (HI.out _ hv3).mono ?_; rintro e w4 ⟨rfl, hb4⟩
       have hm := fun o => (Below.heap_alloc w4 o w.heap.size (by have := lt_of_block hblk; have := hb4.size; omega)).trans ((hb4.block _ (lt_of_block hblk)).trans hblk)
       have m0 := fun o => (tri_blk (hm o)).1.1
       have m1 := fun o => (tri_blk (hm o)).1.2.1
       have m2 := fun o => (tri_blk (hm o)).1.2.2
       have hB4 := Lib.hid (hB3.trans (hb4.mono hB3.size))
       clear hm)
    | (go_at_call 7; with_reducible refine (HS.out _).mono ?_; rintro e w5 ⟨rfl, hb5⟩))
  go_ret
  exact ⟨rfl, (below_alloc hB4.out _).trans (hb5.mono (by have := hB4.out.size; simp; omega))⟩
set_option maxRecDepth 100000 in
set_option maxHeartbeats 4000000 in
theorem parts_bad00 (x y z : Int) (hx : x < 0) (w : World) :
    Calls Tryd.prog 3 #[.agg #[.int .i64 x, .int .i64 y, .int .i64 z]] w fun e w' => e = .returned (.bool true) ∧ Below w.heap.size w w' := by
  have i0 : ∀ w : World, (Instr.index 22 (.agg #[.int .i64 x, .int .i64 y, .int .i64 z]) (.int .i64 0)).run Tryd.prog w = .ok (.int .i64 x) w := fun _ => by kernel_rfl
  have i1 : ∀ w : World, (Instr.index 22 (.agg #[.int .i64 x, .int .i64 y, .int .i64 z]) (.int .i64 1)).run Tryd.prog w = .ok (.int .i64 y) w := fun _ => by kernel_rfl
  have i2 : ∀ w : World, (Instr.index 22 (.agg #[.int .i64 x, .int .i64 y, .int .i64 z]) (.int .i64 2)).run Tryd.prog w = .ok (.int .i64 z) w := fun _ => by kernel_rfl
  go_enter Tryd.func3, Tryd.ntmps3
  go_wp2_with fail
  refine wp_loop_rounds 1 ?_
  rw [rounds_succ]
  go_wp2_with fail
  go_ret
  exact ⟨rfl, below_alloc (Below.refl _ _) _⟩
set_option maxRecDepth 100000 in
set_option maxHeartbeats 4000000 in
theorem parts_bad01 (x y z : Int) (hx : ¬ x < 0) (hx2 : 4 < x) (w : World) :
    Calls Tryd.prog 3 #[.agg #[.int .i64 x, .int .i64 y, .int .i64 z]] w fun e w' => e = .returned (.bool true) ∧ Below w.heap.size w w' := by
  have i0 : ∀ w : World, (Instr.index 22 (.agg #[.int .i64 x, .int .i64 y, .int .i64 z]) (.int .i64 0)).run Tryd.prog w = .ok (.int .i64 x) w := fun _ => by kernel_rfl
  have i1 : ∀ w : World, (Instr.index 22 (.agg #[.int .i64 x, .int .i64 y, .int .i64 z]) (.int .i64 1)).run Tryd.prog w = .ok (.int .i64 y) w := fun _ => by kernel_rfl
  have i2 : ∀ w : World, (Instr.index 22 (.agg #[.int .i64 x, .int .i64 y, .int .i64 z]) (.int .i64 2)).run Tryd.prog w = .ok (.int .i64 z) w := fun _ => by kernel_rfl
  go_enter Tryd.func3, Tryd.ntmps3
  go_wp2_with fail
  refine wp_loop_rounds 1 ?_
  rw [rounds_succ]
  go_wp2_with fail
  go_ret
  exact ⟨rfl, below_alloc (Below.refl _ _) _⟩
set_option maxRecDepth 100000 in
set_option maxHeartbeats 4000000 in
theorem parts_bad10 (a : Nat) (y z : Int) (ha : a < 5) (hx : y < 0) (w : World) :
    Calls Tryd.prog 3 #[.agg #[.int .i64 (a : Int), .int .i64 y, .int .i64 z]] w fun e w' => e = .returned (.bool true) ∧ Below w.heap.size w w' := by
  have i0 : ∀ w : World, (Instr.index 22 (.agg #[.int .i64 (a : Int), .int .i64 y, .int .i64 z]) (.int .i64 0)).run Tryd.prog w = .ok (.int .i64 (a : Int)) w := fun _ => by kernel_rfl
  have i1 : ∀ w : World, (Instr.index 22 (.agg #[.int .i64 (a : Int), .int .i64 y, .int .i64 z]) (.int .i64 1)).run Tryd.prog w = .ok (.int .i64 y) w := fun _ => by kernel_rfl
  have i2 : ∀ w : World, (Instr.index 22 (.agg #[.int .i64 (a : Int), .int .i64 y, .int .i64 z]) (.int .i64 2)).run Tryd.prog w = .ok (.int .i64 z) w := fun _ => by kernel_rfl
  have ga : ¬ ((a : Int) < 0) := by omega
  have ga' : ¬ (4 < (a : Int)) := by omega
  have Ha := Lib.hid (fun W => quarters_any a ha W)
  have za := (qt_ok a ha).short
  have z := fun l => bs_size l
  go_enter Tryd.func3, Tryd.ntmps3
  go_wp2_with fail
  refine wp_loop_rounds 2 ?_
  rw [rounds_succ]
  go_wp2_with (go_at_call 5; with_reducible refine (Ha.out _).mono ?_; rintro e w1 ⟨rfl, hb1⟩)
  rw [rounds_succ]
  go_wp2_with fail
  go_ret
  exact ⟨rfl, (below_alloc (Below.refl _ _) _).trans (hb1.mono (by simp))⟩
set_option maxRecDepth 100000 in
set_option maxHeartbeats 4000000 in
theorem parts_bad11 (a : Nat) (y z : Int) (ha : a < 5) (hx : ¬ y < 0) (hx2 : 4 < y) (w : World) :
    Calls Tryd.prog 3 #[.agg #[.int .i64 (a : Int), .int .i64 y, .int .i64 z]] w fun e w' => e = .returned (.bool true) ∧ Below w.heap.size w w' := by
  have i0 : ∀ w : World, (Instr.index 22 (.agg #[.int .i64 (a : Int), .int .i64 y, .int .i64 z]) (.int .i64 0)).run Tryd.prog w = .ok (.int .i64 (a : Int)) w := fun _ => by kernel_rfl
  have i1 : ∀ w : World, (Instr.index 22 (.agg #[.int .i64 (a : Int), .int .i64 y, .int .i64 z]) (.int .i64 1)).run Tryd.prog w = .ok (.int .i64 y) w := fun _ => by kernel_rfl
  have i2 : ∀ w : World, (Instr.index 22 (.agg #[.int .i64 (a : Int), .int .i64 y, .int .i64 z]) (.int .i64 2)).run Tryd.prog w = .ok (.int .i64 z) w := fun _ => by kernel_rfl
  have ga : ¬ ((a : Int) < 0) := by omega
  have ga' : ¬ (4 < (a : Int)) := by omega
  have Ha := Lib.hid (fun W => quarters_any a ha W)
  have za := (qt_ok a ha).short
  have z := fun l => bs_size l
  go_enter Tryd.func3, Tryd.ntmps3
  go_wp2_with fail
  refine wp_loop_rounds 2 ?_
  rw [rounds_succ]
  go_wp2_with (go_at_call 5; with_reducible refine (Ha.out _).mono ?_; rintro e w1 ⟨rfl, hb1⟩)
  rw [rounds_succ]
  go_wp2_with fail
  go_ret
  exact ⟨rfl, (below_alloc (Below.refl _ _) _).trans (hb1.mono (by simp))⟩
set_option maxRecDepth 100000 in
set_option maxHeartbeats 4000000 in
theorem parts_bad20 (a b : Nat) (z : Int) (ha : a < 5) (hb : b < 5) (hx : z < 0) (w : World) :
    Calls Tryd.prog 3 #[.agg #[.int .i64 (a : Int), .int .i64 (b : Int), .int .i64 z]] w fun e w' => e = .returned (.bool true) ∧ Below w.heap.size w w' := by
  have i0 : ∀ w : World, (Instr.index 22 (.agg #[.int .i64 (a : Int), .int .i64 (b : Int), .int .i64 z]) (.int .i64 0)).run Tryd.prog w = .ok (.int .i64 (a : Int)) w := fun _ => by kernel_rfl
  have i1 : ∀ w : World, (Instr.index 22 (.agg #[.int .i64 (a : Int), .int .i64 (b : Int), .int .i64 z]) (.int .i64 1)).run Tryd.prog w = .ok (.int .i64 (b : Int)) w := fun _ => by kernel_rfl
  have i2 : ∀ w : World, (Instr.index 22 (.agg #[.int .i64 (a : Int), .int .i64 (b : Int), .int .i64 z]) (.int .i64 2)).run Tryd.prog w = .ok (.int .i64 z) w := fun _ => by kernel_rfl
  have ga : ¬ ((a : Int) < 0) := by omega
  have ga' : ¬ (4 < (a : Int)) := by omega
  have Ha := Lib.hid (fun W => quarters_any a ha W)
  have za := (qt_ok a ha).short
  have gb : ¬ ((b : Int) < 0) := by omega
  have gb' : ¬ (4 < (b : Int)) := by omega
  have Hb := Lib.hid (fun W => quarters_any b hb W)
  have zb := (qt_ok b hb).short
  have z := fun l => bs_size l
  go_enter Tryd.func3, Tryd.ntmps3
  go_wp2_with fail
  refine wp_loop_rounds 3 ?_
  rw [rounds_succ]
  go_wp2_with (go_at_call 5; with_reducible refine (Ha.out _).mono ?_; rintro e w1 ⟨rfl, hb1⟩)
  rw [rounds_succ]
  go_wp2_with (go_at_call 5; with_reducible refine (Hb.out _).mono ?_; rintro e w2 ⟨rfl, hb2⟩)
  rw [rounds_succ]
  go_wp2_with fail
  go_ret
  exact ⟨rfl, (below_alloc (Below.refl _ _) _).trans ((hb1.trans (hb2.mono hb1.size)).mono (by simp))⟩
set_option maxRecDepth 100000 in
set_option maxHeartbeats 4000000 in
theorem parts_bad21 (a b : Nat) (z : Int) (ha : a < 5) (hb : b < 5) (hx : ¬ z < 0) (hx2 : 4 < z) (w : World) :
    Calls Tryd.prog 3 #[.agg #[.int .i64 (a : Int), .int .i64 (b : Int), .int .i64 z]] w fun e w' => e = .returned (.bool true) ∧ Below w.heap.size w w' := by
  have i0 : ∀ w : World, (Instr.index 22 (.agg #[.int .i64 (a : Int), .int .i64 (b : Int), .int .i64 z]) (.int .i64 0)).run Tryd.prog w = .ok (.int .i64 (a : Int)) w := fun _ => by kernel_rfl
  have i1 : ∀ w : World, (Instr.index 22 (.agg #[.int .i64 (a : Int), .int .i64 (b : Int), .int .i64 z]) (.int .i64 1)).run Tryd.prog w = .ok (.int .i64 (b : Int)) w := fun _ => by kernel_rfl
  have i2 : ∀ w : World, (Instr.index 22 (.agg #[.int .i64 (a : Int), .int .i64 (b : Int), .int .i64 z]) (.int .i64 2)).run Tryd.prog w = .ok (.int .i64 z) w := fun _ => by kernel_rfl
  have ga : ¬ ((a : Int) < 0) := by omega
  have ga' : ¬ (4 < (a : Int)) := by omega
  have Ha := Lib.hid (fun W => quarters_any a ha W)
  have za := (qt_ok a ha).short
  have gb : ¬ ((b : Int) < 0) := by omega
  have gb' : ¬ (4 < (b : Int)) := by omega
  have Hb := Lib.hid (fun W => quarters_any b hb W)
  have zb := (qt_ok b hb).short
  have z := fun l => bs_size l
  go_enter Tryd.func3, Tryd.ntmps3
  go_wp2_with fail
  refine wp_loop_rounds 3 ?_
  rw [rounds_succ]
  go_wp2_with (go_at_call 5; with_reducible refine (Ha.out _).mono ?_; rintro e w1 ⟨rfl, hb1⟩)
  rw [rounds_succ]
  go_wp2_with (go_at_call 5; with_reducible refine (Hb.out _).mono ?_; rintro e w2 ⟨rfl, hb2⟩)
  rw [rounds_succ]
  go_wp2_with fail
  go_ret
  exact ⟨rfl, (below_alloc (Below.refl _ _) _).trans ((hb1.trans (hb2.mono hb1.size)).mono (by simp))⟩
theorem law_calls (x y z : Int) (w : World) (hV : Vars w) :
    Calls Tryd.prog 3 #[.agg #[.int .i64 x, .int .i64 y, .int .i64 z]] w fun e w' => e = .returned (.bool true) ∧ Below w.heap.size w w' := by
  by_cases x0 : x < 0
  · exact parts_bad00 x y z x0 w
  by_cases x1 : 4 < x
  · exact parts_bad01 x y z x0 x1 w
  obtain ⟨a, rfl⟩ : ∃ a : Nat, x = a := ⟨x.toNat, by omega⟩
  by_cases y0 : y < 0
  · exact parts_bad10 a y z (by omega) y0 w
  by_cases y1 : 4 < y
  · exact parts_bad11 a y z (by omega) y0 y1 w
  obtain ⟨b, rfl⟩ : ∃ b : Nat, y = b := ⟨y.toNat, by omega⟩
  by_cases z0 : z < 0
  · exact parts_bad20 a b z (by omega) (by omega) z0 w
  by_cases z1 : 4 < z
  · exact parts_bad21 a b z (by omega) (by omega) z0 z1 w
  obtain ⟨c, rfl⟩ : ∃ c : Nat, z = c := ⟨z.toNat, by omega⟩
  exact parts_good a b c (by omega) (by omega) (by omega) w hV
end Go.Proofs.YtakckfghiaoonaaDoor
