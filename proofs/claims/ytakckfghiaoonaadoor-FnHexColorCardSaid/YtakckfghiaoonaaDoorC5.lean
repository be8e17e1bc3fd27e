/-
FnHexColor: a colour's text read; the law's own function: the walks. No condition.
-/
import Derived.Test.YtakckfghiaoonaaDoorC4
namespace Go.Proofs.YtakckfghiaoonaaDoor
open Go.RowKit Go.ChangeShapes Go.Proofs.YtakckfghiaoonaaDoorW.PrintWords

theorem six_no32 (up : Bool) (p0 p1 p2 p3 p4 p5 : Nat) (h0 : p0 < 16) (h1 : p1 < 16) (h2 : p2 < 16) (h3 : p3 < 16) (h4 : p4 < 16) (h5 : p5 < 16) : (32 : UInt8) ∉ 35 :: six up p0 p1 p2 p3 p4 p5 := by
  have key : ∀ d, d < 16 → hexd up d ≠ 32 := by
    intro d hd
    have : d = 0 ∨ d = 1 ∨ d = 2 ∨ d = 3 ∨ d = 4 ∨ d = 5 ∨ d = 6 ∨ d = 7 ∨ d = 8 ∨ d = 9 ∨ d = 10 ∨ d = 11 ∨ d = 12 ∨ d = 13 ∨ d = 14 ∨ d = 15 := by omega
    cases up <;> rcases this with rfl | rfl | rfl | rfl | rfl | rfl | rfl | rfl | rfl | rfl | rfl | rfl | rfl | rfl | rfl | rfl <;> decide
  unfold six
  simp only [List.mem_cons, List.not_mem_nil, or_false, not_or]
  exact ⟨by decide, (key p0 h0).symm, (key p1 h1).symm, (key p2 h2).symm, (key p3 h3).symm, (key p4 h4).symm, (key p5 h5).symm⟩
set_option maxRecDepth 100000 in
set_option maxHeartbeats 4000000 in
theorem parse_hash (up : Bool) (p0 p1 p2 p3 p4 p5 : Nat) (h0 : p0 < 16) (h1 : p1 < 16) (h2 : p2 < 16) (h3 : p3 < 16) (h4 : p4 < 16) (h5 : p5 < 16) (x y z : Nat) (hg : Good 17 (bs (35 :: six up p0 p1 p2 p3 p4 p5)) x y z) :
    Good 13 (bs (35 :: six up p0 p1 p2 p3 p4 p5)) x y z := by
  intro w
  have HS := fun W => split_walk 32 (35 :: six up p0 p1 p2 p3 p4 p5) (by simp [six]) W
  rw [splitL_none 32 _ (six_no32 up p0 p1 p2 p3 p4 p5 h0 h1 h2 h3 h4 h5)] at HS
  have HS := Lib.hid HS
  have HG := Lib.hid hg
  have hsz : (bs (35 :: six up p0 p1 p2 p3 p4 p5)).size = 7 := rfl
  have hc : (((bs (35 :: six up p0 p1 p2 p3 p4 p5))[0]'(by rw [hsz]; decide)).toNat : Int) = 35 := rfl
  have hv : strsV [35 :: six up p0 p1 p2 p3 p4 p5] = [.string (bs (35 :: six up p0 p1 p2 p3 p4 p5))] := rfl
  rw [hv] at HS
  clear hg hv h0 h1 h2 h3 h4 h5
  generalize bs (35 :: six up p0 p1 p2 p3 p4 p5) = S at HS HG hsz hc
  go_enter Tryd.func13, Tryd.ntmps13
  go_wp2_with (first
    | (go_at_call 20; refine (HS.out _).mono ?_; rintro e w1 ⟨g, cap, rfl, hO, hb⟩
       have hcl := hO.cellAt 0 (by simp)
       have hcl' : w1.cell? ⟨g, 0, none⟩ = some (.string S) := hcl
       clear hcl)
    | (go_at_call 17; refine (HG.out _).mono ?_; rintro e w2 ⟨rfl, hb2⟩
       have hs : ((w.alloc Z3).alloc Z3).heap.size = w.heap.size + 1 + 1 := by simp
       have hb3 := hb.trans (hb2.mono hb.size)
       have hblk : w2.heap[w.heap.size]? = some Z3 := (hb3.block w.heap.size (by rw [hs]; omega)).trans ((Below.heap_alloc _ _ _ (by simp)).trans (blk_new w _))
       have hB : Below w.heap.size w w2 := (below_alloc (below_alloc (Below.refl _ _) _) _).trans (hb3.mono (by rw [hs]; omega))
       obtain ⟨⟨d0, d1, d2⟩, f0, f1, f2⟩ := tri_blk hblk
       clear hs hb3))
  obtain ⟨F, hF, r0, r1, r2, hBF⟩ := tri_done (.float .f32 x) (.float .f32 y) (.float .f32 z) hblk hB (Nat.le_refl _)
  rw [← hF]
  refine bodyPost_ret (v := .tuple #[rgb32 x y z, .nilIface]) ?_ rfl ⟨rfl, hBF⟩
  simp [results, Tryd.results13, go_sem, r0, r1, r2]

theorem dig_at (up : Bool) (d : Nat) (hd : d < 16) : (cond up (⟨#[48, 49, 50, 51, 52, 53, 54, 55, 56, 57, 65, 66, 67, 68, 69, 70]⟩ : ByteArray) ⟨#[48, 49, 50, 51, 52, 53, 54, 55, 56, 57, 97, 98, 99, 100, 101, 102]⟩).extract d (d + 1) = bs [hexd up d] := by
  have : d = 0 ∨ d = 1 ∨ d = 2 ∨ d = 3 ∨ d = 4 ∨ d = 5 ∨ d = 6 ∨ d = 7 ∨ d = 8 ∨ d = 9 ∨ d = 10 ∨ d = 11 ∨ d = 12 ∨ d = 13 ∨ d = 14 ∨ d = 15 := by omega
  cases up <;> rcases this with rfl | rfl | rfl | rfl | rfl | rfl | rfl | rfl | rfl | rfl | rfl | rfl | rfl | rfl | rfl | rfl <;> (apply ByteArray.ext; decide)
theorem bs_append (a b : List UInt8) : bs a ++ bs b = bs (a ++ b) := by
  apply ByteArray.ext
  simp [bs]
theorem two_new (w : World) (o1 o2 : Obj) : ((w.alloc o1).alloc o2).heap[w.heap.size]? = some o1 ∧ ((w.alloc o1).alloc o2).heap[w.heap.size + 1]? = some o2 ∧ (∀ j, j < w.heap.size → ((w.alloc o1).alloc o2).heap[j]? = w.heap[j]?) ∧ ((w.alloc o1).alloc o2).heap.size = w.heap.size + 1 + 1 := by
  have h2 := blk_new (w.alloc o1) o2
  simp only [World.size_alloc] at h2
  refine ⟨?_, h2, fun j hj => ?_, by simp⟩
  · rw [Below.heap_alloc _ _ _ (by simp only [World.size_alloc]; omega)]; exact blk_new w o1
  · rw [Below.heap_alloc _ _ _ (by simp only [World.size_alloc]; omega), Below.heap_alloc _ _ _ hj]

set_option maxRecDepth 100000 in
set_option maxHeartbeats 16000000 in
theorem law_false (N : Nat) (hN : N < 16777216) (w : World) :
    Calls Tryd.prog 4 #[.int .i64 N, .bool false] w fun e w' => e = .returned (.bool true) ∧ Below w.heap.size w w' := by
  have g0 : ¬ ((N : Int) < 0) := by omega
  have g1 : ¬ ((16777215 : Int) < (N : Int)) := by omega
  obtain ⟨a0, ea0⟩ : ∃ a, a = N / 1048576 := ⟨_, rfl⟩
  obtain ⟨p0, ep0⟩ : ∃ p, p = a0 % 16 := ⟨_, rfl⟩
  have l0 : p0 < 16 := by omega
  have b0 : bits .and .i64 ((a0 : Int)) 15 = (p0 : Int) := by rw [and15_i64 _ (by omega) (by omega)]; omega
  have x0 := dig_at false p0 l0
  have q0 : (N : Int) / 1048576 = (a0 : Int) := by omega
  obtain ⟨a1, ea1⟩ : ∃ a, a = N / 65536 := ⟨_, rfl⟩
  obtain ⟨p1, ep1⟩ : ∃ p, p = a1 % 16 := ⟨_, rfl⟩
  have l1 : p1 < 16 := by omega
  have b1 : bits .and .i64 ((a1 : Int)) 15 = (p1 : Int) := by rw [and15_i64 _ (by omega) (by omega)]; omega
  have x1 := dig_at false p1 l1
  have q1 : (N : Int) / 65536 = (a1 : Int) := by omega
  obtain ⟨a2, ea2⟩ : ∃ a, a = N / 4096 := ⟨_, rfl⟩
  obtain ⟨p2, ep2⟩ : ∃ p, p = a2 % 16 := ⟨_, rfl⟩
  have l2 : p2 < 16 := by omega
  have b2 : bits .and .i64 ((a2 : Int)) 15 = (p2 : Int) := by rw [and15_i64 _ (by omega) (by omega)]; omega
  have x2 := dig_at false p2 l2
  have q2 : (N : Int) / 4096 = (a2 : Int) := by omega
  obtain ⟨a3, ea3⟩ : ∃ a, a = N / 256 := ⟨_, rfl⟩
  obtain ⟨p3, ep3⟩ : ∃ p, p = a3 % 16 := ⟨_, rfl⟩
  have l3 : p3 < 16 := by omega
  have b3 : bits .and .i64 ((a3 : Int)) 15 = (p3 : Int) := by rw [and15_i64 _ (by omega) (by omega)]; omega
  have x3 := dig_at false p3 l3
  have q3 : (N : Int) / 256 = (a3 : Int) := by omega
  obtain ⟨a4, ea4⟩ : ∃ a, a = N / 16 := ⟨_, rfl⟩
  obtain ⟨p4, ep4⟩ : ∃ p, p = a4 % 16 := ⟨_, rfl⟩
  have l4 : p4 < 16 := by omega
  have b4 : bits .and .i64 ((a4 : Int)) 15 = (p4 : Int) := by rw [and15_i64 _ (by omega) (by omega)]; omega
  have x4 := dig_at false p4 l4
  have q4 : (N : Int) / 16 = (a4 : Int) := by omega
  obtain ⟨a5, ea5⟩ : ∃ a, a = N / 1 := ⟨_, rfl⟩
  obtain ⟨p5, ep5⟩ : ∃ p, p = a5 % 16 := ⟨_, rfl⟩
  have l5 : p5 < 16 := by omega
  have b5 : bits .and .i64 ((N : Int)) 15 = (p5 : Int) := by rw [and15_i64 _ (by omega) (by omega)]; omega
  have x5 := dig_at false p5 l5
  obtain ⟨va, eva⟩ : ∃ v, v = N / 65536 := ⟨_, rfl⟩
  obtain ⟨ve, eve⟩ : ∃ v, v = N / 256 := ⟨_, rfl⟩
  obtain ⟨vb, evb⟩ : ∃ v, v = ve % 256 := ⟨_, rfl⟩
  obtain ⟨vc, evc⟩ : ∃ v, v = N % 256 := ⟨_, rfl⟩
  have T3 : Three N va ve vb vc := ⟨by omega, by omega, by omega, by omega, hN, evb, evc⟩
  have hg := code_calls false p0 p1 p2 p3 p4 p5 l0 l1 l2 l3 l4 l5 va vb vc (by omega) (by omega) (by omega)
  have hp := parse_hash false p0 p1 p2 p3 p4 p5 l0 l1 l2 l3 l4 l5 _ _ _ hg
  obtain ⟨pa, pb, pc⟩ := T3.part
  have hS : (⟨#[35]⟩ : ByteArray) ++ bs [hexd false p0] ++ bs [hexd false p1] ++ bs [hexd false p2] ++ bs [hexd false p3] ++ bs [hexd false p4] ++ bs [hexd false p5] = bs (35 :: six false p0 p1 p2 p3 p4 p5) := by
    rw [show (⟨#[35]⟩ : ByteArray) = bs [35] from rfl, bs_append, bs_append, bs_append, bs_append, bs_append, bs_append]; rfl
  rw [← hS] at hg hp
  have H1 := Lib.hid (fun W => impl_hex _ _ _ _ _ _ _ hg pa.to64 pb.to64 pc.to64 W)
  have H2 := Lib.hid (fun W => impl_of _ _ _ _ _ _ _ hp pa.to64 pb.to64 pc.to64 W)
  have H3 := Lib.hid (fun W => number_calls N va ve vb vc T3 W)
  have H4 := Lib.hid (fun W => same_calls _ _ _ _ _ _ pa.near pb.near pc.near W)
  have r1 := quo64 pa
  have r2 := quo64 pb
  have r3 := quo64 pc
  have z := fun l => bs_size l
  have tk1 : True := trivial
  have tk2 : True := trivial
  have top := T3.top
  have mid := T3.mid
  have c1 : bits .and .i64 (ve : Int) 255 = (vb : Int) := by rw [and255_i64 _ (by omega) (by omega)]; omega
  have c2 : bits .and .i64 (N : Int) 255 = (vc : Int) := by rw [and255_i64 _ (by omega) (by omega)]; omega
  obtain rfl : va = a1 := by omega
  obtain rfl : ve = a3 := by omega
  clear pa pb pc T3 hg hp hS eva eve evb evc ea0 ea1 ea2 ea3 ea4 ea5 ep0 ep1 ep2 ep3 ep4 ep5 top mid
  simp only [cond_false] at x0 x1 x2 x3 x4 x5

  go_enter Tryd.func4, Tryd.ntmps4
  go_wp2_with fail
  refine wp_loop_rounds 7 ?_
  rw [rounds_succ]
  go_wp2_with fail
  go_quiet (fail)
  go_wp2_with fail
  rw [rounds_succ]
  go_wp2_with fail
  go_quiet (fail)
  go_wp2_with fail
  rw [rounds_succ]
  go_wp2_with fail
  go_quiet (fail)
  go_wp2_with fail
  rw [rounds_succ]
  go_wp2_with fail
  go_quiet (fail)
  go_wp2_with fail
  rw [rounds_succ]
  go_wp2_with fail
  go_quiet (fail)
  go_wp2_with fail
  rw [rounds_succ]
  go_wp2_with fail
  go_quiet (fail)
  go_wp2_with fail
  rw [rounds_succ]
  go_wp2_with (first
    | (go_at_call 8; refine (H1.out _).mono ?_; rintro e w1 ⟨rfl, hb1⟩; clear x0 x1 x2 x3 x4 x5 z)
    | (go_at_call 6; refine (H2.out _).mono ?_; rintro e w2 ⟨rfl, hb2⟩
       have m1 := (hb2.block w1.heap.size (by simp)).trans (blk_new w1 _)
       have s1 := hb2.size
       rw [World.size_alloc] at s1)
    | (go_at_call 9; refine (H3.out _).mono ?_; rintro e w3 ⟨rfl, hb3⟩
       have s2 := hb3.size
       rw [World.size_alloc] at s2
       have n1 := (hb3.block w1.heap.size (by simp; omega)).trans ((Below.heap_alloc w2 _ _ (by omega)).trans m1)
       have n2 := (hb3.block w2.heap.size (by simp)).trans (blk_new w2 _)
       have hB3 : Hid (Below w.heap.size w w3) := Lib.hid (by
         have s0 := hb1.size
         have a1 : Below w.heap.size w w1 := (pw_below_drewN (Below.refl _ w) _).trans hb1
         exact ((a1.alloc a1.size _).trans (hb2.mono (by simp; have := a1.size; omega))).alloc (by have := a1.size; omega) _ |>.trans (hb3.mono (by simp; have := a1.size; omega)))
       have N1 := fun (o o' : Obj) => (two_new w3 o o').2.2.1 w1.heap.size (by omega)
       have N2 := fun (o o' : Obj) => (two_new w3 o o').2.2.1 w2.heap.size (by omega)
       have u0 := fun (o o' : Obj) => (tri_blk ((N1 o o').trans n1)).1.1
       have u1 := fun (o o' : Obj) => (tri_blk ((N1 o o').trans n1)).1.2.1
       have u2 := fun (o o' : Obj) => (tri_blk ((N1 o o').trans n1)).1.2.2
       have N1h := Lib.hid N1
       have N2h := Lib.hid N2
       have n1h := Lib.hid n1
       have n2h := Lib.hid n2
       clear N1 N2 n1 n2 m1)
    | (go_at_call 7; have _t := tk1; with_reducible refine (H4.out _).mono ?_; rintro e w4 ⟨rfl, hb4⟩
       clear tk1 _t u0 u1 u2
       have hsz5 := (two_new w3 (.cells #[.float .f64 (c64 va), .float .f64 (c64 vb), .float .f64 (c64 vc)] 26) (.cells #[.float .f64 (w64 va), .float .f64 (w64 vb), .float .f64 (w64 vc)] 26)).2.2.2
       have b2 := Lib.hid ((hb4.block w2.heap.size (by rw [hsz5]; omega)).trans ((N2h.out _ _).trans n2h.out))
       have b3 := Lib.hid ((hb4.block w3.heap.size (by rw [hsz5]; omega)).trans (two_new w3 _ _).1)
       have b4 := Lib.hid ((hb4.block (w3.heap.size + 1) (by rw [hsz5]; omega)).trans (two_new w3 _ _).2.1)
       obtain ⟨⟨y0, y1, y2⟩, _⟩ := tri_blk b3.out
       obtain ⟨⟨y3, y4, y5⟩, _⟩ := tri_blk b4.out
       have hB4 := Lib.hid (((hB3.out.alloc hB3.out.size _).alloc (by have := hB3.out.size; simp; omega) _).trans (hb4.mono (by rw [hsz5]; have := hB3.out.size; omega)))
       have s4 := hb4.size
       rw [hsz5] at s4
       clear hb4 hsz5 N1h N2h n1h n2h)
    | (go_at_call 7; have _t := tk2; with_reducible refine (H4.out _).mono ?_; rintro e w5 ⟨rfl, hb5⟩
       clear tk2 _t y0 y1 y2 y3 y4 y5
       obtain ⟨⟨y0, y1, y2⟩, _⟩ := tri_blk ((hb5.block w2.heap.size (by omega)).trans b2.out)
       obtain ⟨⟨y3, y4, y5⟩, _⟩ := tri_blk ((hb5.block (w3.heap.size + 1) (by omega)).trans b4.out)
       have hB5 := Lib.hid (hB4.out.trans (hb5.mono hB4.out.size))
       clear hb5 b2 b3 b4)
    | (go_at_call 7; with_reducible refine (H4.out _).mono ?_; rintro e w6 ⟨rfl, hb6⟩))
  go_ret
  exact ⟨rfl, hB5.out.trans (hb6.mono hB5.out.size)⟩
set_option maxRecDepth 100000 in
set_option maxHeartbeats 16000000 in
theorem law_true (N : Nat) (hN : N < 16777216) (w : World) :
    Calls Tryd.prog 4 #[.int .i64 N, .bool true] w fun e w' => e = .returned (.bool true) ∧ Below w.heap.size w w' := by
  have g0 : ¬ ((N : Int) < 0) := by omega
  have g1 : ¬ ((16777215 : Int) < (N : Int)) := by omega
  obtain ⟨a0, ea0⟩ : ∃ a, a = N / 1048576 := ⟨_, rfl⟩
  obtain ⟨p0, ep0⟩ : ∃ p, p = a0 % 16 := ⟨_, rfl⟩
  have l0 : p0 < 16 := by omega
  have b0 : bits .and .i64 ((a0 : Int)) 15 = (p0 : Int) := by rw [and15_i64 _ (by omega) (by omega)]; omega
  have x0 := dig_at true p0 l0
  have q0 : (N : Int) / 1048576 = (a0 : Int) := by omega
  obtain ⟨a1, ea1⟩ : ∃ a, a = N / 65536 := ⟨_, rfl⟩
  obtain ⟨p1, ep1⟩ : ∃ p, p = a1 % 16 := ⟨_, rfl⟩
  have l1 : p1 < 16 := by omega
  have b1 : bits .and .i64 ((a1 : Int)) 15 = (p1 : Int) := by rw [and15_i64 _ (by omega) (by omega)]; omega
  have x1 := dig_at true p1 l1
  have q1 : (N : Int) / 65536 = (a1 : Int) := by omega
  obtain ⟨a2, ea2⟩ : ∃ a, a = N / 4096 := ⟨_, rfl⟩
  obtain ⟨p2, ep2⟩ : ∃ p, p = a2 % 16 := ⟨_, rfl⟩
  have l2 : p2 < 16 := by omega
  have b2 : bits .and .i64 ((a2 : Int)) 15 = (p2 : Int) := by rw [and15_i64 _ (by omega) (by omega)]; omega
  have x2 := dig_at true p2 l2
  have q2 : (N : Int) / 4096 = (a2 : Int) := by omega
  obtain ⟨a3, ea3⟩ : ∃ a, a = N / 256 := ⟨_, rfl⟩
  obtain ⟨p3, ep3⟩ : ∃ p, p = a3 % 16 := ⟨_, rfl⟩
  have l3 : p3 < 16 := by omega
  have b3 : bits .and .i64 ((a3 : Int)) 15 = (p3 : Int) := by rw [and15_i64 _ (by omega) (by omega)]; omega
  have x3 := dig_at true p3 l3
  have q3 : (N : Int) / 256 = (a3 : Int) := by omega
  obtain ⟨a4, ea4⟩ : ∃ a, a = N / 16 := ⟨_, rfl⟩
  obtain ⟨p4, ep4⟩ : ∃ p, p = a4 % 16 := ⟨_, rfl⟩
  have l4 : p4 < 16 := by omega
  have b4 : bits .and .i64 ((a4 : Int)) 15 = (p4 : Int) := by rw [and15_i64 _ (by omega) (by omega)]; omega
  have x4 := dig_at true p4 l4
  have q4 : (N : Int) / 16 = (a4 : Int) := by omega
  obtain ⟨a5, ea5⟩ : ∃ a, a = N / 1 := ⟨_, rfl⟩
  obtain ⟨p5, ep5⟩ : ∃ p, p = a5 % 16 := ⟨_, rfl⟩
  have l5 : p5 < 16 := by omega
  have b5 : bits .and .i64 ((N : Int)) 15 = (p5 : Int) := by rw [and15_i64 _ (by omega) (by omega)]; omega
  have x5 := dig_at true p5 l5
  obtain ⟨va, eva⟩ : ∃ v, v = N / 65536 := ⟨_, rfl⟩
  obtain ⟨ve, eve⟩ : ∃ v, v = N / 256 := ⟨_, rfl⟩
  obtain ⟨vb, evb⟩ : ∃ v, v = ve % 256 := ⟨_, rfl⟩
  obtain ⟨vc, evc⟩ : ∃ v, v = N % 256 := ⟨_, rfl⟩
  have T3 : Three N va ve vb vc := ⟨by omega, by omega, by omega, by omega, hN, evb, evc⟩
  have hg := code_calls true p0 p1 p2 p3 p4 p5 l0 l1 l2 l3 l4 l5 va vb vc (by omega) (by omega) (by omega)
  have hp := parse_hash true p0 p1 p2 p3 p4 p5 l0 l1 l2 l3 l4 l5 _ _ _ hg
  obtain ⟨pa, pb, pc⟩ := T3.part
  have hS : (⟨#[35]⟩ : ByteArray) ++ bs [hexd true p0] ++ bs [hexd true p1] ++ bs [hexd true p2] ++ bs [hexd true p3] ++ bs [hexd true p4] ++ bs [hexd true p5] = bs (35 :: six true p0 p1 p2 p3 p4 p5) := by
    rw [show (⟨#[35]⟩ : ByteArray) = bs [35] from rfl, bs_append, bs_append, bs_append, bs_append, bs_append, bs_append]; rfl
  rw [← hS] at hg hp
  have H1 := Lib.hid (fun W => impl_hex _ _ _ _ _ _ _ hg pa.to64 pb.to64 pc.to64 W)
  have H2 := Lib.hid (fun W => impl_of _ _ _ _ _ _ _ hp pa.to64 pb.to64 pc.to64 W)
  have H3 := Lib.hid (fun W => number_calls N va ve vb vc T3 W)
  have H4 := Lib.hid (fun W => same_calls _ _ _ _ _ _ pa.near pb.near pc.near W)
  have r1 := quo64 pa
  have r2 := quo64 pb
  have r3 := quo64 pc
  have z := fun l => bs_size l
  have tk1 : True := trivial
  have tk2 : True := trivial
  have top := T3.top
  have mid := T3.mid
  have c1 : bits .and .i64 (ve : Int) 255 = (vb : Int) := by rw [and255_i64 _ (by omega) (by omega)]; omega
  have c2 : bits .and .i64 (N : Int) 255 = (vc : Int) := by rw [and255_i64 _ (by omega) (by omega)]; omega
  obtain rfl : va = a1 := by omega
  obtain rfl : ve = a3 := by omega
  clear pa pb pc T3 hg hp hS eva eve evb evc ea0 ea1 ea2 ea3 ea4 ea5 ep0 ep1 ep2 ep3 ep4 ep5 top mid
  simp only [cond_true] at x0 x1 x2 x3 x4 x5

  go_enter Tryd.func4, Tryd.ntmps4
  go_wp2_with fail
  refine wp_loop_rounds 7 ?_
  rw [rounds_succ]
  go_wp2_with fail
  go_quiet (fail)
  go_wp2_with fail
  rw [rounds_succ]
  go_wp2_with fail
  go_quiet (fail)
  go_wp2_with fail
  rw [rounds_succ]
  go_wp2_with fail
  go_quiet (fail)
  go_wp2_with fail
  rw [rounds_succ]
  go_wp2_with fail
  go_quiet (fail)
  go_wp2_with fail
  rw [rounds_succ]
  go_wp2_with fail
  go_quiet (fail)
  go_wp2_with fail
  rw [rounds_succ]
  go_wp2_with fail
  go_quiet (fail)
  go_wp2_with fail
  rw [rounds_succ]
  go_wp2_with (first
    | (go_at_call 8; refine (H1.out _).mono ?_; rintro e w1 ⟨rfl, hb1⟩; clear x0 x1 x2 x3 x4 x5 z)
    | (go_at_call 6; refine (H2.out _).mono ?_; rintro e w2 ⟨rfl, hb2⟩
       have m1 := (hb2.block w1.heap.size (by simp)).trans (blk_new w1 _)
       have s1 := hb2.size
       rw [World.size_alloc] at s1)
    | (go_at_call 9; refine (H3.out _).mono ?_; rintro e w3 ⟨rfl, hb3⟩
       have s2 := hb3.size
       rw [World.size_alloc] at s2
       have n1 := (hb3.block w1.heap.size (by simp; omega)).trans ((Below.heap_alloc w2 _ _ (by omega)).trans m1)
       have n2 := (hb3.block w2.heap.size (by simp)).trans (blk_new w2 _)
       have hB3 : Hid (Below w.heap.size w w3) := Lib.hid (by
         have s0 := hb1.size
         have a1 : Below w.heap.size w w1 := (pw_below_drewN (Below.refl _ w) _).trans hb1
         exact ((a1.alloc a1.size _).trans (hb2.mono (by simp; have := a1.size; omega))).alloc (by have := a1.size; omega) _ |>.trans (hb3.mono (by simp; have := a1.size; omega)))
       have N1 := fun (o o' : Obj) => (two_new w3 o o').2.2.1 w1.heap.size (by omega)
       have N2 := fun (o o' : Obj) => (two_new w3 o o').2.2.1 w2.heap.size (by omega)
       have u0 := fun (o o' : Obj) => (tri_blk ((N1 o o').trans n1)).1.1
       have u1 := fun (o o' : Obj) => (tri_blk ((N1 o o').trans n1)).1.2.1
       have u2 := fun (o o' : Obj) => (tri_blk ((N1 o o').trans n1)).1.2.2
       have N1h := Lib.hid N1
       have N2h := Lib.hid N2
       have n1h := Lib.hid n1
       have n2h := Lib.hid n2
       clear N1 N2 n1 n2 m1)
    | (go_at_call 7; have _t := tk1; with_reducible refine (H4.out _).mono ?_; rintro e w4 ⟨rfl, hb4⟩
       clear tk1 _t u0 u1 u2
       have hsz5 := (two_new w3 (.cells #[.float .f64 (c64 va), .float .f64 (c64 vb), .float .f64 (c64 vc)] 26) (.cells #[.float .f64 (w64 va), .float .f64 (w64 vb), .float .f64 (w64 vc)] 26)).2.2.2
       have b2 := Lib.hid ((hb4.block w2.heap.size (by rw [hsz5]; omega)).trans ((N2h.out _ _).trans n2h.out))
       have b3 := Lib.hid ((hb4.block w3.heap.size (by rw [hsz5]; omega)).trans (two_new w3 _ _).1)
       have b4 := Lib.hid ((hb4.block (w3.heap.size + 1) (by rw [hsz5]; omega)).trans (two_new w3 _ _).2.1)
       obtain ⟨⟨y0, y1, y2⟩, _⟩ := tri_blk b3.out
       obtain ⟨⟨y3, y4, y5⟩, _⟩ := tri_blk b4.out
       have hB4 := Lib.hid (((hB3.out.alloc hB3.out.size _).alloc (by have := hB3.out.size; simp; omega) _).trans (hb4.mono (by rw [hsz5]; have := hB3.out.size; omega)))
       have s4 := hb4.size
       rw [hsz5] at s4
       clear hb4 hsz5 N1h N2h n1h n2h)
    | (go_at_call 7; have _t := tk2; with_reducible refine (H4.out _).mono ?_; rintro e w5 ⟨rfl, hb5⟩
       clear tk2 _t y0 y1 y2 y3 y4 y5
       obtain ⟨⟨y0, y1, y2⟩, _⟩ := tri_blk ((hb5.block w2.heap.size (by omega)).trans b2.out)
       obtain ⟨⟨y3, y4, y5⟩, _⟩ := tri_blk ((hb5.block (w3.heap.size + 1) (by omega)).trans b4.out)
       have hB5 := Lib.hid (hB4.out.trans (hb5.mono hB4.out.size))
       clear hb5 b2 b3 b4)
    | (go_at_call 7; with_reducible refine (H4.out _).mono ?_; rintro e w6 ⟨rfl, hb6⟩))
  go_ret
  exact ⟨rfl, hB5.out.trans (hb6.mono hB5.out.size)⟩
theorem law_calls (n : Int) (up : Bool) (w : World) :
    Calls Tryd.prog 4 #[.int .i64 n, .bool up] w fun e w' => e = .returned (.bool true) ∧ Below w.heap.size w w' := by
  by_cases h0 : n < 0
  · go_enter Tryd.func4, Tryd.ntmps4
    go_wp2_with fail
    go_ret
    exact ⟨rfl, Below.refl _ _⟩
  by_cases h1 : 16777215 < n
  · go_enter Tryd.func4, Tryd.ntmps4
    go_wp2_with fail
    go_ret
    exact ⟨rfl, Below.refl _ _⟩
  obtain ⟨N, rfl⟩ : ∃ N : Nat, n = N := ⟨n.toNat, by omega⟩
  cases up
  · exact law_false N (by omega) w
  · exact law_true N (by omega) w
end Go.Proofs.YtakckfghiaoonaaDoor
