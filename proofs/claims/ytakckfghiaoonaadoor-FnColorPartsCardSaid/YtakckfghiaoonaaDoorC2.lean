/-
FnHexColor: six hexadecimal digits decoded: the walks. Condition: hexadecimal digits.
-/
import Derived.Test.YtakckfghiaoonaaDoorC1
import Derived.Lib.ConvBytes
import Derived.Lib.AtoiErrMem
namespace Go.Proofs.YtakckfghiaoonaaDoor
open Go.RowKit Go.ChangeShapes Go.Proofs.YtakckfghiaoonaaDoorW.PrintWords

/-- A hexadecimal digit, small or great. -/
def hexd (up : Bool) (d : Nat) : UInt8 := UInt8.ofNat (if d < 10 then 48 + d else if up then 55 + d else 87 + d)
/-- What the library's table holds. -/
def revOf (i : Nat) : Nat := if 48 ≤ i ∧ i ≤ 57 then i - 48 else if 65 ≤ i ∧ i ≤ 70 then i - 55 else if 97 ≤ i ∧ i ≤ 102 then i - 87 else 255
def revTab : ByteArray := ⟨((List.range 256).map fun i => UInt8.ofNat (revOf i)).toArray⟩
theorem rev_run (up : Bool) (d : Nat) (hd : d < 16) : ∀ w, (Instr.index 9 (.string revTab) (.int .u8 ((hexd up d).toNat : Int))).run Tryd.prog w = .ok (.int .u8 (d : Int)) w := by
  intro w
  have : d = 0 ∨ d = 1 ∨ d = 2 ∨ d = 3 ∨ d = 4 ∨ d = 5 ∨ d = 6 ∨ d = 7 ∨ d = 8 ∨ d = 9 ∨ d = 10 ∨ d = 11 ∨ d = 12 ∨ d = 13 ∨ d = 14 ∨ d = 15 := by omega
  cases up <;> rcases this with rfl | rfl | rfl | rfl | rfl | rfl | rfl | rfl | rfl | rfl | rfl | rfl | rfl | rfl | rfl | rfl <;> (refine Eq.trans (b := Result.ok _ w) ?_ rfl; kernel_rfl)
section
variable {P : Program}
theorem wpList_index {ops : Array Oper} {rest : List Oper} {op : Oper} {a : Act} {w : World} {Q : Exit → Act → World → Prop} (hgd : op.guard = none) (t : TypeId) (x ix : Operand) (ho : op.op = .index t x ix)
    (vx vi r : Value) (hx : a.eval x = vx) (hi : a.eval ix = vi) (hr : (Instr.index t vx vi).run P w = .ok r w) (h : wpList P ops Q rest (a.put op.dst r) w) : wpList P ops Q (op :: rest) a w :=
  wpList_plain hgd fun _ hK => by
    unfold Oper.wp execOp
    simp only [ho, hx, hi, hr, Sem.run_bind, Sem.run_pure, Result.andThen_ok]
    exact hK _ _ h
end
theorem or16 (p q : Nat) (hp : p < 16) (hq : q < 16) : bits .or .u8 ((p : Int) * 16) (q : Int) = ((p * 16 + q : Nat) : Int) := by
  rw [bits_join .u8 8 (by decide) wraps_u8 4 _ _ (by omega) (by omega) (by omega) (by omega) (by omega) (by omega)]
  omega
set_option maxRecDepth 100000 in
set_option maxHeartbeats 8000000 in
theorem decode_calls (gd gs cs : Nat) (p0 p1 p2 p3 p4 p5 : Nat) (c0 c1 c2 c3 c4 c5 : Int) (w : World)
    (h0 : p0 < 16) (h1 : p1 < 16) (h2 : p2 < 16) (h3 : p3 < 16) (h4 : p4 < 16) (h5 : p5 < 16)
    (R0 : ∀ w, (Instr.index 9 (.string revTab) (.int .u8 c0)).run Tryd.prog w = .ok (.int .u8 (p0 : Int)) w)
    (R1 : ∀ w, (Instr.index 9 (.string revTab) (.int .u8 c1)).run Tryd.prog w = .ok (.int .u8 (p1 : Int)) w)
    (R2 : ∀ w, (Instr.index 9 (.string revTab) (.int .u8 c2)).run Tryd.prog w = .ok (.int .u8 (p2 : Int)) w)
    (R3 : ∀ w, (Instr.index 9 (.string revTab) (.int .u8 c3)).run Tryd.prog w = .ok (.int .u8 (p3 : Int)) w)
    (R4 : ∀ w, (Instr.index 9 (.string revTab) (.int .u8 c4)).run Tryd.prog w = .ok (.int .u8 (p4 : Int)) w)
    (R5 : ∀ w, (Instr.index 9 (.string revTab) (.int .u8 c5)).run Tryd.prog w = .ok (.int .u8 (p5 : Int)) w)
    (s0 : w.cell? ⟨gs, 0, none⟩ = some (.int .u8 c0)) (s1 : w.cell? ⟨gs, 1, none⟩ = some (.int .u8 c1)) (s2 : w.cell? ⟨gs, 2, none⟩ = some (.int .u8 c2)) (s3 : w.cell? ⟨gs, 3, none⟩ = some (.int .u8 c3)) (s4 : w.cell? ⟨gs, 4, none⟩ = some (.int .u8 c4)) (s5 : w.cell? ⟨gs, 5, none⟩ = some (.int .u8 c5))
    (d0 : w.cell? ⟨gd, 0, none⟩ = some (.int .u8 0)) (d1 : w.cell? ⟨gd, 1, none⟩ = some (.int .u8 0)) (d2 : w.cell? ⟨gd, 2, none⟩ = some (.int .u8 0)) (f0 : w.frozen? ⟨gd, 0, none⟩ = false) (f1 : w.frozen? ⟨gd, 1, none⟩ = false) (f2 : w.frozen? ⟨gd, 2, none⟩ = false) (_hne : gs ≠ gd) :
    Calls Tryd.prog 30 #[.slice (some ⟨gd, 0, none⟩) 3 3, .slice (some ⟨gs, 0, none⟩) 6 cs] w fun e w' => e = .returned (.tuple #[.int .i64 3, .nilIface]) ∧
      ((w.setCell ⟨gd, 0, none⟩ (.int .u8 (p0 * 16 + p1 : Nat))).setCell ⟨gd, 1, none⟩ (.int .u8 (p2 * 16 + p3 : Nat))).setCell ⟨gd, 2, none⟩ (.int .u8 (p4 * 16 + p5 : Nat)) = w' := by
  have R0 := Lib.hid R0
  have R1 := Lib.hid R1
  have R2 := Lib.hid R2
  have R3 := Lib.hid R3
  have R4 := Lib.hid R4
  have R5 := Lib.hid R5
  go_enter Tryd.func30, Tryd.ntmps30
  go_wp2_with fail
  refine wp_loop_rounds 4 ?_
  rw [rounds_succ]
  go_wp2_with (first | (refine wpList_index rfl _ _ _ rfl (.string revTab) (.int .u8 c0) (.int .u8 p0) (by kernel_rfl) rfl (R0.out _) ?_) | (refine wpList_index rfl _ _ _ rfl (.string revTab) (.int .u8 c1) (.int .u8 p1) (by kernel_rfl) rfl (R1.out _) ?_))
  rw [rounds_succ]
  go_wp2_with (first | (refine wpList_index rfl _ _ _ rfl (.string revTab) (.int .u8 c2) (.int .u8 p2) (by kernel_rfl) rfl (R2.out _) ?_) | (refine wpList_index rfl _ _ _ rfl (.string revTab) (.int .u8 c3) (.int .u8 p3) (by kernel_rfl) rfl (R3.out _) ?_))
  rw [rounds_succ]
  go_wp2_with (first | (refine wpList_index rfl _ _ _ rfl (.string revTab) (.int .u8 c4) (.int .u8 p4) (by kernel_rfl) rfl (R4.out _) ?_) | (refine wpList_index rfl _ _ _ rfl (.string revTab) (.int .u8 c5) (.int .u8 p5) (by kernel_rfl) rfl (R5.out _) ?_))
  rw [rounds_succ]
  go_wp2_with fail
  go_ret2
  rw [or16 p0 p1 h0 h1, or16 p2 p3 h2 h3, or16 p4 p5 h4 h5]
  exact ⟨rfl, rfl⟩
/-- Six digits. -/
def six (up : Bool) (p0 p1 p2 p3 p4 p5 : Nat) : List UInt8 := [hexd up p0, hexd up p1, hexd up p2, hexd up p3, hexd up p4, hexd up p5]
set_option maxRecDepth 100000 in
set_option maxHeartbeats 8000000 in
theorem string_calls (up : Bool) (p0 p1 p2 p3 p4 p5 : Nat) (h0 : p0 < 16) (h1 : p1 < 16) (h2 : p2 < 16) (h3 : p3 < 16) (h4 : p4 < 16) (h5 : p5 < 16) (v0 v1 v2 : Nat) (e0 : p0 * 16 + p1 = v0) (e1 : p2 * 16 + p3 = v1) (e2 : p4 * 16 + p5 = v2) (w : World) :
    Calls Tryd.prog 24 #[.string (bs (six up p0 p1 p2 p3 p4 p5))] w fun e w' => ∃ g, e = .returned (.tuple #[.slice (some ⟨g, 0, none⟩) 3 3, .nilIface]) ∧
      w'.cell? ⟨g, 0, none⟩ = some (.int .u8 (v0 : Int)) ∧ w'.cell? ⟨g, 1, none⟩ = some (.int .u8 (v1 : Int)) ∧ w'.cell? ⟨g, 2, none⟩ = some (.int .u8 (v2 : Int)) ∧ Below w.heap.size w w' := by
  have hsz : (bs (six up p0 p1 p2 p3 p4 p5)).size = 6 := rfl
  have hmk : ∀ w : World, (Instr.makeSlice 51 (.int .i64 3) (.int .i64 3)).run Tryd.prog w = .ok (.slice (some ⟨w.heap.size, 0, none⟩) 3 3) (w.alloc (.cells #[.int .u8 0, .int .u8 0, .int .u8 0] 5)) := fun _ => by kernel_rfl
  obtain ⟨W2, n2, hcv, s0, s1, s2, s3, s4, s5, hb⟩ : ∃ (W2 : World) (n2 : Nat), (convert 9 51 (.string (bs (six up p0 p1 p2 p3 p4 p5)))).run Tryd.prog (w.alloc (.cells #[.int .u8 0, .int .u8 0, .int .u8 0] 5)) = .ok (.slice (some ⟨w.heap.size + 1, 0, none⟩) 6 n2) W2 ∧
      W2.cell? ⟨w.heap.size + 1, 0, none⟩ = some (.int .u8 ((hexd up p0).toNat : Int)) ∧ W2.cell? ⟨w.heap.size + 1, 1, none⟩ = some (.int .u8 ((hexd up p1).toNat : Int)) ∧ W2.cell? ⟨w.heap.size + 1, 2, none⟩ = some (.int .u8 ((hexd up p2).toNat : Int)) ∧
      W2.cell? ⟨w.heap.size + 1, 3, none⟩ = some (.int .u8 ((hexd up p3).toNat : Int)) ∧ W2.cell? ⟨w.heap.size + 1, 4, none⟩ = some (.int .u8 ((hexd up p4).toNat : Int)) ∧ W2.cell? ⟨w.heap.size + 1, 5, none⟩ = some (.int .u8 ((hexd up p5).toNat : Int)) ∧
      Below (w.alloc (.cells #[.int .u8 0, .int .u8 0, .int .u8 0] 5)).heap.size (w.alloc (.cells #[.int .u8 0, .int .u8 0, .int .u8 0] 5)) W2 := by
    have hcv := Lib.run_convert_string_bytes (P := Tryd.prog) (w.alloc (.cells #[.int .u8 0, .int .u8 0, .int .u8 0] 5)) 9 51 5 (bs (six up p0 p1 p2 p3 p4 p5)) (u := .string) Tryd.underlying9 Tryd.underlying51 Tryd.underlying5
    have hB := fun j hj => Lib.bytesWorld_cell (w.alloc (.cells #[.int .u8 0, .int .u8 0, .int .u8 0] 5)) 5 (bs (six up p0 p1 p2 p3 p4 p5)) j hj
    have hs : (w.alloc (.cells #[.int .u8 0, .int .u8 0, .int .u8 0] 5)).heap.size = w.heap.size + 1 := by simp
    have hBel := Lib.bytesWorld_below (w.alloc (.cells #[.int .u8 0, .int .u8 0, .int .u8 0] 5)) 5 (bs (six up p0 p1 p2 p3 p4 p5))
    rw [hs] at hcv hB
    exact ⟨_, _, hcv, hB 0 (by rw [hsz]; decide), hB 1 (by rw [hsz]; decide), hB 2 (by rw [hsz]; decide), hB 3 (by rw [hsz]; decide), hB 4 (by rw [hsz]; decide), hB 5 (by rw [hsz]; decide), hBel⟩
  obtain ⟨⟨d0, d1, d2⟩, f0, f1, f2⟩ := tri_new w W2 _ _ _ _ hb
  have HD := (decode_calls w.heap.size (w.heap.size + 1) n2 p0 p1 p2 p3 p4 p5 _ _ _ _ _ _ W2 h0 h1 h2 h3 h4 h5 (rev_run up p0 h0) (rev_run up p1 h1) (rev_run up p2 h2) (rev_run up p3 h3) (rev_run up p4 h4) (rev_run up p5 h5) s0 s1 s2 s3 s4 s5 d0 d1 d2 f0 f1 f2 (by omega))
  rw [e0, e1, e2] at HD
  have HD := Lib.hid HD
  have HB := Lib.hid hb
  clear s0 s1 s2 s3 s4 s5 d0 d1 d2 f0 f1 f2 hb
  generalize bs (six up p0 p1 p2 p3 p4 p5) = S at hsz hcv
  go_enter Tryd.func24, Tryd.ntmps24
  go_wp2_with (first | (go_at_call 29; go_in) | (go_at_call 30; refine HD.out.mono ?_; rintro e w3 ⟨rfl, rfl⟩))
  obtain ⟨F, hF, r0, r1, r2, hBF⟩ := tri_end w W2 _ _ _ (.int .u8 (v0 : Int)) (.int .u8 (v1 : Int)) (.int .u8 (v2 : Int)) _ HB.out
  rw [← hF]
  go_ret2
  exact ⟨_, rfl, r0, r1, r2, hBF⟩
end Go.Proofs.YtakckfghiaoonaaDoor
