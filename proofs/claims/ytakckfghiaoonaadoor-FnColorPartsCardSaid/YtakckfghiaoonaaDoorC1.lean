/-
FnHexColor: the words of a byte's part of 255; colours compared, shown, made of a number: the walks. Condition: bytes.
-/
import Derived.Test.YtakckfghiaoonaaDoorZ1
import Derived.Laws.FloatArith
import Derived.Laws.Cover2
namespace Go.Proofs.YtakckfghiaoonaaDoor
open Go.RowKit Go.ChangeShapes Go.Proofs.YtakckfghiaoonaaDoorW.PrintWords

/-- What the walk lacks: the store of a float. -/
@[go_sem] theorem run_store_float {P : Program} (w : World) (a : Addr) (m : Mode) (k : FloatKind) (b : Nat) : (store a (.float k b) m).run P w = stored P w a (.float k b) m := run_store P w a _ m rfl
/-- A part of 255 as a word of 32 bits, the same as one of 64, the part as one of 64. -/
def c32 (b : Nat) : Nat := (floatBits .quo .f32 (floatOfInt .f32 (b : Int)) 1132396544).getD 0
def c64 (b : Nat) : Nat := (floatToFloatBits .f32 (c32 b) .f64).getD 0
def w64 (b : Nat) : Nat := (floatBits .quo .f64 (floatOfInt .f64 (b : Int)) 4643176031446892544).getD 0
/-- Two words are near. -/
def nearB (x y : Nat) : Bool := match floatBits .sub .f64 x y, floatBits .sub .f64 y x with
  | some d, some e => (FloatKind.f64.format.order d 4517329193108106637 == some Ordering.lt) && (FloatKind.f64.format.order e 4517329193108106637 == some Ordering.lt)
  | _, _ => false
def okC (b : Nat) : Bool := (floatBits .quo .f32 (floatOfInt .f32 (b : Int)) 1132396544 == some (c32 b)) && (floatToFloatBits .f32 (c32 b) .f64 == some (c64 b)) && (floatBits .quo .f64 (floatOfInt .f64 (b : Int)) 4643176031446892544 == some (w64 b)) && nearB (c64 b) (w64 b)
theorem okC_all : (List.range 256).all okC = true := by decide +kernel
structure Part (b : Nat) : Prop where
  q32 : floatBits .quo .f32 (floatOfInt .f32 (b : Int)) 1132396544 = some (c32 b)
  to64 : floatToFloatBits .f32 (c32 b) .f64 = some (c64 b)
  q64 : floatBits .quo .f64 (floatOfInt .f64 (b : Int)) 4643176031446892544 = some (w64 b)
  near : nearB (c64 b) (w64 b) = true
theorem part_of {b : Nat} (h : b < 256) : Part b := by
  have := List.all_eq_true.1 okC_all b (List.mem_range.2 h)
  unfold okC at this
  simp only [Bool.and_eq_true, beq_iff_eq] at this
  exact ⟨this.1.1.1, this.1.1.2, this.1.2, this.2⟩
theorem near_calls (x y : Nat) (h : nearB x y = true) (w : World) : Calls Tryd.prog 15 #[.float .f64 x, .float .f64 y] w fun e w' => e = .returned (.bool true) ∧ w = w' := by
  unfold nearB at h
  split at h
  · rename_i d e h1 h2
    simp only [Bool.and_eq_true] at h
    obtain ⟨h3, h4⟩ := h
    have o1 := fun (t : TypeId) (w : World) => run_float_arith (P := Tryd.prog) w .sub t .f64 x y d h1
    have o2 := fun (t : TypeId) (w : World) => run_float_arith (P := Tryd.prog) w .sub t .f64 y x e h2
    clear h1 h2
    go_enter Tryd.func15, Tryd.ntmps15
    go_wp2_with fail
    go_ret
    exact ⟨rfl, rfl⟩
  · cases h
abbrev rgb (a b c : Nat) : Value := .agg #[.float .f64 a, .float .f64 b, .float .f64 c]
abbrev rgb32 (a b c : Nat) : Value := .agg #[.float .f32 a, .float .f32 b, .float .f32 c]
set_option maxHeartbeats 1000000 in
theorem same_calls (a b c x y z : Nat) (h1 : nearB a x = true) (h2 : nearB b y = true) (h3 : nearB c z = true) (w : World) :
    Calls Tryd.prog 7 #[rgb a b c, rgb x y z] w fun e w' => e = .returned (.bool true) ∧ Below w.heap.size w w' := by
  have H1 := Lib.hid (fun W => near_calls a x h1 W)
  have H2 := Lib.hid (fun W => near_calls b y h2 W)
  have H3 := Lib.hid (fun W => near_calls c z h3 W)
  clear h1 h2 h3
  go_enter Tryd.func7, Tryd.ntmps7
  go_wp2_with (first | (go_at_call 15; with_reducible refine (H1.out _).mono ?_; rintro e w1 ⟨rfl, rfl⟩) | (go_at_call 15; with_reducible refine (H2.out _).mono ?_; rintro e w1 ⟨rfl, rfl⟩) | (go_at_call 15; with_reducible refine (H3.out _).mono ?_; rintro e w1 ⟨rfl, rfl⟩))
  go_ret
  exact ⟨rfl, below_alloc (below_alloc (Below.refl _ _) _) _⟩
set_option maxHeartbeats 1000000 in
theorem shade_calls (a b c : Nat) (pa : Part a) (pb : Part b) (pc : Part c) (w : World) :
    Calls Tryd.prog 14 #[rgb32 (c32 a) (c32 b) (c32 c)] w fun e w' => e = .returned (rgb (c64 a) (c64 b) (c64 c)) ∧ Below w.heap.size w w' := by
  have k1 := fun (w : World) => run_convert_float_float (P := Tryd.prog) w 36 24 .f32 .f64 _ _ (by kernel_rfl) (by kernel_rfl) pa.to64
  have k2 := fun (w : World) => run_convert_float_float (P := Tryd.prog) w 36 24 .f32 .f64 _ _ (by kernel_rfl) (by kernel_rfl) pb.to64
  have k3 := fun (w : World) => run_convert_float_float (P := Tryd.prog) w 36 24 .f32 .f64 _ _ (by kernel_rfl) (by kernel_rfl) pc.to64
  clear pa pb pc
  generalize c32 a = a' at *
  generalize c32 b = b' at *
  generalize c32 c = c' at *
  go_enter Tryd.func14, Tryd.ntmps14
  go_wp2_with fail
  exact bodyPost_ret (v := rgb (c64 a) (c64 b) (c64 c)) (by simp [results, Tryd.results14, go_sem]) rfl ⟨rfl, below_alloc (below_alloc (Below.refl _ _) _) _⟩
theorem and255_u32 (x : Int) (h0 : 0 ≤ x) (h1 : x < 2147483648) : bits .and .u32 x 255 = x % 256 :=
  bits_mask .u32 31 (by decide) (fun n h0 h1 => by rw [IntKind.wrap_u32]; omega) 8 (by decide) x h0 (by omega)
theorem and255_i64 (x : Int) (h0 : 0 ≤ x) (h1 : x < 2147483648) : bits .and .i64 x 255 = x % 256 :=
  bits_mask .i64 31 (by decide) (fun n h0 h1 => by rw [IntKind.wrap_i64]; omega) 8 (by decide) x h0 (by omega)
theorem and15_i64 (x : Int) (h0 : 0 ≤ x) (h1 : x < 2147483648) : bits .and .i64 x 15 = x % 16 :=
  bits_mask .i64 31 (by decide) (fun n h0 h1 => by rw [IntKind.wrap_i64]; omega) 4 (by decide) x h0 (by omega)
/-- A number's three bytes. -/
structure Three (N a e b c : Nat) : Prop where
  top : (N : Int) / 65536 = a
  mid : (N : Int) / 256 = e
  ha : a < 256
  he : e < 65536
  hN : N < 16777216
  hb : b = e % 256
  hc : c = N % 256
theorem Three.part {N a e b c : Nat} (h : Three N a e b c) : Part a ∧ Part b ∧ Part c := ⟨part_of h.ha, part_of (by have := h.hb; omega), part_of (by have := h.hc; omega)⟩
theorem quo32 {b : Nat} (h : Part b) : ∀ (t : TypeId) (w : World), (binOp .quo t (.float .f32 (floatOfInt .f32 (b : Int))) (.float .f32 1132396544)).run Tryd.prog w = .ok (.float .f32 (c32 b)) w := fun t w => run_float_arith w .quo t .f32 _ _ _ h.q32
theorem quo64 {b : Nat} (h : Part b) : ∀ (t : TypeId) (w : World), (binOp .quo t (.float .f64 (floatOfInt .f64 (b : Int))) (.float .f64 4643176031446892544)).run Tryd.prog w = .ok (.float .f64 (w64 b)) w := fun t w => run_float_arith w .quo t .f64 _ _ _ h.q64
set_option maxHeartbeats 1000000 in
theorem tri_new (w W : World) (x y z : Value) (T : TypeId) (hb : Below (w.alloc (.cells #[x, y, z] T)).heap.size (w.alloc (.cells #[x, y, z] T)) W) :
    (W.cell? ⟨w.heap.size, 0, none⟩ = some x ∧ W.cell? ⟨w.heap.size, 1, none⟩ = some y ∧ W.cell? ⟨w.heap.size, 2, none⟩ = some z) ∧ W.frozen? ⟨w.heap.size, 0, none⟩ = false ∧ W.frozen? ⟨w.heap.size, 1, none⟩ = false ∧ W.frozen? ⟨w.heap.size, 2, none⟩ = false := by
  have h := (hb.block w.heap.size (by simp)).trans (blk_new w _)
  exact ⟨⟨blk_cell h 0, blk_cell h 1, blk_cell h 2⟩, frozen_of_row _ _ 0 _ _ h, frozen_of_row _ _ 1 _ _ h, frozen_of_row _ _ 2 _ _ h⟩
theorem three_sets (w : World) (b : Nat) (v0 v1 v2 u0 u1 u2 : Value) (r0 : w.cell? ⟨b, 0, none⟩ = some u0) (r1 : w.cell? ⟨b, 1, none⟩ = some u1) (r2 : w.cell? ⟨b, 2, none⟩ = some u2) (W : World)
    (hW : (((w.setCell ⟨b, 0, none⟩ v0).setCell ⟨b, 1, none⟩ v1).setCell ⟨b, 2, none⟩ v2) = W) : W.cell? ⟨b, 0, none⟩ = some v0 ∧ W.cell? ⟨b, 1, none⟩ = some v1 ∧ W.cell? ⟨b, 2, none⟩ = some v2 := by
  have ne : ∀ i j : Nat, i ≠ j → (⟨b, i, none⟩ : Addr) ≠ ⟨b, j, none⟩ := fun i j h e => by cases e; exact h rfl
  subst hW
  refine ⟨?_, ?_, ?_⟩
  · rw [World.cell?_setCell_other _ _ _ _ (ne 2 0 (by decide)), World.cell?_setCell_other _ _ _ _ (ne 1 0 (by decide))]
    exact World.cell?_setCell_same _ _ _ r0
  · rw [World.cell?_setCell_other _ _ _ _ (ne 2 1 (by decide))]
    exact World.cell?_setCell_same _ _ _ ((World.cell?_setCell_other _ _ _ _ (ne 0 1 (by decide))).trans r1)
  · exact World.cell?_setCell_same _ _ _ ((World.cell?_setCell_other _ _ _ _ (ne 1 2 (by decide))).trans ((World.cell?_setCell_other _ _ _ _ (ne 0 2 (by decide))).trans r2))
theorem tri_end (w W : World) (x y z v0 v1 v2 : Value) (T : TypeId) (hb : Below (w.alloc (.cells #[x, y, z] T)).heap.size (w.alloc (.cells #[x, y, z] T)) W) :
    ∃ F, F = (((W.setCell ⟨w.heap.size, 0, none⟩ v0).setCell ⟨w.heap.size, 1, none⟩ v1).setCell ⟨w.heap.size, 2, none⟩ v2) ∧ F.cell? ⟨w.heap.size, 0, none⟩ = some v0 ∧ F.cell? ⟨w.heap.size, 1, none⟩ = some v1 ∧ F.cell? ⟨w.heap.size, 2, none⟩ = some v2 ∧ Below w.heap.size w F := by
  obtain ⟨⟨k0, k1, k2⟩, _⟩ := tri_new w W x y z T hb
  obtain ⟨r0, r1, r2⟩ := three_sets W w.heap.size v0 v1 v2 x y z k0 k1 k2 _ rfl
  have hs : (w.alloc (.cells #[x, y, z] T)).heap.size = w.heap.size + 1 := by simp
  rw [hs] at hb
  exact ⟨_, rfl, r0, r1, r2, (((((Below.refl _ w).alloc (Nat.le_refl _) _).trans (hb.mono (Nat.le_succ _))).setCell (Nat.le_refl _) _).setCell (Nat.le_refl _) _).setCell (Nat.le_refl _) _⟩
theorem simple_calls (N a e b c : Nat) (h : Three N a e b c) (w : World) :
    Calls Tryd.prog 18 #[.int .u32 N] w fun e w' => e = .returned (rgb32 (c32 a) (c32 b) (c32 c)) ∧ Below w.heap.size w w' := by
  have q1 := h.top
  have q2 := h.mid
  have b1 : bits .and .u32 (a : Int) 255 = (a : Int) := by rw [and255_u32 _ (by omega) (by have := h.ha; omega)]; have := h.ha; omega
  have b2 : bits .and .u32 (e : Int) 255 = (b : Int) := by rw [and255_u32 _ (by omega) (by have := h.he; omega)]; have := h.hb; omega
  have b3 : bits .and .u32 (N : Int) 255 = (c : Int) := by rw [and255_u32 _ (by omega) (by have := h.hN; omega)]; have := h.hc; omega
  obtain ⟨pa, pb, pc⟩ := h.part
  have k1 := quo32 pa
  have k2 := quo32 pb
  have k3 := quo32 pc
  clear h pa pb pc
  go_enter Tryd.func18, Tryd.ntmps18
  go_wp2_with fail
  exact bodyPost_ret (v := rgb32 (c32 a) (c32 b) (c32 c)) (by simp [results, Tryd.results18, go_sem]) rfl ⟨rfl, below_alloc (Below.refl _ _) _⟩
theorem number_calls (N a e b c : Nat) (h : Three N a e b c) (w : World) :
    Calls Tryd.prog 9 #[.int .u32 N] w fun e w' => e = .returned (rgb (c64 a) (c64 b) (c64 c)) ∧ Below w.heap.size w w' := by
  have H1 := Lib.hid (fun W => simple_calls N a e b c h W)
  obtain ⟨pa, pb, pc⟩ := h.part
  have H2 := Lib.hid (fun W => shade_calls a b c pa pb pc W)
  clear h pa pb pc
  go_enter Tryd.func9, Tryd.ntmps9
  go_wp2_with (first | (go_at_call 18; refine (H1.out _).mono ?_; rintro e w1 ⟨rfl, hb1⟩) | (go_at_call 14; refine (H2.out _).mono ?_; rintro e w2 ⟨rfl, hb2⟩; have hb := hb1.trans (hb2.mono hb1.size); obtain ⟨⟨k0, k1, k2⟩, f0, f1, f2⟩ := tri_new w w2 _ _ _ _ hb))
  obtain ⟨F, hF, r0, r1, r2, hB⟩ := tri_end w w2 _ _ _ (.float .f64 (c64 a)) (.float .f64 (c64 b)) (.float .f64 (c64 c)) _ hb
  rw [← hF]
  exact bodyPost_ret (v := rgb (c64 a) (c64 b) (c64 c)) (by simp [results, Tryd.results9, go_sem, r0, r1, r2]) rfl ⟨rfl, hB⟩
end Go.Proofs.YtakckfghiaoonaaDoor
