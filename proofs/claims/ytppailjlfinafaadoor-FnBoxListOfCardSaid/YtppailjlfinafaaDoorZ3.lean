/-
FnBoxListOf: a box's name resolved: the walk. Condition: one of the five names.
-/
import Derived.Test.YtppailjlfinafaaDoorZ2
namespace Go.Proofs.YtppailjlfinafaaDoor
open Go.RowKit Go.ChangeShapes Go.Proofs.YtppailjlfinafaaDoorW.PrintWords

theorem prefix_calls (a b : List UInt8) (_ha : a.length ≤ 1000000) (_hb : b.length ≤ 1000000) (w : World) :
    Calls Tryd.prog 16 #[.string (bs a), .string (bs b)] w fun e w' => e = .returned (.bool (b.isPrefixOf a)) ∧ w = w' := by
  have hin : Calls Tryd.prog 21 #[.string (bs a), .string (bs b)] w fun e w' => e = .returned (.bool (b.isPrefixOf a)) ∧ w = w' := by
    have h1 := bs_size a
    have h2 := bs_size b
    have hx := bs_extract a 0 b.length
    have t2 := bs_toList b
    by_cases hl : b.length ≤ a.length
    · have hr : ((bs (a.take b.length)).toList == b) = b.isPrefixOf a := by
        rw [bs_toList, Bool.eq_iff_iff, beq_iff_eq, List.isPrefixOf_iff_prefix, List.prefix_iff_eq_take]
        exact eq_comm
      rw [List.drop_zero] at hx
      have hd : decide ((b.length : Int) ≤ (a.length : Int)) = true := by simp; omega
      generalize bs a = A at h1 hx
      generalize bs b = B at h2 t2
      generalize bs (a.take b.length) = T at hx hr
      go_enter Tryd.func21, Tryd.ntmps21
      go_wp2_with fail
      go_ret
      exact ⟨rfl, rfl⟩
    · have hr : b.isPrefixOf a = false := by
        rw [Bool.eq_false_iff, ne_eq, List.isPrefixOf_iff_prefix]
        intro h
        exact hl h.length_le
      have hd : decide ((b.length : Int) ≤ (a.length : Int)) = false := by simp; omega
      generalize bs a = A at h1 hx
      generalize bs b = B at h2 t2
      go_enter Tryd.func21, Tryd.ntmps21
      go_wp2_with fail
      go_ret
      exact ⟨congrArg (fun b => Ending.returned (Value.bool b)) hr.symm, rfl⟩
  have HI := Lib.hid hin
  clear hin
  generalize bs a = A at HI
  generalize bs b = B at HI
  go_enter Tryd.func16, Tryd.ntmps16
  go_wp2_with (go_at_call 21; refine HI.out.mono ?_; rintro e w1 ⟨rfl, rfl⟩)
  go_ret
  exact ⟨rfl, rfl⟩

/-- The boundaries' five pointers. -/
structure PB (w : World) (g : Nat) (ps : Nat → Option Addr) : Prop where
  cell : ∀ i, i < 5 → w.cell? ⟨g, i, none⟩ = some (.pointer (ps i))
  open_ : ∀ i, i < 5 → w.frozen? ⟨g, i, none⟩ = false
  lt : g < w.heap.size
def upd (ps : Nat → Option Addr) (k : Nat) (v : Option Addr) : Nat → Option Addr := fun i => if i = k then v else ps i
theorem PB.set {w w' : World} {g k b : Nat} {ps : Nat → Option Addr} (h : PB w g ps) (hk : k < 5) (hb : Below w.heap.size w w') : PB (w'.setCell ⟨g, k, none⟩ (.pointer (some ⟨b, 0, none⟩))) g (upd ps k (some ⟨b, 0, none⟩)) ∧ w.grownBy (w'.setCell ⟨g, k, none⟩ (.pointer (some ⟨b, 0, none⟩))) (some g) := by
  have hs := hb.size
  have hl := h.lt
  have hc : ∀ i, i < 5 → w'.cell? ⟨g, i, none⟩ = some (.pointer (ps i)) := fun i hi => pw_cell_below hb (h.cell i hi)
  have hblk : w'.heap[g]? = w.heap[g]? := hb.block g h.lt
  refine ⟨⟨fun i hi => ?_, fun i hi => ?_, by simp; omega⟩, ⟨hb.os, hb.tape, hb.output, by simp; omega, fun j hj hne => ?_⟩⟩
  · unfold upd
    by_cases e : i = k
    · subst e
      rw [if_pos rfl]
      exact World.cell?_setCell_same _ _ _ (hc i hi)
    · rw [if_neg e, World.cell?_setCell_other _ _ _ _ (by intro h; cases h; exact e rfl)]
      exact hc i hi
  · rw [World.frozen?_setCell, World.frozen?_of_block hblk]
    exact h.open_ i hi
  · rw [heap_setCell_other _ _ _ _ (by rintro rfl; exact hne rfl)]
    exact hb.block j hj

set_option maxRecDepth 100000 in
set_option maxHeartbeats 4000000 in
theorem resolve_0 (g : Nat) (ps : Nat → Option Addr) (w : World) (h : PB w g ps) : Calls Tryd.prog 11 #[.pointer (some ⟨g, 0, none⟩), .string (bs [109, 101, 100, 105, 97])] w fun e w' => e = .returned .nilIface ∧ ∃ b, PB w' g (upd ps 0 (some ⟨b, 0, none⟩)) ∧ w.grownBy w' (some g) := by
  have hc := h.cell 0 (by decide)
  have hf := h.open_ 0 (by decide)
  have H := Lib.hid h
  have kc : ∀ o0 o1, (((w.alloc o0).alloc o1)).cell? ⟨g, 0, none⟩ = some (.pointer (ps 0)) := fun o0 o1 => pw_cell_below (below_alloc (below_alloc (Below.refl _ _) _) _) hc
  have kf : ∀ o0 o1, (((w.alloc o0).alloc o1)).frozen? ⟨g, 0, none⟩ = false := fun o0 o1 => (World.frozen?_of_block (Below.block (below_alloc (below_alloc (Below.refl _ _) _) _) g h.lt)).trans hf
  clear h hc hf
  have p0 : List.isPrefixOf ([109, 101, 100, 105, 97] : List UInt8) [109, 101, 100, 105, 97] = true := by decide
  go_enter Tryd.func11, Tryd.ntmps11
  go_wp2_with fail
  refine wp_loop_rounds 1 ?_
  rw [rounds_succ]
  go_wp2_with (go_at_call 16; refine (prefix_calls [109, 101, 100, 105, 97] [109, 101, 100, 105, 97] (by decide) (by decide) _).mono ?_; rintro e w0 ⟨rfl, rfl⟩)
  go_ret
  exact ⟨rfl, _, H.out.set (by decide) (below_alloc (below_alloc (Below.refl _ _) _) _)⟩
set_option maxRecDepth 100000 in
set_option maxHeartbeats 4000000 in
theorem resolve_1 (g : Nat) (ps : Nat → Option Addr) (w : World) (h : PB w g ps) : Calls Tryd.prog 11 #[.pointer (some ⟨g, 0, none⟩), .string (bs [99, 114, 111, 112])] w fun e w' => e = .returned .nilIface ∧ ∃ b, PB w' g (upd ps 1 (some ⟨b, 0, none⟩)) ∧ w.grownBy w' (some g) := by
  have hc := h.cell 1 (by decide)
  have hf := h.open_ 1 (by decide)
  have H := Lib.hid h
  have kc : ∀ o0 o1 o2, ((((w.alloc o0).alloc o1).alloc o2)).cell? ⟨g, 1, none⟩ = some (.pointer (ps 1)) := fun o0 o1 o2 => pw_cell_below (below_alloc (below_alloc (below_alloc (Below.refl _ _) _) _) _) hc
  have kf : ∀ o0 o1 o2, ((((w.alloc o0).alloc o1).alloc o2)).frozen? ⟨g, 1, none⟩ = false := fun o0 o1 o2 => (World.frozen?_of_block (Below.block (below_alloc (below_alloc (below_alloc (Below.refl _ _) _) _) _) g h.lt)).trans hf
  clear h hc hf
  have p0 : List.isPrefixOf ([99, 114, 111, 112] : List UInt8) [109, 101, 100, 105, 97] = false := by decide
  have p1 : List.isPrefixOf ([99, 114, 111, 112] : List UInt8) [99, 114, 111, 112] = true := by decide
  go_enter Tryd.func11, Tryd.ntmps11
  go_wp2_with fail
  refine wp_loop_rounds 2 ?_
  rw [rounds_succ]
  go_wp2_with (go_at_call 16; refine (prefix_calls [109, 101, 100, 105, 97] [99, 114, 111, 112] (by decide) (by decide) _).mono ?_; rintro e w0 ⟨rfl, rfl⟩)
  rw [rounds_succ]
  go_wp2_with (go_at_call 16; refine (prefix_calls [99, 114, 111, 112] [99, 114, 111, 112] (by decide) (by decide) _).mono ?_; rintro e w1 ⟨rfl, rfl⟩)
  go_ret
  exact ⟨rfl, _, H.out.set (by decide) (below_alloc (below_alloc (below_alloc (Below.refl _ _) _) _) _)⟩
set_option maxRecDepth 100000 in
set_option maxHeartbeats 4000000 in
theorem resolve_2 (g : Nat) (ps : Nat → Option Addr) (w : World) (h : PB w g ps) : Calls Tryd.prog 11 #[.pointer (some ⟨g, 0, none⟩), .string (bs [116, 114, 105, 109])] w fun e w' => e = .returned .nilIface ∧ ∃ b, PB w' g (upd ps 2 (some ⟨b, 0, none⟩)) ∧ w.grownBy w' (some g) := by
  have hc := h.cell 2 (by decide)
  have hf := h.open_ 2 (by decide)
  have H := Lib.hid h
  have kc : ∀ o0 o1 o2 o3, (((((w.alloc o0).alloc o1).alloc o2).alloc o3)).cell? ⟨g, 2, none⟩ = some (.pointer (ps 2)) := fun o0 o1 o2 o3 => pw_cell_below (below_alloc (below_alloc (below_alloc (below_alloc (Below.refl _ _) _) _) _) _) hc
  have kf : ∀ o0 o1 o2 o3, (((((w.alloc o0).alloc o1).alloc o2).alloc o3)).frozen? ⟨g, 2, none⟩ = false := fun o0 o1 o2 o3 => (World.frozen?_of_block (Below.block (below_alloc (below_alloc (below_alloc (below_alloc (Below.refl _ _) _) _) _) _) g h.lt)).trans hf
  clear h hc hf
  have p0 : List.isPrefixOf ([116, 114, 105, 109] : List UInt8) [109, 101, 100, 105, 97] = false := by decide
  have p1 : List.isPrefixOf ([116, 114, 105, 109] : List UInt8) [99, 114, 111, 112] = false := by decide
  have p2 : List.isPrefixOf ([116, 114, 105, 109] : List UInt8) [116, 114, 105, 109] = true := by decide
  go_enter Tryd.func11, Tryd.ntmps11
  go_wp2_with fail
  refine wp_loop_rounds 3 ?_
  rw [rounds_succ]
  go_wp2_with (go_at_call 16; refine (prefix_calls [109, 101, 100, 105, 97] [116, 114, 105, 109] (by decide) (by decide) _).mono ?_; rintro e w0 ⟨rfl, rfl⟩)
  rw [rounds_succ]
  go_wp2_with (go_at_call 16; refine (prefix_calls [99, 114, 111, 112] [116, 114, 105, 109] (by decide) (by decide) _).mono ?_; rintro e w1 ⟨rfl, rfl⟩)
  rw [rounds_succ]
  go_wp2_with (go_at_call 16; refine (prefix_calls [116, 114, 105, 109] [116, 114, 105, 109] (by decide) (by decide) _).mono ?_; rintro e w2 ⟨rfl, rfl⟩)
  go_ret
  exact ⟨rfl, _, H.out.set (by decide) (below_alloc (below_alloc (below_alloc (below_alloc (Below.refl _ _) _) _) _) _)⟩
set_option maxRecDepth 100000 in
set_option maxHeartbeats 4000000 in
theorem resolve_3 (g : Nat) (ps : Nat → Option Addr) (w : World) (h : PB w g ps) : Calls Tryd.prog 11 #[.pointer (some ⟨g, 0, none⟩), .string (bs [98, 108, 101, 101, 100])] w fun e w' => e = .returned .nilIface ∧ ∃ b, PB w' g (upd ps 3 (some ⟨b, 0, none⟩)) ∧ w.grownBy w' (some g) := by
  have hc := h.cell 3 (by decide)
  have hf := h.open_ 3 (by decide)
  have H := Lib.hid h
  have kc : ∀ o0 o1 o2 o3 o4, ((((((w.alloc o0).alloc o1).alloc o2).alloc o3).alloc o4)).cell? ⟨g, 3, none⟩ = some (.pointer (ps 3)) := fun o0 o1 o2 o3 o4 => pw_cell_below (below_alloc (below_alloc (below_alloc (below_alloc (below_alloc (Below.refl _ _) _) _) _) _) _) hc
  have kf : ∀ o0 o1 o2 o3 o4, ((((((w.alloc o0).alloc o1).alloc o2).alloc o3).alloc o4)).frozen? ⟨g, 3, none⟩ = false := fun o0 o1 o2 o3 o4 => (World.frozen?_of_block (Below.block (below_alloc (below_alloc (below_alloc (below_alloc (below_alloc (Below.refl _ _) _) _) _) _) _) g h.lt)).trans hf
  clear h hc hf
  have p0 : List.isPrefixOf ([98, 108, 101, 101, 100] : List UInt8) [109, 101, 100, 105, 97] = false := by decide
  have p1 : List.isPrefixOf ([98, 108, 101, 101, 100] : List UInt8) [99, 114, 111, 112] = false := by decide
  have p2 : List.isPrefixOf ([98, 108, 101, 101, 100] : List UInt8) [116, 114, 105, 109] = false := by decide
  have p3 : List.isPrefixOf ([98, 108, 101, 101, 100] : List UInt8) [98, 108, 101, 101, 100] = true := by decide
  go_enter Tryd.func11, Tryd.ntmps11
  go_wp2_with fail
  refine wp_loop_rounds 4 ?_
  rw [rounds_succ]
  go_wp2_with (go_at_call 16; refine (prefix_calls [109, 101, 100, 105, 97] [98, 108, 101, 101, 100] (by decide) (by decide) _).mono ?_; rintro e w0 ⟨rfl, rfl⟩)
  rw [rounds_succ]
  go_wp2_with (go_at_call 16; refine (prefix_calls [99, 114, 111, 112] [98, 108, 101, 101, 100] (by decide) (by decide) _).mono ?_; rintro e w1 ⟨rfl, rfl⟩)
  rw [rounds_succ]
  go_wp2_with (go_at_call 16; refine (prefix_calls [116, 114, 105, 109] [98, 108, 101, 101, 100] (by decide) (by decide) _).mono ?_; rintro e w2 ⟨rfl, rfl⟩)
  rw [rounds_succ]
  go_wp2_with (go_at_call 16; refine (prefix_calls [98, 108, 101, 101, 100] [98, 108, 101, 101, 100] (by decide) (by decide) _).mono ?_; rintro e w3 ⟨rfl, rfl⟩)
  go_ret
  exact ⟨rfl, _, H.out.set (by decide) (below_alloc (below_alloc (below_alloc (below_alloc (below_alloc (Below.refl _ _) _) _) _) _) _)⟩
set_option maxRecDepth 100000 in
set_option maxHeartbeats 4000000 in
theorem resolve_4 (g : Nat) (ps : Nat → Option Addr) (w : World) (h : PB w g ps) : Calls Tryd.prog 11 #[.pointer (some ⟨g, 0, none⟩), .string (bs [97, 114, 116])] w fun e w' => e = .returned .nilIface ∧ ∃ b, PB w' g (upd ps 4 (some ⟨b, 0, none⟩)) ∧ w.grownBy w' (some g) := by
  have hc := h.cell 4 (by decide)
  have hf := h.open_ 4 (by decide)
  have H := Lib.hid h
  have kc : ∀ o0 o1 o2 o3 o4 o5, (((((((w.alloc o0).alloc o1).alloc o2).alloc o3).alloc o4).alloc o5)).cell? ⟨g, 4, none⟩ = some (.pointer (ps 4)) := fun o0 o1 o2 o3 o4 o5 => pw_cell_below (below_alloc (below_alloc (below_alloc (below_alloc (below_alloc (below_alloc (Below.refl _ _) _) _) _) _) _) _) hc
  have kf : ∀ o0 o1 o2 o3 o4 o5, (((((((w.alloc o0).alloc o1).alloc o2).alloc o3).alloc o4).alloc o5)).frozen? ⟨g, 4, none⟩ = false := fun o0 o1 o2 o3 o4 o5 => (World.frozen?_of_block (Below.block (below_alloc (below_alloc (below_alloc (below_alloc (below_alloc (below_alloc (Below.refl _ _) _) _) _) _) _) _) g h.lt)).trans hf
  clear h hc hf
  have p0 : List.isPrefixOf ([97, 114, 116] : List UInt8) [109, 101, 100, 105, 97] = false := by decide
  have p1 : List.isPrefixOf ([97, 114, 116] : List UInt8) [99, 114, 111, 112] = false := by decide
  have p2 : List.isPrefixOf ([97, 114, 116] : List UInt8) [116, 114, 105, 109] = false := by decide
  have p3 : List.isPrefixOf ([97, 114, 116] : List UInt8) [98, 108, 101, 101, 100] = false := by decide
  have p4 : List.isPrefixOf ([97, 114, 116] : List UInt8) [97, 114, 116] = true := by decide
  go_enter Tryd.func11, Tryd.ntmps11
  go_wp2_with fail
  refine wp_loop_rounds 5 ?_
  rw [rounds_succ]
  go_wp2_with (go_at_call 16; refine (prefix_calls [109, 101, 100, 105, 97] [97, 114, 116] (by decide) (by decide) _).mono ?_; rintro e w0 ⟨rfl, rfl⟩)
  rw [rounds_succ]
  go_wp2_with (go_at_call 16; refine (prefix_calls [99, 114, 111, 112] [97, 114, 116] (by decide) (by decide) _).mono ?_; rintro e w1 ⟨rfl, rfl⟩)
  rw [rounds_succ]
  go_wp2_with (go_at_call 16; refine (prefix_calls [116, 114, 105, 109] [97, 114, 116] (by decide) (by decide) _).mono ?_; rintro e w2 ⟨rfl, rfl⟩)
  rw [rounds_succ]
  go_wp2_with (go_at_call 16; refine (prefix_calls [98, 108, 101, 101, 100] [97, 114, 116] (by decide) (by decide) _).mono ?_; rintro e w3 ⟨rfl, rfl⟩)
  rw [rounds_succ]
  go_wp2_with (go_at_call 16; refine (prefix_calls [97, 114, 116] [97, 114, 116] (by decide) (by decide) _).mono ?_; rintro e w4 ⟨rfl, rfl⟩)
  go_ret
  exact ⟨rfl, _, H.out.set (by decide) (below_alloc (below_alloc (below_alloc (below_alloc (below_alloc (below_alloc (Below.refl _ _) _) _) _) _) _) _)⟩
end Go.Proofs.YtppailjlfinafaaDoor
