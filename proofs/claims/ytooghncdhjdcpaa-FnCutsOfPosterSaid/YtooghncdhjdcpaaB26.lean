/-
The law FnGridRects: impl.GridRects walked. Conditions: at most ten rows and columns; the operations' words are given.
-/
import Derived.Test.YtooghncdhjdcpaaB25
import Derived.BigQuiet
import Derived.Deep.QuietTactic
import Derived.Deep.DeepCutAuto
import Derived.Deep.AppendLies
import Derived.Deep.MidRow
import Derived.Deep.Onto
import Derived.Tactics2
namespace Go.Proofs.Ytooghncdhjdcpaa
open Go.RowKit Fl

theorem fn_mul : ∀ r, r < 11 → ∀ c, c < 11 → (match floatBits .mul .f64 (floatOfInt .f64 ((r : Nat) : Int)) (floatOfInt .f64 ((c : Nat) : Int)) with | some m => floatToIntVal .f64 m .i64 == some ((r * c : Nat) : Int) | none => false) = true := by decide +kernel
theorem n_mul {r c : Nat} (hr : r < 11) (hc : c < 11) : ∃ m, floatBits .mul .f64 (floatOfInt .f64 (r : Int)) (floatOfInt .f64 (c : Int)) = some m ∧ floatToIntVal .f64 m .i64 = some ((r * c : Nat) : Int) := by
  have := fn_mul r hr c hc
  split at this
  · rename_i m hm
    exact ⟨m, hm, by simpa using this⟩
  · cases this
/-- NUp.N: how many cells a grid has. -/
theorem nup_n {cols rows pd gd : Nat} {o : Int} (hc : cols < 11) (hr : rows < 11) (w : World) (hg : PtAt w gd (floatOfInt .f64 (cols : Int)) (floatOfInt .f64 (rows : Int))) (hgl : gd < w.heap.size) :
    Calls Try.prog 95 #[nupV pd gd o] w fun e w' => e = .returned (.int .i64 ((rows * cols : Nat) : Int)) ∧ Below w.heap.size w w' := by
  have hgn : gd ≠ w.heap.size := by omega
  obtain ⟨g0, g1, _, _⟩ := hg
  obtain ⟨m, e1, e2⟩ := n_mul hr hc
  have t1 := fun w => run_convert_float_int (P := Try.prog) w 22 3 .f64 .i64 _ _ (by kernel_rfl) Try.underlying3 e2
  have u1 := run_bin (P := Try.prog) .mul e1
  obtain ⟨z, hz⟩ : ∃ z : Int, z = ((rows * cols : Nat) : Int) := ⟨_, rfl⟩
  rw [← hz] at t1
  rw [← hz]
  clear e1 e2 hz
  go_enter Try.func95, Try.ntmps95
  go_wp2_with fail
  go_quiet (fail)
  go_wp2_with fail
  go_ret
  exact ⟨rfl, bel_drewN _ (below1 _ _)⟩

theorem default_nup (w : World) : Calls Try.prog 93 #[] w fun e w' => e = .returned (ptrV w.heap.size) ∧ w.alloc (.cells #[.pointer none, .string ⟨#[65, 52]⟩, .bool false, .int .i64 0, .bool true, .pointer none, .bool false, .bool false, .float .f64 4613937818241073152, .bool true, .pointer none, .bool false, .bool false, .int .i64 0, .int .i64 0, .int .i64 0, .int .i64 0, .pointer none] 151) = w' := by
  go_enter Try.func93, Try.ntmps93
  go_wp2
  go_ret
  exact ⟨rfl, rfl⟩

/-- The eighteen cells of a NUp. -/
def NupAt (w : World) (nb : Nat) (a b : Value) (o : Int) : Prop :=
  w.cell? ⟨nb, 0, none⟩ = some a ∧ w.cell? ⟨nb, 1, none⟩ = some (.string ⟨#[65, 52]⟩) ∧ w.cell? ⟨nb, 2, none⟩ = some (.bool false) ∧ w.cell? ⟨nb, 3, none⟩ = some (.int .i64 o) ∧ w.cell? ⟨nb, 4, none⟩ = some (.bool true) ∧ w.cell? ⟨nb, 5, none⟩ = some b ∧
  w.cell? ⟨nb, 6, none⟩ = some (.bool false) ∧ w.cell? ⟨nb, 7, none⟩ = some (.bool false) ∧ w.cell? ⟨nb, 8, none⟩ = some (.float .f64 4613937818241073152) ∧ w.cell? ⟨nb, 9, none⟩ = some (.bool true) ∧ w.cell? ⟨nb, 10, none⟩ = some (.pointer none) ∧ w.cell? ⟨nb, 11, none⟩ = some (.bool false) ∧ w.cell? ⟨nb, 12, none⟩ = some (.bool false) ∧
  w.cell? ⟨nb, 13, none⟩ = some (.int .i64 0) ∧ w.cell? ⟨nb, 14, none⟩ = some (.int .i64 0) ∧ w.cell? ⟨nb, 15, none⟩ = some (.int .i64 0) ∧ w.cell? ⟨nb, 16, none⟩ = some (.int .i64 0) ∧ w.cell? ⟨nb, 17, none⟩ = some (.pointer none)
def nupL (a b : Value) (o : Int) : List Value := [a, .string ⟨#[65, 52]⟩, .bool false, .int .i64 o, .bool true, b, .bool false, .bool false, .float .f64 4613937818241073152, .bool true, .pointer none, .bool false, .bool false, .int .i64 0, .int .i64 0, .int .i64 0, .int .i64 0, .pointer none]
/-- A block that reads as a list, and may be written. -/
def ListAt (w : World) (b : Nat) (l : List Value) : Prop := b < w.heap.size ∧ ∀ i u, l[i]? = some u → w.cell? ⟨b, i, none⟩ = some u ∧ w.frozen? ⟨b, i, none⟩ = false
theorem ListAt.below {w w' : World} {b : Nat} {l : List Value} (h : ListAt w b l) (hb : Below w.heap.size w w') : ListAt w' b l :=
  ⟨Nat.lt_of_lt_of_le h.1 hb.size, fun i u hu => ⟨(hb.cell (p := ⟨b, i, none⟩) h.1).trans (h.2 i u hu).1, (hb.frozen (p := ⟨b, i, none⟩) h.1).trans (h.2 i u hu).2⟩⟩
theorem ListAt.set {w : World} {b : Nat} {l : List Value} (h : ListAt w b l) (k : Nat) (v : Value) : ListAt (w.setCell ⟨b, k, none⟩ v) b (l.set k v) := by
  refine ⟨by simpa using h.1, fun i u hu => ?_⟩
  rw [List.getElem?_set] at hu
  have hi : i < l.length := by
    rcases Nat.lt_or_ge i l.length with q | q
    · exact q
    · split at hu
      · rename_i e; subst e; rw [if_neg (by omega)] at hu; cases hu
      · rw [List.getElem?_eq_none q] at hu; cases hu
  obtain ⟨old, ho⟩ : ∃ x, l[i]? = some x := ⟨_, List.getElem?_eq_getElem hi⟩
  refine ⟨?_, (World.frozen?_setCell w _ _ _).trans (h.2 i _ ho).2⟩
  by_cases e : k = i
  · subst e
    rw [if_pos rfl, if_pos hi] at hu
    cases hu
    exact World.cell?_setCell_same w _ _ (h.2 k _ ho).1
  · rw [if_neg e] at hu
    exact (World.cell?_setCell_other w ⟨b, k, none⟩ ⟨b, i, none⟩ _ (by intro c; exact e (congrArg Addr.off c))).trans (h.2 i _ hu).1
theorem ListAt.far {w : World} {b b' k : Nat} {l : List Value} {v : Value} (h : ListAt w b l) (hne : b ≠ b') : ListAt (w.setCell ⟨b', k, none⟩ v) b l :=
  ⟨by simpa using h.1, fun i u hu => ⟨(World.cell?_setCell_other w ⟨b', k, none⟩ ⟨b, i, none⟩ _ (by intro c; exact hne (congrArg Addr.block c).symm)).trans (h.2 i u hu).1, (World.frozen?_setCell w _ _ _).trans (h.2 i u hu).2⟩⟩
theorem listAt_new (w : World) (n : Nat) (hn : n = w.heap.size) (l : List Value) (t : TypeId) : ListAt (w.alloc (.cells l.toArray t)) n l := by
  subst hn
  refine ⟨by simp, fun i u hu => ⟨?_, ?_⟩⟩
  · rw [cell_alloc_at]; simpa using hu
  · simp only [World.frozen?, World.alloc, Array.getElem?_push, if_true]; rfl
theorem nup_cells {w : World} {nb : Nat} {a b : Value} {o : Int} (h : ListAt w nb (nupL a b o)) : NupAt w nb a b o :=
  ⟨(h.2 0 _ rfl).1, (h.2 1 _ rfl).1, (h.2 2 _ rfl).1, (h.2 3 _ rfl).1, (h.2 4 _ rfl).1, (h.2 5 _ rfl).1, (h.2 6 _ rfl).1, (h.2 7 _ rfl).1, (h.2 8 _ rfl).1, (h.2 9 _ rfl).1, (h.2 10 _ rfl).1, (h.2 11 _ rfl).1, (h.2 12 _ rfl).1, (h.2 13 _ rfl).1, (h.2 14 _ rfl).1, (h.2 15 _ rfl).1, (h.2 16 _ rfl).1, (h.2 17 _ rfl).1⟩
theorem pt_of {w : World} {b x y : Nat} (h : ListAt w b [.float .f64 x, .float .f64 y]) : PtAt w b x y := ⟨(h.2 0 _ rfl).1, (h.2 1 _ rfl).1, (h.2 0 _ rfl).2, (h.2 1 _ rfl).2⟩
/-- What the settings hold before the rectangles are made. -/
def NupS (w : World) (nb : Nat) (X Y cx cy : Nat) (o : Int) (W : World) : Prop :=
  ∃ pd gd, Below w.heap.size w W ∧ ListAt W nb (nupL (ptrV pd) (ptrV gd) o) ∧ ListAt W pd [.float .f64 X, .float .f64 Y] ∧ ListAt W gd [.float .f64 cx, .float .f64 cy] ∧ w.heap.size ≤ nb ∧ nb ≠ pd ∧ nb ≠ gd
/-- The start of a region: the arguments' blocks. -/
def NupR (w : World) (nb : Nat) (X Y cx cy : Nat) (W : World) : Prop :=
  Below w.heap.size w W ∧ ListAt W w.heap.size [.float .f64 X, .float .f64 Y] ∧ ListAt W (w.heap.size + 1) [.float .f64 cx, .float .f64 cy] ∧ nb = w.heap.size + 1 + 1 ∧ nb < W.heap.size
theorem NupR.keep {w W W' : World} {nb X Y cx cy : Nat} (h : NupR w nb X Y cx cy W) (hb : Below W.heap.size W W') : NupR w nb X Y cx cy W' :=
  ⟨h.1.trans (hb.mono h.1.size), h.2.1.below hb, h.2.2.1.below hb, h.2.2.2.1, Nat.lt_of_lt_of_le h.2.2.2.2 hb.size⟩
theorem NupR.set {w W : World} {nb X Y cx cy k : Nat} {v : Value} (h : NupR w nb X Y cx cy W) : NupR w nb X Y cx cy (W.setCell ⟨nb, k, none⟩ v) :=
  ⟨h.1.setCell (by have := h.2.2.2.1; show w.heap.size ≤ nb; omega) _, h.2.1.far (by have := h.2.2.2.1; omega), h.2.2.1.far (by have := h.2.2.2.1; omega), h.2.2.2.1, by have := h.2.2.2.2; simpa using this⟩
theorem wp_abs26 {P : Program} {c : Code} {Q : Exit → Act → World → Prop} {a : Act} {W : World} (S : World → Prop) (hs : S W) (h : ∀ w', S w' → c.wp P Q a w') : c.wp P Q a W := h W hs
/-- What the loop over the rectangles has collected: values in a row of its own, four words each. -/
def flat (A B C D : Nat → Nat) : Nat → List Value
  | 0 => []
  | n + 1 => flat A B C D n ++ [.float .f64 (A n), .float .f64 (B n), .float .f64 (C n), .float .f64 (D n)]
theorem flat_len (A B C D : Nat → Nat) (n : Nat) : (flat A B C D n).length = n * 4 := by
  induction n with
  | zero => rfl
  | succ n ih => simp [flat, ih]; omega
theorem flat_at (A B C D : Nat → Nat) (n k : Nat) (h : k < n) : (flat A B C D n)[k * 4]? = some (.float .f64 (A k)) ∧ (flat A B C D n)[k * 4 + 1]? = some (.float .f64 (B k)) ∧ (flat A B C D n)[k * 4 + 2]? = some (.float .f64 (C k)) ∧ (flat A B C D n)[k * 4 + 3]? = some (.float .f64 (D k)) := by
  induction n with
  | zero => omega
  | succ n ih =>
    have hl := flat_len A B C D n
    rcases Nat.lt_or_ge k n with q | q
    · obtain ⟨a, b, c, d⟩ := ih q
      simp only [flat]
      exact ⟨by rw [List.getElem?_append_left (by omega)]; exact a, by rw [List.getElem?_append_left (by omega)]; exact b, by rw [List.getElem?_append_left (by omega)]; exact c, by rw [List.getElem?_append_left (by omega)]; exact d⟩
    · obtain rfl : k = n := by omega
      simp only [flat]
      exact ⟨by rw [List.getElem?_append_right (by omega), hl, Nat.sub_self]; rfl, by rw [List.getElem?_append_right (by omega), hl, Nat.add_sub_cancel_left]; rfl, by rw [List.getElem?_append_right (by omega), hl, Nat.add_sub_cancel_left]; rfl, by rw [List.getElem?_append_right (by omega), hl, Nat.add_sub_cancel_left]; rfl⟩
theorem info36 : (Try.prog.info? 36).map (fun i => (i.zero, i.size, i.bytes)) = some (some (.agg #[.float .f64 0, .float .f64 0, .float .f64 0, .float .f64 0]), 4, 32) := by kernel_rfl

theorem own_keep {W W' : World} {base : Nat} {e : TypeId} {size n : Nat} {v : Value} {xs : List Value} (h : W.ownsRow base e size v n xs) (hb : Below W.heap.size W W') : W'.ownsRow base e size v n xs :=
  h.kept (row := none) ⟨hb.os, hb.tape, hb.output, hb.size, fun k hk _ => hb.block k hk⟩ (by cases hv : v.ownBlock <;> simp)
theorem own_step {w1 wr w' : World} {k a b c d : Nat} {v v' : Value} {A B C D : Nat → Nat} (hb : Below w1.heap.size w1 wr) (ho : wr.ownsRow w1.heap.size 36 4 v k (flat A B C D k)) (ea : A k = a) (eb : B k = b) (ec : C k = c) (ed : D k = d)
    (ho' : w'.ownsRow w1.heap.size 36 4 v' (k + 1) (flat A B C D k ++ [.float .f64 a, .float .f64 b, .float .f64 c, .float .f64 d])) {W2 : World} (hW : Below wr.heap.size wr W2) (hg : W2.grownBy w' v.ownBlock) : Below w1.heap.size w1 w' ∧ w'.ownsRow w1.heap.size 36 4 v' (k + 1) (flat A B C D (k + 1)) := by
  refine ⟨(hb.trans (hW.mono hb.size)).grown hg (by have := hb.size; have := hW.size; omega) (fun j hj => (ho.lt j hj).1), ?_⟩
  subst ea; subst eb; subst ec; subst ed
  exact ho'
/-- The call's start at a page, a grid, and the region behind. -/
def NupT (nb : Nat) (pd gd : Nat) (q : Int) (w1 W : World) : Prop := Below w1.heap.size w1 W ∧ ListAt W nb (nupL (ptrV pd) (ptrV gd) q)

set_option linter.unusedSimpArgs false in
set_option maxRecDepth 100000 in
set_option maxHeartbeats 16000000 in
theorem gridrects_0 {X Y cols rows N : Nat} {A B C D : Nat → Nat} (hc : cols < 11) (hr : rows < 11) (cx cy : Nat) (hcx : floatOfInt .f64 (cols : Int) = cx) (hcy : floatOfInt .f64 (rows : Int) = cy) (w : World)
    (hN0 : 0 < N) (hN1 : N < 1000)
    (H94 : ∀ (W : World) (pd gd : Nat), PtAt W pd X Y → PtAt W gd cx cy → pd < W.heap.size → gd < W.heap.size → Calls Try.prog 94 #[nupV pd gd 0] W fun e w' => ∃ v, e = .returned v ∧ Coll W N A B C D v w')
    (c1 : (FloatKind.f64.format.order cx 4607182418800017408 == some Ordering.gt || FloatKind.f64.format.order cx 4607182418800017408 == some Ordering.eq) = true)
    (c2 : (FloatKind.f64.format.order cx 4632233691727265792 == some Ordering.lt || FloatKind.f64.format.order cx 4632233691727265792 == some Ordering.eq) = true)
    (c3 : (FloatKind.f64.format.order cy 4607182418800017408 == some Ordering.gt || FloatKind.f64.format.order cy 4607182418800017408 == some Ordering.eq) = true)
    (c4 : (FloatKind.f64.format.order cy 4632233691727265792 == some Ordering.lt || FloatKind.f64.format.order cy 4632233691727265792 == some Ordering.eq) = true) :
    Calls Try.prog 57 #[pt X Y, pt cx cy, .int .i64 0] w fun e w' => ∃ v, e = .returned (.tuple #[v, .int .i64 ((rows * cols : Nat) : Int)]) ∧ Below w.heap.size w w' ∧ w'.ownsRow w.heap.size 36 4 v N (flat A B C D N) := by
  have HCX := Lib.hid hcx
  have HCY := Lib.hid hcy
  have HH := Lib.hid H94
  have HN0 := Lib.hid hN0
  obtain ⟨z, hz⟩ : ∃ z : Int, ((rows * cols : Nat) : Int) = z := ⟨_, rfl⟩
  rw [hz]
  have HZ := Lib.hid hz
  clear hcx hcy H94 hN0 hz
  obtain ⟨i0, hi, hz0, hz1, hz2⟩ := info_parts info36
  go_enter Try.func57, Try.ntmps57
  go_wp2_with (go_at_call 93; refine (default_nup _).mono ?_; rintro e w' ⟨rfl, rfl⟩)
  have hF0 : NupR w (w.heap.size + 1 + 1) X Y cx cy (((w.alloc (.cells #[.float .f64 X, .float .f64 Y] 28)).alloc (.cells #[.float .f64 cx, .float .f64 cy] 28)).alloc (.cells (nupL (.pointer none) (.pointer none) 0).toArray 151)) :=
    ⟨below3 _ _ _ _, ((listAt_new w _ rfl [.float .f64 X, .float .f64 Y] 28).below (below1 _ _)).below (below1 _ _), (listAt_new _ _ (by simp) [.float .f64 cx, .float .f64 cy] 28).below (below1 _ _), rfl, by simp⟩
  have hN0 : ListAt (((w.alloc (.cells #[.float .f64 X, .float .f64 Y] 28)).alloc (.cells #[.float .f64 cx, .float .f64 cy] 28)).alloc (.cells (nupL (.pointer none) (.pointer none) 0).toArray 151)) (w.heap.size + 1 + 1) (nupL (.pointer none) (.pointer none) 0) := listAt_new _ _ (by simp) _ _
  refine wp_abs26 (fun W => NupR w (w.heap.size + 1 + 1) X Y cx cy W ∧ ListAt W (w.heap.size + 1 + 1) (nupL (.pointer none) (.pointer none) 0)) ⟨hF0, hN0⟩ ?_
  clear hF0 hN0
  generalize hnb : w.heap.size + 1 + 1 = nb
  rintro W ⟨hF, hN⟩
  go_cut [8] (fun s8 wx => s8 = ptrV nb ∧ NupS w nb X Y cx cy 0 wx)
  case first =>
    have hnl : nb < W.drew.heap.size := hN.1
    refine wp_region_noPanic ?_
    refine wp_region_held_drew (S := NupR w nb X Y cx cy) (by kernel_rfl) ?_ (fun hHeld => ?_)
    · exact hF.keep (Below.refl _ _).drew
    have hN := hN.below ((Below.refl _ W).drew : Below W.heap.size W W.drew)
    generalize W.drew = W0 at *
    refine wpAnyH_take (i := 0) (v := ptrV nb) rfl (by kernel_rfl) (by kernel_rfl) (by kernel_rfl) (fun _ _ _ h => h) (Or.inl ⟨by rfl, ?y1⟩) (by assumption) ?r1
    case y1 =>
      intro w1 hSw
      go_simp
      try with_reducible rfl
    try simp only [List.getElem_toArray, List.getElem_cons_zero, List.getElem_cons_succ, Act.put, List.setIfInBounds_toArray, List.set_cons_zero, List.set_cons_succ]
    refine wpAnyH_take (i := 1) (v := ptrV nb) rfl (by kernel_rfl) (by kernel_rfl) (by kernel_rfl) (fun _ _ _ h => h) (Or.inl ⟨by rfl, ?y2⟩) (by assumption) ?r2
    case y2 =>
      intro w1 hSw
      go_simp
      try with_reducible rfl
    try simp only [List.getElem_toArray, List.getElem_cons_zero, List.getElem_cons_succ, Act.put, List.setIfInBounds_toArray, List.set_cons_zero, List.set_cons_succ]
    refine wpAnyH_take (i := 2) (v := ptrV w.heap.size) rfl (by kernel_rfl) (by kernel_rfl) (by kernel_rfl) (fun _ _ _ h => h) (Or.inl ⟨by rfl, ?y3⟩) (by assumption) ?r3
    case y3 =>
      intro w1 hSw
      go_simp
      try with_reducible rfl
    try simp only [List.getElem_toArray, List.getElem_cons_zero, List.getElem_cons_succ, Act.put, List.setIfInBounds_toArray, List.set_cons_zero, List.set_cons_succ]
    refine wpAnyH_take (i := 3) (v := .float .f64 X) rfl (by kernel_rfl) (by kernel_rfl) (by kernel_rfl) (fun _ _ _ h => h) (Or.inl ⟨by rfl, ?y4⟩) (by assumption) ?r4
    case y4 =>
      intro w1 hSw
      obtain ⟨k0, k1, _, _⟩ := pt_of hSw.2.1
      go_simp
      try with_reducible rfl
    try simp only [List.getElem_toArray, List.getElem_cons_zero, List.getElem_cons_succ, Act.put, List.setIfInBounds_toArray, List.set_cons_zero, List.set_cons_succ]
    refine wpAnyH_take (i := 4) (v := .pointer (some ⟨w.heap.size, 1, none⟩)) rfl (by kernel_rfl) (by kernel_rfl) (by kernel_rfl) (fun _ _ _ h => h) (Or.inl ⟨by rfl, ?y5⟩) (by assumption) ?r5
    case y5 =>
      intro w1 hSw
      go_simp
      try with_reducible rfl
    try simp only [List.getElem_toArray, List.getElem_cons_zero, List.getElem_cons_succ, Act.put, List.setIfInBounds_toArray, List.set_cons_zero, List.set_cons_succ]
    refine wpAnyH_take (i := 5) (v := .float .f64 Y) rfl (by kernel_rfl) (by kernel_rfl) (by kernel_rfl) (fun _ _ _ h => h) (Or.inl ⟨by rfl, ?y6⟩) (by assumption) ?r6
    case y6 =>
      intro w1 hSw
      obtain ⟨k0, k1, _, _⟩ := pt_of hSw.2.1
      go_simp
      try with_reducible rfl
    try simp only [List.getElem_toArray, List.getElem_cons_zero, List.getElem_cons_succ, Act.put, List.setIfInBounds_toArray, List.set_cons_zero, List.set_cons_succ]
    refine wpAnyH_take (i := 6) (v := pt X Y) rfl (by kernel_rfl) (by kernel_rfl) (by kernel_rfl) (fun _ _ _ h => h) (Or.inl ⟨by rfl, ?y7⟩) (by assumption) ?r7
    case y7 =>
      intro w1 hSw
      go_simp
      try with_reducible rfl
    try simp only [List.getElem_toArray, List.getElem_cons_zero, List.getElem_cons_succ, Act.put, List.setIfInBounds_toArray, List.set_cons_zero, List.set_cons_succ]
    refine wpAnyH_take (i := 8) (v := ptrV (w.heap.size + 1)) rfl (by kernel_rfl) (by kernel_rfl) (by kernel_rfl) (fun _ _ _ h => h) (Or.inl ⟨by rfl, ?y8⟩) (by assumption) ?r8
    case y8 =>
      intro w1 hSw
      go_simp
      try with_reducible rfl
    try simp only [List.getElem_toArray, List.getElem_cons_zero, List.getElem_cons_succ, Act.put, List.setIfInBounds_toArray, List.set_cons_zero, List.set_cons_succ]
    refine wpAnyH_take (i := 9) (v := .float .f64 cx) rfl (by kernel_rfl) (by kernel_rfl) (by kernel_rfl) (fun _ _ _ h => h) (Or.inl ⟨by rfl, ?y9⟩) (by assumption) ?r9
    case y9 =>
      intro w1 hSw
      obtain ⟨k0, k1, _, _⟩ := pt_of hSw.2.2.1
      go_simp
      try with_reducible rfl
    try simp only [List.getElem_toArray, List.getElem_cons_zero, List.getElem_cons_succ, Act.put, List.setIfInBounds_toArray, List.set_cons_zero, List.set_cons_succ]
    refine wpAnyH_take (i := 10) (v := .pointer (some ⟨w.heap.size + 1, 1, none⟩)) rfl (by kernel_rfl) (by kernel_rfl) (by kernel_rfl) (fun _ _ _ h => h) (Or.inl ⟨by rfl, ?y10⟩) (by assumption) ?r10
    case y10 =>
      intro w1 hSw
      go_simp
      try with_reducible rfl
    try simp only [List.getElem_toArray, List.getElem_cons_zero, List.getElem_cons_succ, Act.put, List.setIfInBounds_toArray, List.set_cons_zero, List.set_cons_succ]
    refine wpAnyH_take (i := 11) (v := .float .f64 cy) rfl (by kernel_rfl) (by kernel_rfl) (by kernel_rfl) (fun _ _ _ h => h) (Or.inl ⟨by rfl, ?y11⟩) (by assumption) ?r11
    case y11 =>
      intro w1 hSw
      obtain ⟨k0, k1, _, _⟩ := pt_of hSw.2.2.1
      go_simp
      try with_reducible rfl
    try simp only [List.getElem_toArray, List.getElem_cons_zero, List.getElem_cons_succ, Act.put, List.setIfInBounds_toArray, List.set_cons_zero, List.set_cons_succ]
    refine wpAnyH_take (i := 12) (v := pt cx cy) rfl (by kernel_rfl) (by kernel_rfl) (by kernel_rfl) (fun _ _ _ h => h) (Or.inl ⟨by rfl, ?y12⟩) (by assumption) ?r12
    case y12 =>
      intro w1 hSw
      go_simp
      try with_reducible rfl
    try simp only [List.getElem_toArray, List.getElem_cons_zero, List.getElem_cons_succ, Act.put, List.setIfInBounds_toArray, List.set_cons_zero, List.set_cons_succ]
    refine wpAnyH_ready (rs := [7, 13]) (by kernel_rfl) (by simp) (AllReadyH.cons rfl (fun K hK => ?_) (AllReadyH.cons rfl (fun K hK => ?_) AllReadyH.nil))
    · go_simp
      refine hK.out _ _ (hHeld.keep (below1 _ _)) (fun hHeld => ?_)
      clear hK K
      have hN := hN.below (below1 W0 (.cells #[.float .f64 X, .float .f64 Y] 95))
      have b7 := listAt_new W0 _ rfl [.float .f64 X, .float .f64 Y] 95
      have hs1 : W0.heap.size ≤ (W0.alloc (.cells #[.float .f64 X, .float .f64 Y] 95)).heap.size := by simp
      generalize W0.alloc (.cells #[.float .f64 X, .float .f64 Y] 95) = W1 at *
      change ListAt W1 W0.heap.size [.float .f64 X, .float .f64 Y] at b7
      have h7 : W0.heap.size ≠ nb := by omega
      try simp only [List.getElem_toArray, List.getElem_cons_zero, List.getElem_cons_succ, Act.put, List.setIfInBounds_toArray, List.set_cons_zero, List.set_cons_succ]
      refine wpAnyH_take (i := 14) (v := ptrV nb) rfl (by kernel_rfl) (by kernel_rfl) (by kernel_rfl) (fun _ _ _ h => h) (Or.inl ⟨by rfl, ?y13⟩) (by assumption) ?r13
      case y13 =>
        intro w1 hSw
        go_simp
        try with_reducible rfl
      try simp only [List.getElem_toArray, List.getElem_cons_zero, List.getElem_cons_succ, Act.put, List.setIfInBounds_toArray, List.set_cons_zero, List.set_cons_succ]
      refine wpAnyH_take (i := 15) (v := ptrV nb) rfl (by kernel_rfl) (by kernel_rfl) (by kernel_rfl) (fun _ _ _ h => h) (Or.inl ⟨by rfl, ?y14⟩) (by assumption) ?r14
      case y14 =>
        intro w1 hSw
        go_simp
        try with_reducible rfl
      try simp only [List.getElem_toArray, List.getElem_cons_zero, List.getElem_cons_succ, Act.put, List.setIfInBounds_toArray, List.set_cons_zero, List.set_cons_succ]
      refine wpAnyH_ready (rs := [13, 16]) (by kernel_rfl) (by simp) (AllReadyH.cons rfl (fun K hK => ?_) (AllReadyH.cons rfl (fun K hK => ?_) AllReadyH.nil))
      · go_simp
        refine hK.out _ _ (hHeld.keep (below1 _ _)) (fun hHeld => ?_)
        clear hK K
        have hN := hN.below (below1 W1 (.cells #[.float .f64 cx, .float .f64 cy] 95))
        have b7 := b7.below (below1 W1 (.cells #[.float .f64 cx, .float .f64 cy] 95))
        have b13 := listAt_new W1 _ rfl [.float .f64 cx, .float .f64 cy] 95
        have hs2 : W1.heap.size ≤ (W1.alloc (.cells #[.float .f64 cx, .float .f64 cy] 95)).heap.size := by simp
        generalize W1.alloc (.cells #[.float .f64 cx, .float .f64 cy] 95) = W2 at *
        change ListAt W2 W1.heap.size [.float .f64 cx, .float .f64 cy] at b13
        have h13 : W1.heap.size ≠ nb := by omega
        try simp only [List.getElem_toArray, List.getElem_cons_zero, List.getElem_cons_succ, Act.put, List.setIfInBounds_toArray, List.set_cons_zero, List.set_cons_succ]
        refine wpAnyH_ready (rs := [16]) (by kernel_rfl) (by simp) (AllReadyH.cons rfl (fun K hK => ?_) AllReadyH.nil)
        have fz := (hN.2 0 _ rfl).2
        have cz := (hN.2 0 _ rfl).1
        go_simp
        refine hK.out _ _ hHeld.set (fun hHeld => ?_)
        clear hK K fz cz
        replace hN := hN.set 0 (ptrV W0.heap.size)
        replace b7 := b7.far (k := 0) (v := ptrV W0.heap.size) h7
        replace b13 := b13.far (k := 0) (v := ptrV W0.heap.size) h13
        try simp only [List.getElem_toArray, List.getElem_cons_zero, List.getElem_cons_succ, Act.put, List.setIfInBounds_toArray, List.set_cons_zero, List.set_cons_succ]
        have hs3 : W2.heap.size ≤ (W2.setCell ⟨nb, 0, none⟩ (ptrV W0.heap.size)).heap.size := by simp
        generalize W2.setCell ⟨nb, 0, none⟩ (ptrV W0.heap.size) = W3 at *
        refine wpAnyH_take (i := 17) (v := ptrV nb) rfl (by kernel_rfl) (by kernel_rfl) (by kernel_rfl) (fun _ _ _ h => h) (Or.inl ⟨by rfl, ?y15⟩) (by assumption) ?r15
        case y15 =>
          intro w1 hSw
          go_simp
          try with_reducible rfl
        try simp only [List.getElem_toArray, List.getElem_cons_zero, List.getElem_cons_succ, Act.put, List.setIfInBounds_toArray, List.set_cons_zero, List.set_cons_succ]
        refine wpAnyH_take (i := 18) (v := .pointer (some ⟨nb, 5, none⟩)) rfl (by kernel_rfl) (by kernel_rfl) (by kernel_rfl) (fun _ _ _ h => h) (Or.inl ⟨by rfl, ?y16⟩) (by assumption) ?r16
        case y16 =>
          intro w1 hSw
          go_simp
          try with_reducible rfl
        try simp only [List.getElem_toArray, List.getElem_cons_zero, List.getElem_cons_succ, Act.put, List.setIfInBounds_toArray, List.set_cons_zero, List.set_cons_succ]
        refine wpAnyH_ready (rs := [19]) (by kernel_rfl) (by simp) (AllReadyH.cons rfl (fun K hK => ?_) AllReadyH.nil)
        have fz := (hN.2 5 _ rfl).2
        have cz := (hN.2 5 _ rfl).1
        go_simp
        refine hK.out _ _ hHeld.set (fun hHeld => ?_)
        clear hK K fz cz
        replace hN := hN.set 5 (ptrV W1.heap.size)
        replace b7 := b7.far (k := 5) (v := ptrV W1.heap.size) h7
        replace b13 := b13.far (k := 5) (v := ptrV W1.heap.size) h13
        try simp only [List.getElem_toArray, List.getElem_cons_zero, List.getElem_cons_succ, Act.put, List.setIfInBounds_toArray, List.set_cons_zero, List.set_cons_succ]
        refine wpAnyH_done (by kernel_rfl) ?_ _
        refine NoPanic.normal ?_
        go_wp2_with fail
        go_meet
        exact ⟨rfl, W0.heap.size, W1.heap.size, hHeld.1, hN, b7, b13, by omega, h7.symm, h13.symm⟩
      · have fz := (hN.2 0 _ rfl).2
        have cz := (hN.2 0 _ rfl).1
        go_simp
        refine hK.out _ _ hHeld.set (fun hHeld => ?_)
        clear hK K fz cz
        replace hN := hN.set 0 (ptrV W0.heap.size)
        replace b7 := b7.far (k := 0) (v := ptrV W0.heap.size) h7
        try simp only [List.getElem_toArray, List.getElem_cons_zero, List.getElem_cons_succ, Act.put, List.setIfInBounds_toArray, List.set_cons_zero, List.set_cons_succ]
        have hs4 : W1.heap.size ≤ (W1.setCell ⟨nb, 0, none⟩ (ptrV W0.heap.size)).heap.size := by simp
        generalize W1.setCell ⟨nb, 0, none⟩ (ptrV W0.heap.size) = W4 at *
        refine wpAnyH_ready (rs := [13]) (by kernel_rfl) (by simp) (AllReadyH.cons rfl (fun K hK => ?_) AllReadyH.nil)
        go_simp
        refine hK.out _ _ (hHeld.keep (below1 _ _)) (fun hHeld => ?_)
        clear hK K
        have hN := hN.below (below1 W4 (.cells #[.float .f64 cx, .float .f64 cy] 95))
        have b7 := b7.below (below1 W4 (.cells #[.float .f64 cx, .float .f64 cy] 95))
        have b13 := listAt_new W4 _ rfl [.float .f64 cx, .float .f64 cy] 95
        have hs5 : W4.heap.size ≤ (W4.alloc (.cells #[.float .f64 cx, .float .f64 cy] 95)).heap.size := by simp
        generalize W4.alloc (.cells #[.float .f64 cx, .float .f64 cy] 95) = W5 at *
        change ListAt W5 W4.heap.size [.float .f64 cx, .float .f64 cy] at b13
        have h13 : W4.heap.size ≠ nb := by omega
        try simp only [List.getElem_toArray, List.getElem_cons_zero, List.getElem_cons_succ, Act.put, List.setIfInBounds_toArray, List.set_cons_zero, List.set_cons_succ]
        refine wpAnyH_take (i := 17) (v := ptrV nb) rfl (by kernel_rfl) (by kernel_rfl) (by kernel_rfl) (fun _ _ _ h => h) (Or.inl ⟨by rfl, ?y17⟩) (by assumption) ?r17
        case y17 =>
          intro w1 hSw
          go_simp
          try with_reducible rfl
        try simp only [List.getElem_toArray, List.getElem_cons_zero, List.getElem_cons_succ, Act.put, List.setIfInBounds_toArray, List.set_cons_zero, List.set_cons_succ]
        refine wpAnyH_take (i := 18) (v := .pointer (some ⟨nb, 5, none⟩)) rfl (by kernel_rfl) (by kernel_rfl) (by kernel_rfl) (fun _ _ _ h => h) (Or.inl ⟨by rfl, ?y18⟩) (by assumption) ?r18
        case y18 =>
          intro w1 hSw
          go_simp
          try with_reducible rfl
        try simp only [List.getElem_toArray, List.getElem_cons_zero, List.getElem_cons_succ, Act.put, List.setIfInBounds_toArray, List.set_cons_zero, List.set_cons_succ]
        refine wpAnyH_ready (rs := [19]) (by kernel_rfl) (by simp) (AllReadyH.cons rfl (fun K hK => ?_) AllReadyH.nil)
        have fz := (hN.2 5 _ rfl).2
        have cz := (hN.2 5 _ rfl).1
        go_simp
        refine hK.out _ _ hHeld.set (fun hHeld => ?_)
        clear hK K fz cz
        replace hN := hN.set 5 (ptrV W4.heap.size)
        replace b7 := b7.far (k := 5) (v := ptrV W4.heap.size) h7
        replace b13 := b13.far (k := 5) (v := ptrV W4.heap.size) h13
        try simp only [List.getElem_toArray, List.getElem_cons_zero, List.getElem_cons_succ, Act.put, List.setIfInBounds_toArray, List.set_cons_zero, List.set_cons_succ]
        refine wpAnyH_done (by kernel_rfl) ?_ _
        refine NoPanic.normal ?_
        go_wp2_with fail
        go_meet
        exact ⟨rfl, W0.heap.size, W4.heap.size, hHeld.1, hN, b7, b13, by omega, h7.symm, h13.symm⟩
    · go_simp
      refine hK.out _ _ (hHeld.keep (below1 _ _)) (fun hHeld => ?_)
      clear hK K
      have hN := hN.below (below1 W0 (.cells #[.float .f64 cx, .float .f64 cy] 95))
      have b13 := listAt_new W0 _ rfl [.float .f64 cx, .float .f64 cy] 95
      have hs6 : W0.heap.size ≤ (W0.alloc (.cells #[.float .f64 cx, .float .f64 cy] 95)).heap.size := by simp
      generalize W0.alloc (.cells #[.float .f64 cx, .float .f64 cy] 95) = W6 at *
      change ListAt W6 W0.heap.size [.float .f64 cx, .float .f64 cy] at b13
      have h13 : W0.heap.size ≠ nb := by omega
      try simp only [List.getElem_toArray, List.getElem_cons_zero, List.getElem_cons_succ, Act.put, List.setIfInBounds_toArray, List.set_cons_zero, List.set_cons_succ]
      refine wpAnyH_ready (rs := [7]) (by kernel_rfl) (by simp) (AllReadyH.cons rfl (fun K hK => ?_) AllReadyH.nil)
      go_simp
      refine hK.out _ _ (hHeld.keep (below1 _ _)) (fun hHeld => ?_)
      clear hK K
      have hN := hN.below (below1 W6 (.cells #[.float .f64 X, .float .f64 Y] 95))
      have b13 := b13.below (below1 W6 (.cells #[.float .f64 X, .float .f64 Y] 95))
      have b7 := listAt_new W6 _ rfl [.float .f64 X, .float .f64 Y] 95
      have hs7 : W6.heap.size ≤ (W6.alloc (.cells #[.float .f64 X, .float .f64 Y] 95)).heap.size := by simp
      generalize W6.alloc (.cells #[.float .f64 X, .float .f64 Y] 95) = W7 at *
      change ListAt W7 W6.heap.size [.float .f64 X, .float .f64 Y] at b7
      have h7 : W6.heap.size ≠ nb := by omega
      try simp only [List.getElem_toArray, List.getElem_cons_zero, List.getElem_cons_succ, Act.put, List.setIfInBounds_toArray, List.set_cons_zero, List.set_cons_succ]
      refine wpAnyH_take (i := 14) (v := ptrV nb) rfl (by kernel_rfl) (by kernel_rfl) (by kernel_rfl) (fun _ _ _ h => h) (Or.inl ⟨by rfl, ?y19⟩) (by assumption) ?r19
      case y19 =>
        intro w1 hSw
        go_simp
        try with_reducible rfl
      try simp only [List.getElem_toArray, List.getElem_cons_zero, List.getElem_cons_succ, Act.put, List.setIfInBounds_toArray, List.set_cons_zero, List.set_cons_succ]
      refine wpAnyH_take (i := 15) (v := ptrV nb) rfl (by kernel_rfl) (by kernel_rfl) (by kernel_rfl) (fun _ _ _ h => h) (Or.inl ⟨by rfl, ?y20⟩) (by assumption) ?r20
      case y20 =>
        intro w1 hSw
        go_simp
        try with_reducible rfl
      try simp only [List.getElem_toArray, List.getElem_cons_zero, List.getElem_cons_succ, Act.put, List.setIfInBounds_toArray, List.set_cons_zero, List.set_cons_succ]
      refine wpAnyH_ready (rs := [16]) (by kernel_rfl) (by simp) (AllReadyH.cons rfl (fun K hK => ?_) AllReadyH.nil)
      have fz := (hN.2 0 _ rfl).2
      have cz := (hN.2 0 _ rfl).1
      go_simp
      refine hK.out _ _ hHeld.set (fun hHeld => ?_)
      clear hK K fz cz
      replace hN := hN.set 0 (ptrV W6.heap.size)
      replace b13 := b13.far (k := 0) (v := ptrV W6.heap.size) h13
      replace b7 := b7.far (k := 0) (v := ptrV W6.heap.size) h7
      try simp only [List.getElem_toArray, List.getElem_cons_zero, List.getElem_cons_succ, Act.put, List.setIfInBounds_toArray, List.set_cons_zero, List.set_cons_succ]
      have hs8 : W7.heap.size ≤ (W7.setCell ⟨nb, 0, none⟩ (ptrV W6.heap.size)).heap.size := by simp
      generalize W7.setCell ⟨nb, 0, none⟩ (ptrV W6.heap.size) = W8 at *
      refine wpAnyH_take (i := 17) (v := ptrV nb) rfl (by kernel_rfl) (by kernel_rfl) (by kernel_rfl) (fun _ _ _ h => h) (Or.inl ⟨by rfl, ?y21⟩) (by assumption) ?r21
      case y21 =>
        intro w1 hSw
        go_simp
        try with_reducible rfl
      try simp only [List.getElem_toArray, List.getElem_cons_zero, List.getElem_cons_succ, Act.put, List.setIfInBounds_toArray, List.set_cons_zero, List.set_cons_succ]
      refine wpAnyH_take (i := 18) (v := .pointer (some ⟨nb, 5, none⟩)) rfl (by kernel_rfl) (by kernel_rfl) (by kernel_rfl) (fun _ _ _ h => h) (Or.inl ⟨by rfl, ?y22⟩) (by assumption) ?r22
      case y22 =>
        intro w1 hSw
        go_simp
        try with_reducible rfl
      try simp only [List.getElem_toArray, List.getElem_cons_zero, List.getElem_cons_succ, Act.put, List.setIfInBounds_toArray, List.set_cons_zero, List.set_cons_succ]
      refine wpAnyH_ready (rs := [19]) (by kernel_rfl) (by simp) (AllReadyH.cons rfl (fun K hK => ?_) AllReadyH.nil)
      have fz := (hN.2 5 _ rfl).2
      have cz := (hN.2 5 _ rfl).1
      go_simp
      refine hK.out _ _ hHeld.set (fun hHeld => ?_)
      clear hK K fz cz
      replace hN := hN.set 5 (ptrV W0.heap.size)
      replace b13 := b13.far (k := 5) (v := ptrV W0.heap.size) h13
      replace b7 := b7.far (k := 5) (v := ptrV W0.heap.size) h7
      try simp only [List.getElem_toArray, List.getElem_cons_zero, List.getElem_cons_succ, Act.put, List.setIfInBounds_toArray, List.set_cons_zero, List.set_cons_succ]
      refine wpAnyH_done (by kernel_rfl) ?_ _
      refine NoPanic.normal ?_
      go_wp2_with fail
      go_meet
      exact ⟨rfl, W6.heap.size, W0.heap.size, hHeld.1, hN, b7, b13, by omega, h7.symm, h13.symm⟩
  case rest =>
    obtain ⟨rfl, pd, gd, hB, hL, hP, hQ, hle, hp1, hp2⟩ := hcut
    have HP : Hid (PtAt wc pd X Y) := Lib.hid (pt_of hP)
    have HQ : Hid (PtAt wc gd cx cy) := Lib.hid (pt_of hQ)
    have HL : Hid (ListAt wc nb (nupL (ptrV pd) (ptrV gd) 0)) := Lib.hid hL
    have HG2 : Hid (ListAt wc gd [.float .f64 cx, .float .f64 cy]) := Lib.hid hQ
    have HBc : Hid (Below w.heap.size w wc) := Lib.hid (hB)
    have hpl : pd < wc.heap.size := hP.1
    have hgl : gd < wc.heap.size := hQ.1
    have HRG := Lib.hid (show wc.rangeAt nb 0 (nupL (ptrV pd) (ptrV gd) 0) from fun j v hj => by rw [Nat.zero_add]; exact (HL.out.2 j v hj).1)
    have fz := (hL.2 3 _ rfl).2
    have n3 := (hL.2 3 _ rfl).1
    clear hB hL hP hQ
    go_wp2_with (first | (refine wpList_load_mid (by rfl) 151 (.tmp 66) (by rfl) nb 0 (by rfl) _ _ HRG.out Try.underlying151 (by rfl) (by kernel_rfl) ?_) | (go_at_call 94; refine (HH.out _ pd gd HP.out HQ.out hpl hgl).mono ?_; rintro e w1 ⟨v, rfl, hC⟩; obtain ⟨hB1, gs, hl, ho, hr2⟩ := hC; obtain ⟨gg, cap, rfl, _, hgg⟩ := ho.form HN0.out; have HO := Lib.hid ho; have HR := Lib.hid hr2; have HB1 := Lib.hid hB1; have HGS := Lib.hid hl; clear hB1 ho hr2 hl n3 fz))
    go_loopw [6, 70] (fun v6 i wr => ∃ k : Nat, k ≤ N ∧ i = .int .i64 k ∧ Hid (Below w1.heap.size w1 wr ∧ wr.ownsRow w1.heap.size 36 4 v6 k (flat A B C D k))) (fun _ i _ => N - (intOf i).toNat)
    case atStart => exact ⟨0, Nat.zero_le _, rfl, Lib.hid ⟨Below.refl _ _, World.ownsRow_nil _ _ _ _⟩⟩
    case round =>
      obtain ⟨k, hk, rfl, hS⟩ := hrel
      have HB2 := Lib.hid hS.out.1
      have HO2 := Lib.hid hS.out.2
      by_cases hlt : k < N
      · obtain ⟨g, hgk⟩ : ∃ g, gs[k]? = some g := ⟨_, List.getElem?_eq_getElem (by have := HGS.out; omega)⟩
        have hcell : wr.cell? ⟨gg, k, none⟩ = some (ptrV g) := by
          rw [hS.out.1.cell (p := ⟨gg, k, none⟩) hgg, HO.out.cellAt k (by omega), List.getElem?_map, hgk]; rfl
        have hRk := (HR.out k g hgk).below hS.out.1
        obtain ⟨a, ea⟩ : ∃ a, A k = a := ⟨_, rfl⟩
        obtain ⟨b, eb⟩ : ∃ b, B k = b := ⟨_, rfl⟩
        obtain ⟨c, ec⟩ : ∃ c, C k = c := ⟨_, rfl⟩
        obtain ⟨d, ed⟩ : ∃ d, D k = d := ⟨_, rfl⟩
        rw [ea, eb, ec, ed] at hRk
        have HRK := Lib.hid hRk
        have HE := Lib.hid (And.intro ea (And.intro eb (And.intro ec ed)))
        have HSZ := Lib.hid hS.out.1.size
        clear ea eb ec ed hRk hgk
        go_wp2_with (first | (go_at_call 66; refine (told_exact _ HRK.out).mono ?_; rintro e w2 ⟨rfl, rfl⟩) | (at_builtin; refine wpList_append_own _ rfl (.tmp 74) (.tmp 77) 68 rfl w1.heap.size 36 i0 (.agg #[.float .f64 0, .float .f64 0, .float .f64 0, .float .f64 0]) 4 32 Try.underlying68 hi hz0 hz1 hz2 rfl (by decide) _ k _ rfl ((HO2.out.alloc _).alloc _) ⟨wr.heap.size + 1, 0, none⟩ 1 1 [.float .f64 a, .float .f64 b, .float .f64 c, .float .f64 d] rfl rfl (new_at _ _ (by simp) _ _) (fun u hu => by simp at hu; rcases hu with rfl | rfl | rfl | rfl <;> rfl) (by unfold maxLen; omega) (by omega) (by have := HSZ.out; simp; omega) ?_; intro v' w' ho' hg' _))
        have hst := own_step HB2.out HO2.out HE.out.1 HE.out.2.1 HE.out.2.2.1 HE.out.2.2.2 ho' (below2 _ _ _).drew hg'
        clear ho' hg'
        go_roundw
        case rel => exact ⟨k + 1, by omega, by go_num, Lib.hid hst⟩
        case measure => simp [intOf] <;> omega
      · obtain rfl : k = N := by omega
        have hB2 := HBc.out.trans (HB1.out.mono HBc.out.size)
        have hgw : PtAt wr gd (floatOfInt .f64 (cols : Int)) (floatOfInt .f64 (rows : Int)) := by
          rw [HCX.out, HCY.out]
          exact pt_of ((HG2.out.below HB1.out).below (HB2.out.mono (Nat.le_refl _)))
        have HGW := Lib.hid hgw
        have hgl2 : gd < wr.heap.size := Nat.lt_of_lt_of_le hgl (Nat.le_trans HB1.out.size HB2.out.size)
        have HRW := Lib.hid (show wr.rangeAt nb 0 (nupL (ptrV pd) (ptrV gd) 0) from fun j v hj => by rw [Nat.zero_add]; exact (((HL.out.below HB1.out).below HB2.out).2 j v hj).1)
        have HFB : Hid (Below w.heap.size w wr ∧ wr.ownsRow w.heap.size 36 4 u6 k (flat A B C D k)) := Lib.hid ⟨hB2.trans (HB2.out.mono hB2.size), World.ownsRow.mono HO2.out hB2.size⟩
        clear hgw hB2
        go_wp2_with (first | (refine wpList_load_mid (by rfl) 151 (.tmp 82) (by rfl) nb 0 (by rfl) _ _ HRW.out Try.underlying151 (by rfl) (by kernel_rfl) ?_) | (go_at_call 95; refine (nup_n hc hr _ HGW.out hgl2).mono ?_; rintro e w3 ⟨rfl, hB3⟩))
        refine bodyPost_ret (v := .tuple #[u6, .int .i64 z]) (by have := HZ.out; rw [Int.natCast_mul] at this; simp [results, Try.results57, go_sem, this]) rfl ?_
        refine ⟨u6, rfl, HFB.out.1.trans (hB3.mono HFB.out.1.size), own_keep HFB.out.2 hB3⟩

set_option linter.unusedSimpArgs false in
set_option maxRecDepth 100000 in
set_option maxHeartbeats 16000000 in
theorem gridrects_1 {X Y cols rows N : Nat} {A B C D : Nat → Nat} (hc : cols < 11) (hr : rows < 11) (cx cy : Nat) (hcx : floatOfInt .f64 (cols : Int) = cx) (hcy : floatOfInt .f64 (rows : Int) = cy) (w : World)
    (hN0 : 0 < N) (hN1 : N < 1000)
    (H94 : ∀ (W : World) (pd gd : Nat), PtAt W pd X Y → PtAt W gd cx cy → pd < W.heap.size → gd < W.heap.size → Calls Try.prog 94 #[nupV pd gd 1] W fun e w' => ∃ v, e = .returned v ∧ Coll W N A B C D v w')
    (c1 : (FloatKind.f64.format.order cx 4607182418800017408 == some Ordering.gt || FloatKind.f64.format.order cx 4607182418800017408 == some Ordering.eq) = true)
    (c2 : (FloatKind.f64.format.order cx 4632233691727265792 == some Ordering.lt || FloatKind.f64.format.order cx 4632233691727265792 == some Ordering.eq) = true)
    (c3 : (FloatKind.f64.format.order cy 4607182418800017408 == some Ordering.gt || FloatKind.f64.format.order cy 4607182418800017408 == some Ordering.eq) = true)
    (c4 : (FloatKind.f64.format.order cy 4632233691727265792 == some Ordering.lt || FloatKind.f64.format.order cy 4632233691727265792 == some Ordering.eq) = true) :
    Calls Try.prog 57 #[pt X Y, pt cx cy, .int .i64 1] w fun e w' => ∃ v, e = .returned (.tuple #[v, .int .i64 ((rows * cols : Nat) : Int)]) ∧ Below w.heap.size w w' ∧ w'.ownsRow w.heap.size 36 4 v N (flat A B C D N) := by
  have HCX := Lib.hid hcx
  have HCY := Lib.hid hcy
  have HH := Lib.hid H94
  have HN0 := Lib.hid hN0
  obtain ⟨z, hz⟩ : ∃ z : Int, ((rows * cols : Nat) : Int) = z := ⟨_, rfl⟩
  rw [hz]
  have HZ := Lib.hid hz
  clear hcx hcy H94 hN0 hz
  obtain ⟨i0, hi, hz0, hz1, hz2⟩ := info_parts info36
  go_enter Try.func57, Try.ntmps57
  go_wp2_with (go_at_call 93; refine (default_nup _).mono ?_; rintro e w' ⟨rfl, rfl⟩)
  have hF0 : NupR w (w.heap.size + 1 + 1) X Y cx cy (((w.alloc (.cells #[.float .f64 X, .float .f64 Y] 28)).alloc (.cells #[.float .f64 cx, .float .f64 cy] 28)).alloc (.cells (nupL (.pointer none) (.pointer none) 0).toArray 151)) :=
    ⟨below3 _ _ _ _, ((listAt_new w _ rfl [.float .f64 X, .float .f64 Y] 28).below (below1 _ _)).below (below1 _ _), (listAt_new _ _ (by simp) [.float .f64 cx, .float .f64 cy] 28).below (below1 _ _), rfl, by simp⟩
  have hN0 : ListAt (((w.alloc (.cells #[.float .f64 X, .float .f64 Y] 28)).alloc (.cells #[.float .f64 cx, .float .f64 cy] 28)).alloc (.cells (nupL (.pointer none) (.pointer none) 0).toArray 151)) (w.heap.size + 1 + 1) (nupL (.pointer none) (.pointer none) 0) := listAt_new _ _ (by simp) _ _
  refine wp_abs26 (fun W => NupR w (w.heap.size + 1 + 1) X Y cx cy W ∧ ListAt W (w.heap.size + 1 + 1) (nupL (.pointer none) (.pointer none) 0)) ⟨hF0, hN0⟩ ?_
  clear hF0 hN0
  generalize hnb : w.heap.size + 1 + 1 = nb
  rintro W ⟨hF, hN⟩
  go_cut [8] (fun s8 wx => s8 = ptrV nb ∧ NupS w nb X Y cx cy 0 wx)
  case first =>
    have hnl : nb < W.drew.heap.size := hN.1
    refine wp_region_noPanic ?_
    refine wp_region_held_drew (S := NupR w nb X Y cx cy) (by kernel_rfl) ?_ (fun hHeld => ?_)
    · exact hF.keep (Below.refl _ _).drew
    have hN := hN.below ((Below.refl _ W).drew : Below W.heap.size W W.drew)
    generalize W.drew = W0 at *
    refine wpAnyH_take (i := 0) (v := ptrV nb) rfl (by kernel_rfl) (by kernel_rfl) (by kernel_rfl) (fun _ _ _ h => h) (Or.inl ⟨by rfl, ?y23⟩) (by assumption) ?r23
    case y23 =>
      intro w1 hSw
      go_simp
      try with_reducible rfl
    try simp only [List.getElem_toArray, List.getElem_cons_zero, List.getElem_cons_succ, Act.put, List.setIfInBounds_toArray, List.set_cons_zero, List.set_cons_succ]
    refine wpAnyH_take (i := 1) (v := ptrV nb) rfl (by kernel_rfl) (by kernel_rfl) (by kernel_rfl) (fun _ _ _ h => h) (Or.inl ⟨by rfl, ?y24⟩) (by assumption) ?r24
    case y24 =>
      intro w1 hSw
      go_simp
      try with_reducible rfl
    try simp only [List.getElem_toArray, List.getElem_cons_zero, List.getElem_cons_succ, Act.put, List.setIfInBounds_toArray, List.set_cons_zero, List.set_cons_succ]
    refine wpAnyH_take (i := 2) (v := ptrV w.heap.size) rfl (by kernel_rfl) (by kernel_rfl) (by kernel_rfl) (fun _ _ _ h => h) (Or.inl ⟨by rfl, ?y25⟩) (by assumption) ?r25
    case y25 =>
      intro w1 hSw
      go_simp
      try with_reducible rfl
    try simp only [List.getElem_toArray, List.getElem_cons_zero, List.getElem_cons_succ, Act.put, List.setIfInBounds_toArray, List.set_cons_zero, List.set_cons_succ]
    refine wpAnyH_take (i := 3) (v := .float .f64 X) rfl (by kernel_rfl) (by kernel_rfl) (by kernel_rfl) (fun _ _ _ h => h) (Or.inl ⟨by rfl, ?y26⟩) (by assumption) ?r26
    case y26 =>
      intro w1 hSw
      obtain ⟨k0, k1, _, _⟩ := pt_of hSw.2.1
      go_simp
      try with_reducible rfl
    try simp only [List.getElem_toArray, List.getElem_cons_zero, List.getElem_cons_succ, Act.put, List.setIfInBounds_toArray, List.set_cons_zero, List.set_cons_succ]
    refine wpAnyH_take (i := 4) (v := .pointer (some ⟨w.heap.size, 1, none⟩)) rfl (by kernel_rfl) (by kernel_rfl) (by kernel_rfl) (fun _ _ _ h => h) (Or.inl ⟨by rfl, ?y27⟩) (by assumption) ?r27
    case y27 =>
      intro w1 hSw
      go_simp
      try with_reducible rfl
    try simp only [List.getElem_toArray, List.getElem_cons_zero, List.getElem_cons_succ, Act.put, List.setIfInBounds_toArray, List.set_cons_zero, List.set_cons_succ]
    refine wpAnyH_take (i := 5) (v := .float .f64 Y) rfl (by kernel_rfl) (by kernel_rfl) (by kernel_rfl) (fun _ _ _ h => h) (Or.inl ⟨by rfl, ?y28⟩) (by assumption) ?r28
    case y28 =>
      intro w1 hSw
      obtain ⟨k0, k1, _, _⟩ := pt_of hSw.2.1
      go_simp
      try with_reducible rfl
    try simp only [List.getElem_toArray, List.getElem_cons_zero, List.getElem_cons_succ, Act.put, List.setIfInBounds_toArray, List.set_cons_zero, List.set_cons_succ]
    refine wpAnyH_take (i := 6) (v := pt X Y) rfl (by kernel_rfl) (by kernel_rfl) (by kernel_rfl) (fun _ _ _ h => h) (Or.inl ⟨by rfl, ?y29⟩) (by assumption) ?r29
    case y29 =>
      intro w1 hSw
      go_simp
      try with_reducible rfl
    try simp only [List.getElem_toArray, List.getElem_cons_zero, List.getElem_cons_succ, Act.put, List.setIfInBounds_toArray, List.set_cons_zero, List.set_cons_succ]
    refine wpAnyH_take (i := 8) (v := ptrV (w.heap.size + 1)) rfl (by kernel_rfl) (by kernel_rfl) (by kernel_rfl) (fun _ _ _ h => h) (Or.inl ⟨by rfl, ?y30⟩) (by assumption) ?r30
    case y30 =>
      intro w1 hSw
      go_simp
      try with_reducible rfl
    try simp only [List.getElem_toArray, List.getElem_cons_zero, List.getElem_cons_succ, Act.put, List.setIfInBounds_toArray, List.set_cons_zero, List.set_cons_succ]
    refine wpAnyH_take (i := 9) (v := .float .f64 cx) rfl (by kernel_rfl) (by kernel_rfl) (by kernel_rfl) (fun _ _ _ h => h) (Or.inl ⟨by rfl, ?y31⟩) (by assumption) ?r31
    case y31 =>
      intro w1 hSw
      obtain ⟨k0, k1, _, _⟩ := pt_of hSw.2.2.1
      go_simp
      try with_reducible rfl
    try simp only [List.getElem_toArray, List.getElem_cons_zero, List.getElem_cons_succ, Act.put, List.setIfInBounds_toArray, List.set_cons_zero, List.set_cons_succ]
    refine wpAnyH_take (i := 10) (v := .pointer (some ⟨w.heap.size + 1, 1, none⟩)) rfl (by kernel_rfl) (by kernel_rfl) (by kernel_rfl) (fun _ _ _ h => h) (Or.inl ⟨by rfl, ?y32⟩) (by assumption) ?r32
    case y32 =>
      intro w1 hSw
      go_simp
      try with_reducible rfl
    try simp only [List.getElem_toArray, List.getElem_cons_zero, List.getElem_cons_succ, Act.put, List.setIfInBounds_toArray, List.set_cons_zero, List.set_cons_succ]
    refine wpAnyH_take (i := 11) (v := .float .f64 cy) rfl (by kernel_rfl) (by kernel_rfl) (by kernel_rfl) (fun _ _ _ h => h) (Or.inl ⟨by rfl, ?y33⟩) (by assumption) ?r33
    case y33 =>
      intro w1 hSw
      obtain ⟨k0, k1, _, _⟩ := pt_of hSw.2.2.1
      go_simp
      try with_reducible rfl
    try simp only [List.getElem_toArray, List.getElem_cons_zero, List.getElem_cons_succ, Act.put, List.setIfInBounds_toArray, List.set_cons_zero, List.set_cons_succ]
    refine wpAnyH_take (i := 12) (v := pt cx cy) rfl (by kernel_rfl) (by kernel_rfl) (by kernel_rfl) (fun _ _ _ h => h) (Or.inl ⟨by rfl, ?y34⟩) (by assumption) ?r34
    case y34 =>
      intro w1 hSw
      go_simp
      try with_reducible rfl
    try simp only [List.getElem_toArray, List.getElem_cons_zero, List.getElem_cons_succ, Act.put, List.setIfInBounds_toArray, List.set_cons_zero, List.set_cons_succ]
    refine wpAnyH_ready (rs := [7, 13]) (by kernel_rfl) (by simp) (AllReadyH.cons rfl (fun K hK => ?_) (AllReadyH.cons rfl (fun K hK => ?_) AllReadyH.nil))
    · go_simp
      refine hK.out _ _ (hHeld.keep (below1 _ _)) (fun hHeld => ?_)
      clear hK K
      have hN := hN.below (below1 W0 (.cells #[.float .f64 X, .float .f64 Y] 95))
      have b7 := listAt_new W0 _ rfl [.float .f64 X, .float .f64 Y] 95
      have hs1 : W0.heap.size ≤ (W0.alloc (.cells #[.float .f64 X, .float .f64 Y] 95)).heap.size := by simp
      generalize W0.alloc (.cells #[.float .f64 X, .float .f64 Y] 95) = W1 at *
      change ListAt W1 W0.heap.size [.float .f64 X, .float .f64 Y] at b7
      have h7 : W0.heap.size ≠ nb := by omega
      try simp only [List.getElem_toArray, List.getElem_cons_zero, List.getElem_cons_succ, Act.put, List.setIfInBounds_toArray, List.set_cons_zero, List.set_cons_succ]
      refine wpAnyH_take (i := 14) (v := ptrV nb) rfl (by kernel_rfl) (by kernel_rfl) (by kernel_rfl) (fun _ _ _ h => h) (Or.inl ⟨by rfl, ?y35⟩) (by assumption) ?r35
      case y35 =>
        intro w1 hSw
        go_simp
        try with_reducible rfl
      try simp only [List.getElem_toArray, List.getElem_cons_zero, List.getElem_cons_succ, Act.put, List.setIfInBounds_toArray, List.set_cons_zero, List.set_cons_succ]
      refine wpAnyH_take (i := 15) (v := ptrV nb) rfl (by kernel_rfl) (by kernel_rfl) (by kernel_rfl) (fun _ _ _ h => h) (Or.inl ⟨by rfl, ?y36⟩) (by assumption) ?r36
      case y36 =>
        intro w1 hSw
        go_simp
        try with_reducible rfl
      try simp only [List.getElem_toArray, List.getElem_cons_zero, List.getElem_cons_succ, Act.put, List.setIfInBounds_toArray, List.set_cons_zero, List.set_cons_succ]
      refine wpAnyH_ready (rs := [13, 16]) (by kernel_rfl) (by simp) (AllReadyH.cons rfl (fun K hK => ?_) (AllReadyH.cons rfl (fun K hK => ?_) AllReadyH.nil))
      · go_simp
        refine hK.out _ _ (hHeld.keep (below1 _ _)) (fun hHeld => ?_)
        clear hK K
        have hN := hN.below (below1 W1 (.cells #[.float .f64 cx, .float .f64 cy] 95))
        have b7 := b7.below (below1 W1 (.cells #[.float .f64 cx, .float .f64 cy] 95))
        have b13 := listAt_new W1 _ rfl [.float .f64 cx, .float .f64 cy] 95
        have hs2 : W1.heap.size ≤ (W1.alloc (.cells #[.float .f64 cx, .float .f64 cy] 95)).heap.size := by simp
        generalize W1.alloc (.cells #[.float .f64 cx, .float .f64 cy] 95) = W2 at *
        change ListAt W2 W1.heap.size [.float .f64 cx, .float .f64 cy] at b13
        have h13 : W1.heap.size ≠ nb := by omega
        try simp only [List.getElem_toArray, List.getElem_cons_zero, List.getElem_cons_succ, Act.put, List.setIfInBounds_toArray, List.set_cons_zero, List.set_cons_succ]
        refine wpAnyH_ready (rs := [16]) (by kernel_rfl) (by simp) (AllReadyH.cons rfl (fun K hK => ?_) AllReadyH.nil)
        have fz := (hN.2 0 _ rfl).2
        have cz := (hN.2 0 _ rfl).1
        go_simp
        refine hK.out _ _ hHeld.set (fun hHeld => ?_)
        clear hK K fz cz
        replace hN := hN.set 0 (ptrV W0.heap.size)
        replace b7 := b7.far (k := 0) (v := ptrV W0.heap.size) h7
        replace b13 := b13.far (k := 0) (v := ptrV W0.heap.size) h13
        try simp only [List.getElem_toArray, List.getElem_cons_zero, List.getElem_cons_succ, Act.put, List.setIfInBounds_toArray, List.set_cons_zero, List.set_cons_succ]
        have hs3 : W2.heap.size ≤ (W2.setCell ⟨nb, 0, none⟩ (ptrV W0.heap.size)).heap.size := by simp
        generalize W2.setCell ⟨nb, 0, none⟩ (ptrV W0.heap.size) = W3 at *
        refine wpAnyH_take (i := 17) (v := ptrV nb) rfl (by kernel_rfl) (by kernel_rfl) (by kernel_rfl) (fun _ _ _ h => h) (Or.inl ⟨by rfl, ?y37⟩) (by assumption) ?r37
        case y37 =>
          intro w1 hSw
          go_simp
          try with_reducible rfl
        try simp only [List.getElem_toArray, List.getElem_cons_zero, List.getElem_cons_succ, Act.put, List.setIfInBounds_toArray, List.set_cons_zero, List.set_cons_succ]
        refine wpAnyH_take (i := 18) (v := .pointer (some ⟨nb, 5, none⟩)) rfl (by kernel_rfl) (by kernel_rfl) (by kernel_rfl) (fun _ _ _ h => h) (Or.inl ⟨by rfl, ?y38⟩) (by assumption) ?r38
        case y38 =>
          intro w1 hSw
          go_simp
          try with_reducible rfl
        try simp only [List.getElem_toArray, List.getElem_cons_zero, List.getElem_cons_succ, Act.put, List.setIfInBounds_toArray, List.set_cons_zero, List.set_cons_succ]
        refine wpAnyH_ready (rs := [19]) (by kernel_rfl) (by simp) (AllReadyH.cons rfl (fun K hK => ?_) AllReadyH.nil)
        have fz := (hN.2 5 _ rfl).2
        have cz := (hN.2 5 _ rfl).1
        go_simp
        refine hK.out _ _ hHeld.set (fun hHeld => ?_)
        clear hK K fz cz
        replace hN := hN.set 5 (ptrV W1.heap.size)
        replace b7 := b7.far (k := 5) (v := ptrV W1.heap.size) h7
        replace b13 := b13.far (k := 5) (v := ptrV W1.heap.size) h13
        try simp only [List.getElem_toArray, List.getElem_cons_zero, List.getElem_cons_succ, Act.put, List.setIfInBounds_toArray, List.set_cons_zero, List.set_cons_succ]
        refine wpAnyH_done (by kernel_rfl) ?_ _
        refine NoPanic.normal ?_
        go_wp2_with fail
        go_meet
        exact ⟨rfl, W0.heap.size, W1.heap.size, hHeld.1, hN, b7, b13, by omega, h7.symm, h13.symm⟩
      · have fz := (hN.2 0 _ rfl).2
        have cz := (hN.2 0 _ rfl).1
        go_simp
        refine hK.out _ _ hHeld.set (fun hHeld => ?_)
        clear hK K fz cz
        replace hN := hN.set 0 (ptrV W0.heap.size)
        replace b7 := b7.far (k := 0) (v := ptrV W0.heap.size) h7
        try simp only [List.getElem_toArray, List.getElem_cons_zero, List.getElem_cons_succ, Act.put, List.setIfInBounds_toArray, List.set_cons_zero, List.set_cons_succ]
        have hs4 : W1.heap.size ≤ (W1.setCell ⟨nb, 0, none⟩ (ptrV W0.heap.size)).heap.size := by simp
        generalize W1.setCell ⟨nb, 0, none⟩ (ptrV W0.heap.size) = W4 at *
        refine wpAnyH_ready (rs := [13]) (by kernel_rfl) (by simp) (AllReadyH.cons rfl (fun K hK => ?_) AllReadyH.nil)
        go_simp
        refine hK.out _ _ (hHeld.keep (below1 _ _)) (fun hHeld => ?_)
        clear hK K
        have hN := hN.below (below1 W4 (.cells #[.float .f64 cx, .float .f64 cy] 95))
        have b7 := b7.below (below1 W4 (.cells #[.float .f64 cx, .float .f64 cy] 95))
        have b13 := listAt_new W4 _ rfl [.float .f64 cx, .float .f64 cy] 95
        have hs5 : W4.heap.size ≤ (W4.alloc (.cells #[.float .f64 cx, .float .f64 cy] 95)).heap.size := by simp
        generalize W4.alloc (.cells #[.float .f64 cx, .float .f64 cy] 95) = W5 at *
        change ListAt W5 W4.heap.size [.float .f64 cx, .float .f64 cy] at b13
        have h13 : W4.heap.size ≠ nb := by omega
        try simp only [List.getElem_toArray, List.getElem_cons_zero, List.getElem_cons_succ, Act.put, List.setIfInBounds_toArray, List.set_cons_zero, List.set_cons_succ]
        refine wpAnyH_take (i := 17) (v := ptrV nb) rfl (by kernel_rfl) (by kernel_rfl) (by kernel_rfl) (fun _ _ _ h => h) (Or.inl ⟨by rfl, ?y39⟩) (by assumption) ?r39
        case y39 =>
          intro w1 hSw
          go_simp
          try with_reducible rfl
        try simp only [List.getElem_toArray, List.getElem_cons_zero, List.getElem_cons_succ, Act.put, List.setIfInBounds_toArray, List.set_cons_zero, List.set_cons_succ]
        refine wpAnyH_take (i := 18) (v := .pointer (some ⟨nb, 5, none⟩)) rfl (by kernel_rfl) (by kernel_rfl) (by kernel_rfl) (fun _ _ _ h => h) (Or.inl ⟨by rfl, ?y40⟩) (by assumption) ?r40
        case y40 =>
          intro w1 hSw
          go_simp
          try with_reducible rfl
        try simp only [List.getElem_toArray, List.getElem_cons_zero, List.getElem_cons_succ, Act.put, List.setIfInBounds_toArray, List.set_cons_zero, List.set_cons_succ]
        refine wpAnyH_ready (rs := [19]) (by kernel_rfl) (by simp) (AllReadyH.cons rfl (fun K hK => ?_) AllReadyH.nil)
        have fz := (hN.2 5 _ rfl).2
        have cz := (hN.2 5 _ rfl).1
        go_simp
        refine hK.out _ _ hHeld.set (fun hHeld => ?_)
        clear hK K fz cz
        replace hN := hN.set 5 (ptrV W4.heap.size)
        replace b7 := b7.far (k := 5) (v := ptrV W4.heap.size) h7
        replace b13 := b13.far (k := 5) (v := ptrV W4.heap.size) h13
        try simp only [List.getElem_toArray, List.getElem_cons_zero, List.getElem_cons_succ, Act.put, List.setIfInBounds_toArray, List.set_cons_zero, List.set_cons_succ]
        refine wpAnyH_done (by kernel_rfl) ?_ _
        refine NoPanic.normal ?_
        go_wp2_with fail
        go_meet
        exact ⟨rfl, W0.heap.size, W4.heap.size, hHeld.1, hN, b7, b13, by omega, h7.symm, h13.symm⟩
    · go_simp
      refine hK.out _ _ (hHeld.keep (below1 _ _)) (fun hHeld => ?_)
      clear hK K
      have hN := hN.below (below1 W0 (.cells #[.float .f64 cx, .float .f64 cy] 95))
      have b13 := listAt_new W0 _ rfl [.float .f64 cx, .float .f64 cy] 95
      have hs6 : W0.heap.size ≤ (W0.alloc (.cells #[.float .f64 cx, .float .f64 cy] 95)).heap.size := by simp
      generalize W0.alloc (.cells #[.float .f64 cx, .float .f64 cy] 95) = W6 at *
      change ListAt W6 W0.heap.size [.float .f64 cx, .float .f64 cy] at b13
      have h13 : W0.heap.size ≠ nb := by omega
      try simp only [List.getElem_toArray, List.getElem_cons_zero, List.getElem_cons_succ, Act.put, List.setIfInBounds_toArray, List.set_cons_zero, List.set_cons_succ]
      refine wpAnyH_ready (rs := [7]) (by kernel_rfl) (by simp) (AllReadyH.cons rfl (fun K hK => ?_) AllReadyH.nil)
      go_simp
      refine hK.out _ _ (hHeld.keep (below1 _ _)) (fun hHeld => ?_)
      clear hK K
      have hN := hN.below (below1 W6 (.cells #[.float .f64 X, .float .f64 Y] 95))
      have b13 := b13.below (below1 W6 (.cells #[.float .f64 X, .float .f64 Y] 95))
      have b7 := listAt_new W6 _ rfl [.float .f64 X, .float .f64 Y] 95
      have hs7 : W6.heap.size ≤ (W6.alloc (.cells #[.float .f64 X, .float .f64 Y] 95)).heap.size := by simp
      generalize W6.alloc (.cells #[.float .f64 X, .float .f64 Y] 95) = W7 at *
      change ListAt W7 W6.heap.size [.float .f64 X, .float .f64 Y] at b7
      have h7 : W6.heap.size ≠ nb := by omega
      try simp only [List.getElem_toArray, List.getElem_cons_zero, List.getElem_cons_succ, Act.put, List.setIfInBounds_toArray, List.set_cons_zero, List.set_cons_succ]
      refine wpAnyH_take (i := 14) (v := ptrV nb) rfl (by kernel_rfl) (by kernel_rfl) (by kernel_rfl) (fun _ _ _ h => h) (Or.inl ⟨by rfl, ?y41⟩) (by assumption) ?r41
      case y41 =>
        intro w1 hSw
        go_simp
        try with_reducible rfl
      try simp only [List.getElem_toArray, List.getElem_cons_zero, List.getElem_cons_succ, Act.put, List.setIfInBounds_toArray, List.set_cons_zero, List.set_cons_succ]
      refine wpAnyH_take (i := 15) (v := ptrV nb) rfl (by kernel_rfl) (by kernel_rfl) (by kernel_rfl) (fun _ _ _ h => h) (Or.inl ⟨by rfl, ?y42⟩) (by assumption) ?r42
      case y42 =>
        intro w1 hSw
        go_simp
        try with_reducible rfl
      try simp only [List.getElem_toArray, List.getElem_cons_zero, List.getElem_cons_succ, Act.put, List.setIfInBounds_toArray, List.set_cons_zero, List.set_cons_succ]
      refine wpAnyH_ready (rs := [16]) (by kernel_rfl) (by simp) (AllReadyH.cons rfl (fun K hK => ?_) AllReadyH.nil)
      have fz := (hN.2 0 _ rfl).2
      have cz := (hN.2 0 _ rfl).1
      go_simp
      refine hK.out _ _ hHeld.set (fun hHeld => ?_)
      clear hK K fz cz
      replace hN := hN.set 0 (ptrV W6.heap.size)
      replace b13 := b13.far (k := 0) (v := ptrV W6.heap.size) h13
      replace b7 := b7.far (k := 0) (v := ptrV W6.heap.size) h7
      try simp only [List.getElem_toArray, List.getElem_cons_zero, List.getElem_cons_succ, Act.put, List.setIfInBounds_toArray, List.set_cons_zero, List.set_cons_succ]
      have hs8 : W7.heap.size ≤ (W7.setCell ⟨nb, 0, none⟩ (ptrV W6.heap.size)).heap.size := by simp
      generalize W7.setCell ⟨nb, 0, none⟩ (ptrV W6.heap.size) = W8 at *
      refine wpAnyH_take (i := 17) (v := ptrV nb) rfl (by kernel_rfl) (by kernel_rfl) (by kernel_rfl) (fun _ _ _ h => h) (Or.inl ⟨by rfl, ?y43⟩) (by assumption) ?r43
      case y43 =>
        intro w1 hSw
        go_simp
        try with_reducible rfl
      try simp only [List.getElem_toArray, List.getElem_cons_zero, List.getElem_cons_succ, Act.put, List.setIfInBounds_toArray, List.set_cons_zero, List.set_cons_succ]
      refine wpAnyH_take (i := 18) (v := .pointer (some ⟨nb, 5, none⟩)) rfl (by kernel_rfl) (by kernel_rfl) (by kernel_rfl) (fun _ _ _ h => h) (Or.inl ⟨by rfl, ?y44⟩) (by assumption) ?r44
      case y44 =>
        intro w1 hSw
        go_simp
        try with_reducible rfl
      try simp only [List.getElem_toArray, List.getElem_cons_zero, List.getElem_cons_succ, Act.put, List.setIfInBounds_toArray, List.set_cons_zero, List.set_cons_succ]
      refine wpAnyH_ready (rs := [19]) (by kernel_rfl) (by simp) (AllReadyH.cons rfl (fun K hK => ?_) AllReadyH.nil)
      have fz := (hN.2 5 _ rfl).2
      have cz := (hN.2 5 _ rfl).1
      go_simp
      refine hK.out _ _ hHeld.set (fun hHeld => ?_)
      clear hK K fz cz
      replace hN := hN.set 5 (ptrV W0.heap.size)
      replace b13 := b13.far (k := 5) (v := ptrV W0.heap.size) h13
      replace b7 := b7.far (k := 5) (v := ptrV W0.heap.size) h7
      try simp only [List.getElem_toArray, List.getElem_cons_zero, List.getElem_cons_succ, Act.put, List.setIfInBounds_toArray, List.set_cons_zero, List.set_cons_succ]
      refine wpAnyH_done (by kernel_rfl) ?_ _
      refine NoPanic.normal ?_
      go_wp2_with fail
      go_meet
      exact ⟨rfl, W6.heap.size, W0.heap.size, hHeld.1, hN, b7, b13, by omega, h7.symm, h13.symm⟩
  case rest =>
    obtain ⟨rfl, pd, gd, hB, hL, hP, hQ, hle, hp1, hp2⟩ := hcut
    have HP : Hid (PtAt (wc.setCell ⟨nb, 3, none⟩ (.int .i64 1)) pd X Y) := Lib.hid (pt_of (hP.far (k := 3) (v := .int .i64 1) hp1.symm))
    have HQ : Hid (PtAt (wc.setCell ⟨nb, 3, none⟩ (.int .i64 1)) gd cx cy) := Lib.hid (pt_of (hQ.far (k := 3) (v := .int .i64 1) hp2.symm))
    have HL : Hid (ListAt (wc.setCell ⟨nb, 3, none⟩ (.int .i64 1)) nb (nupL (ptrV pd) (ptrV gd) 1)) := Lib.hid (hL.set 3 (.int .i64 1))
    have HG2 : Hid (ListAt (wc.setCell ⟨nb, 3, none⟩ (.int .i64 1)) gd [.float .f64 cx, .float .f64 cy]) := Lib.hid (hQ.far (k := 3) (v := .int .i64 1) hp2.symm)
    have HBc : Hid (Below w.heap.size w (wc.setCell ⟨nb, 3, none⟩ (.int .i64 1))) := Lib.hid (hB.setCell hle _)
    have hpl : pd < (wc.setCell ⟨nb, 3, none⟩ (.int .i64 1)).heap.size := (hP.far (k := 3) (v := .int .i64 1) hp1.symm).1
    have hgl : gd < (wc.setCell ⟨nb, 3, none⟩ (.int .i64 1)).heap.size := (hQ.far (k := 3) (v := .int .i64 1) hp2.symm).1
    have HRG := Lib.hid (show (wc.setCell ⟨nb, 3, none⟩ (.int .i64 1)).rangeAt nb 0 (nupL (ptrV pd) (ptrV gd) 1) from fun j v hj => by rw [Nat.zero_add]; exact (HL.out.2 j v hj).1)
    have fz := (hL.2 3 _ rfl).2
    have n3 := (hL.2 3 _ rfl).1
    clear hB hL hP hQ
    go_wp2_with (first | (refine wpList_load_mid (by rfl) 151 (.tmp 66) (by rfl) nb 0 (by rfl) _ _ HRG.out Try.underlying151 (by rfl) (by kernel_rfl) ?_) | (go_at_call 94; refine (HH.out _ pd gd HP.out HQ.out hpl hgl).mono ?_; rintro e w1 ⟨v, rfl, hC⟩; obtain ⟨hB1, gs, hl, ho, hr2⟩ := hC; obtain ⟨gg, cap, rfl, _, hgg⟩ := ho.form HN0.out; have HO := Lib.hid ho; have HR := Lib.hid hr2; have HB1 := Lib.hid hB1; have HGS := Lib.hid hl; clear hB1 ho hr2 hl n3 fz))
    go_loopw [6, 70] (fun v6 i wr => ∃ k : Nat, k ≤ N ∧ i = .int .i64 k ∧ Hid (Below w1.heap.size w1 wr ∧ wr.ownsRow w1.heap.size 36 4 v6 k (flat A B C D k))) (fun _ i _ => N - (intOf i).toNat)
    case atStart => exact ⟨0, Nat.zero_le _, rfl, Lib.hid ⟨Below.refl _ _, World.ownsRow_nil _ _ _ _⟩⟩
    case round =>
      obtain ⟨k, hk, rfl, hS⟩ := hrel
      have HB2 := Lib.hid hS.out.1
      have HO2 := Lib.hid hS.out.2
      by_cases hlt : k < N
      · obtain ⟨g, hgk⟩ : ∃ g, gs[k]? = some g := ⟨_, List.getElem?_eq_getElem (by have := HGS.out; omega)⟩
        have hcell : wr.cell? ⟨gg, k, none⟩ = some (ptrV g) := by
          rw [hS.out.1.cell (p := ⟨gg, k, none⟩) hgg, HO.out.cellAt k (by omega), List.getElem?_map, hgk]; rfl
        have hRk := (HR.out k g hgk).below hS.out.1
        obtain ⟨a, ea⟩ : ∃ a, A k = a := ⟨_, rfl⟩
        obtain ⟨b, eb⟩ : ∃ b, B k = b := ⟨_, rfl⟩
        obtain ⟨c, ec⟩ : ∃ c, C k = c := ⟨_, rfl⟩
        obtain ⟨d, ed⟩ : ∃ d, D k = d := ⟨_, rfl⟩
        rw [ea, eb, ec, ed] at hRk
        have HRK := Lib.hid hRk
        have HE := Lib.hid (And.intro ea (And.intro eb (And.intro ec ed)))
        have HSZ := Lib.hid hS.out.1.size
        clear ea eb ec ed hRk hgk
        go_wp2_with (first | (go_at_call 66; refine (told_exact _ HRK.out).mono ?_; rintro e w2 ⟨rfl, rfl⟩) | (at_builtin; refine wpList_append_own _ rfl (.tmp 74) (.tmp 77) 68 rfl w1.heap.size 36 i0 (.agg #[.float .f64 0, .float .f64 0, .float .f64 0, .float .f64 0]) 4 32 Try.underlying68 hi hz0 hz1 hz2 rfl (by decide) _ k _ rfl ((HO2.out.alloc _).alloc _) ⟨wr.heap.size + 1, 0, none⟩ 1 1 [.float .f64 a, .float .f64 b, .float .f64 c, .float .f64 d] rfl rfl (new_at _ _ (by simp) _ _) (fun u hu => by simp at hu; rcases hu with rfl | rfl | rfl | rfl <;> rfl) (by unfold maxLen; omega) (by omega) (by have := HSZ.out; simp; omega) ?_; intro v' w' ho' hg' _))
        have hst := own_step HB2.out HO2.out HE.out.1 HE.out.2.1 HE.out.2.2.1 HE.out.2.2.2 ho' (below2 _ _ _).drew hg'
        clear ho' hg'
        go_roundw
        case rel => exact ⟨k + 1, by omega, by go_num, Lib.hid hst⟩
        case measure => simp [intOf] <;> omega
      · obtain rfl : k = N := by omega
        have hB2 := HBc.out.trans (HB1.out.mono HBc.out.size)
        have hgw : PtAt wr gd (floatOfInt .f64 (cols : Int)) (floatOfInt .f64 (rows : Int)) := by
          rw [HCX.out, HCY.out]
          exact pt_of ((HG2.out.below HB1.out).below (HB2.out.mono (Nat.le_refl _)))
        have HGW := Lib.hid hgw
        have hgl2 : gd < wr.heap.size := Nat.lt_of_lt_of_le hgl (Nat.le_trans HB1.out.size HB2.out.size)
        have HRW := Lib.hid (show wr.rangeAt nb 0 (nupL (ptrV pd) (ptrV gd) 1) from fun j v hj => by rw [Nat.zero_add]; exact (((HL.out.below HB1.out).below HB2.out).2 j v hj).1)
        have HFB : Hid (Below w.heap.size w wr ∧ wr.ownsRow w.heap.size 36 4 u6 k (flat A B C D k)) := Lib.hid ⟨hB2.trans (HB2.out.mono hB2.size), World.ownsRow.mono HO2.out hB2.size⟩
        clear hgw hB2
        go_wp2_with (first | (refine wpList_load_mid (by rfl) 151 (.tmp 82) (by rfl) nb 0 (by rfl) _ _ HRW.out Try.underlying151 (by rfl) (by kernel_rfl) ?_) | (go_at_call 95; refine (nup_n hc hr _ HGW.out hgl2).mono ?_; rintro e w3 ⟨rfl, hB3⟩))
        refine bodyPost_ret (v := .tuple #[u6, .int .i64 z]) (by have := HZ.out; rw [Int.natCast_mul] at this; simp [results, Try.results57, go_sem, this]) rfl ?_
        refine ⟨u6, rfl, HFB.out.1.trans (hB3.mono HFB.out.1.size), own_keep HFB.out.2 hB3⟩

set_option linter.unusedSimpArgs false in
set_option maxRecDepth 100000 in
set_option maxHeartbeats 16000000 in
theorem gridrects_2 {X Y cols rows N : Nat} {A B C D : Nat → Nat} (hc : cols < 11) (hr : rows < 11) (cx cy : Nat) (hcx : floatOfInt .f64 (cols : Int) = cx) (hcy : floatOfInt .f64 (rows : Int) = cy) (w : World)
    (hN0 : 0 < N) (hN1 : N < 1000)
    (H94 : ∀ (W : World) (pd gd : Nat), PtAt W pd X Y → PtAt W gd cx cy → pd < W.heap.size → gd < W.heap.size → Calls Try.prog 94 #[nupV pd gd 2] W fun e w' => ∃ v, e = .returned v ∧ Coll W N A B C D v w')
    (c1 : (FloatKind.f64.format.order cx 4607182418800017408 == some Ordering.gt || FloatKind.f64.format.order cx 4607182418800017408 == some Ordering.eq) = true)
    (c2 : (FloatKind.f64.format.order cx 4632233691727265792 == some Ordering.lt || FloatKind.f64.format.order cx 4632233691727265792 == some Ordering.eq) = true)
    (c3 : (FloatKind.f64.format.order cy 4607182418800017408 == some Ordering.gt || FloatKind.f64.format.order cy 4607182418800017408 == some Ordering.eq) = true)
    (c4 : (FloatKind.f64.format.order cy 4632233691727265792 == some Ordering.lt || FloatKind.f64.format.order cy 4632233691727265792 == some Ordering.eq) = true) :
    Calls Try.prog 57 #[pt X Y, pt cx cy, .int .i64 2] w fun e w' => ∃ v, e = .returned (.tuple #[v, .int .i64 ((rows * cols : Nat) : Int)]) ∧ Below w.heap.size w w' ∧ w'.ownsRow w.heap.size 36 4 v N (flat A B C D N) := by
  have HCX := Lib.hid hcx
  have HCY := Lib.hid hcy
  have HH := Lib.hid H94
  have HN0 := Lib.hid hN0
  obtain ⟨z, hz⟩ : ∃ z : Int, ((rows * cols : Nat) : Int) = z := ⟨_, rfl⟩
  rw [hz]
  have HZ := Lib.hid hz
  clear hcx hcy H94 hN0 hz
  obtain ⟨i0, hi, hz0, hz1, hz2⟩ := info_parts info36
  go_enter Try.func57, Try.ntmps57
  go_wp2_with (go_at_call 93; refine (default_nup _).mono ?_; rintro e w' ⟨rfl, rfl⟩)
  have hF0 : NupR w (w.heap.size + 1 + 1) X Y cx cy (((w.alloc (.cells #[.float .f64 X, .float .f64 Y] 28)).alloc (.cells #[.float .f64 cx, .float .f64 cy] 28)).alloc (.cells (nupL (.pointer none) (.pointer none) 0).toArray 151)) :=
    ⟨below3 _ _ _ _, ((listAt_new w _ rfl [.float .f64 X, .float .f64 Y] 28).below (below1 _ _)).below (below1 _ _), (listAt_new _ _ (by simp) [.float .f64 cx, .float .f64 cy] 28).below (below1 _ _), rfl, by simp⟩
  have hN0 : ListAt (((w.alloc (.cells #[.float .f64 X, .float .f64 Y] 28)).alloc (.cells #[.float .f64 cx, .float .f64 cy] 28)).alloc (.cells (nupL (.pointer none) (.pointer none) 0).toArray 151)) (w.heap.size + 1 + 1) (nupL (.pointer none) (.pointer none) 0) := listAt_new _ _ (by simp) _ _
  refine wp_abs26 (fun W => NupR w (w.heap.size + 1 + 1) X Y cx cy W ∧ ListAt W (w.heap.size + 1 + 1) (nupL (.pointer none) (.pointer none) 0)) ⟨hF0, hN0⟩ ?_
  clear hF0 hN0
  generalize hnb : w.heap.size + 1 + 1 = nb
  rintro W ⟨hF, hN⟩
  go_cut [8] (fun s8 wx => s8 = ptrV nb ∧ NupS w nb X Y cx cy 0 wx)
  case first =>
    have hnl : nb < W.drew.heap.size := hN.1
    refine wp_region_noPanic ?_
    refine wp_region_held_drew (S := NupR w nb X Y cx cy) (by kernel_rfl) ?_ (fun hHeld => ?_)
    · exact hF.keep (Below.refl _ _).drew
    have hN := hN.below ((Below.refl _ W).drew : Below W.heap.size W W.drew)
    generalize W.drew = W0 at *
    refine wpAnyH_take (i := 0) (v := ptrV nb) rfl (by kernel_rfl) (by kernel_rfl) (by kernel_rfl) (fun _ _ _ h => h) (Or.inl ⟨by rfl, ?y45⟩) (by assumption) ?r45
    case y45 =>
      intro w1 hSw
      go_simp
      try with_reducible rfl
    try simp only [List.getElem_toArray, List.getElem_cons_zero, List.getElem_cons_succ, Act.put, List.setIfInBounds_toArray, List.set_cons_zero, List.set_cons_succ]
    refine wpAnyH_take (i := 1) (v := ptrV nb) rfl (by kernel_rfl) (by kernel_rfl) (by kernel_rfl) (fun _ _ _ h => h) (Or.inl ⟨by rfl, ?y46⟩) (by assumption) ?r46
    case y46 =>
      intro w1 hSw
      go_simp
      try with_reducible rfl
    try simp only [List.getElem_toArray, List.getElem_cons_zero, List.getElem_cons_succ, Act.put, List.setIfInBounds_toArray, List.set_cons_zero, List.set_cons_succ]
    refine wpAnyH_take (i := 2) (v := ptrV w.heap.size) rfl (by kernel_rfl) (by kernel_rfl) (by kernel_rfl) (fun _ _ _ h => h) (Or.inl ⟨by rfl, ?y47⟩) (by assumption) ?r47
    case y47 =>
      intro w1 hSw
      go_simp
      try with_reducible rfl
    try simp only [List.getElem_toArray, List.getElem_cons_zero, List.getElem_cons_succ, Act.put, List.setIfInBounds_toArray, List.set_cons_zero, List.set_cons_succ]
    refine wpAnyH_take (i := 3) (v := .float .f64 X) rfl (by kernel_rfl) (by kernel_rfl) (by kernel_rfl) (fun _ _ _ h => h) (Or.inl ⟨by rfl, ?y48⟩) (by assumption) ?r48
    case y48 =>
      intro w1 hSw
      obtain ⟨k0, k1, _, _⟩ := pt_of hSw.2.1
      go_simp
      try with_reducible rfl
    try simp only [List.getElem_toArray, List.getElem_cons_zero, List.getElem_cons_succ, Act.put, List.setIfInBounds_toArray, List.set_cons_zero, List.set_cons_succ]
    refine wpAnyH_take (i := 4) (v := .pointer (some ⟨w.heap.size, 1, none⟩)) rfl (by kernel_rfl) (by kernel_rfl) (by kernel_rfl) (fun _ _ _ h => h) (Or.inl ⟨by rfl, ?y49⟩) (by assumption) ?r49
    case y49 =>
      intro w1 hSw
      go_simp
      try with_reducible rfl
    try simp only [List.getElem_toArray, List.getElem_cons_zero, List.getElem_cons_succ, Act.put, List.setIfInBounds_toArray, List.set_cons_zero, List.set_cons_succ]
    refine wpAnyH_take (i := 5) (v := .float .f64 Y) rfl (by kernel_rfl) (by kernel_rfl) (by kernel_rfl) (fun _ _ _ h => h) (Or.inl ⟨by rfl, ?y50⟩) (by assumption) ?r50
    case y50 =>
      intro w1 hSw
      obtain ⟨k0, k1, _, _⟩ := pt_of hSw.2.1
      go_simp
      try with_reducible rfl
    try simp only [List.getElem_toArray, List.getElem_cons_zero, List.getElem_cons_succ, Act.put, List.setIfInBounds_toArray, List.set_cons_zero, List.set_cons_succ]
    refine wpAnyH_take (i := 6) (v := pt X Y) rfl (by kernel_rfl) (by kernel_rfl) (by kernel_rfl) (fun _ _ _ h => h) (Or.inl ⟨by rfl, ?y51⟩) (by assumption) ?r51
    case y51 =>
      intro w1 hSw
      go_simp
      try with_reducible rfl
    try simp only [List.getElem_toArray, List.getElem_cons_zero, List.getElem_cons_succ, Act.put, List.setIfInBounds_toArray, List.set_cons_zero, List.set_cons_succ]
    refine wpAnyH_take (i := 8) (v := ptrV (w.heap.size + 1)) rfl (by kernel_rfl) (by kernel_rfl) (by kernel_rfl) (fun _ _ _ h => h) (Or.inl ⟨by rfl, ?y52⟩) (by assumption) ?r52
    case y52 =>
      intro w1 hSw
      go_simp
      try with_reducible rfl
    try simp only [List.getElem_toArray, List.getElem_cons_zero, List.getElem_cons_succ, Act.put, List.setIfInBounds_toArray, List.set_cons_zero, List.set_cons_succ]
    refine wpAnyH_take (i := 9) (v := .float .f64 cx) rfl (by kernel_rfl) (by kernel_rfl) (by kernel_rfl) (fun _ _ _ h => h) (Or.inl ⟨by rfl, ?y53⟩) (by assumption) ?r53
    case y53 =>
      intro w1 hSw
      obtain ⟨k0, k1, _, _⟩ := pt_of hSw.2.2.1
      go_simp
      try with_reducible rfl
    try simp only [List.getElem_toArray, List.getElem_cons_zero, List.getElem_cons_succ, Act.put, List.setIfInBounds_toArray, List.set_cons_zero, List.set_cons_succ]
    refine wpAnyH_take (i := 10) (v := .pointer (some ⟨w.heap.size + 1, 1, none⟩)) rfl (by kernel_rfl) (by kernel_rfl) (by kernel_rfl) (fun _ _ _ h => h) (Or.inl ⟨by rfl, ?y54⟩) (by assumption) ?r54
    case y54 =>
      intro w1 hSw
      go_simp
      try with_reducible rfl
    try simp only [List.getElem_toArray, List.getElem_cons_zero, List.getElem_cons_succ, Act.put, List.setIfInBounds_toArray, List.set_cons_zero, List.set_cons_succ]
    refine wpAnyH_take (i := 11) (v := .float .f64 cy) rfl (by kernel_rfl) (by kernel_rfl) (by kernel_rfl) (fun _ _ _ h => h) (Or.inl ⟨by rfl, ?y55⟩) (by assumption) ?r55
    case y55 =>
      intro w1 hSw
      obtain ⟨k0, k1, _, _⟩ := pt_of hSw.2.2.1
      go_simp
      try with_reducible rfl
    try simp only [List.getElem_toArray, List.getElem_cons_zero, List.getElem_cons_succ, Act.put, List.setIfInBounds_toArray, List.set_cons_zero, List.set_cons_succ]
    refine wpAnyH_take (i := 12) (v := pt cx cy) rfl (by kernel_rfl) (by kernel_rfl) (by kernel_rfl) (fun _ _ _ h => h) (Or.inl ⟨by rfl, ?y56⟩) (by assumption) ?r56
    case y56 =>
      intro w1 hSw
      go_simp
      try with_reducible rfl
    try simp only [List.getElem_toArray, List.getElem_cons_zero, List.getElem_cons_succ, Act.put, List.setIfInBounds_toArray, List.set_cons_zero, List.set_cons_succ]
    refine wpAnyH_ready (rs := [7, 13]) (by kernel_rfl) (by simp) (AllReadyH.cons rfl (fun K hK => ?_) (AllReadyH.cons rfl (fun K hK => ?_) AllReadyH.nil))
    · go_simp
      refine hK.out _ _ (hHeld.keep (below1 _ _)) (fun hHeld => ?_)
      clear hK K
      have hN := hN.below (below1 W0 (.cells #[.float .f64 X, .float .f64 Y] 95))
      have b7 := listAt_new W0 _ rfl [.float .f64 X, .float .f64 Y] 95
      have hs1 : W0.heap.size ≤ (W0.alloc (.cells #[.float .f64 X, .float .f64 Y] 95)).heap.size := by simp
      generalize W0.alloc (.cells #[.float .f64 X, .float .f64 Y] 95) = W1 at *
      change ListAt W1 W0.heap.size [.float .f64 X, .float .f64 Y] at b7
      have h7 : W0.heap.size ≠ nb := by omega
      try simp only [List.getElem_toArray, List.getElem_cons_zero, List.getElem_cons_succ, Act.put, List.setIfInBounds_toArray, List.set_cons_zero, List.set_cons_succ]
      refine wpAnyH_take (i := 14) (v := ptrV nb) rfl (by kernel_rfl) (by kernel_rfl) (by kernel_rfl) (fun _ _ _ h => h) (Or.inl ⟨by rfl, ?y57⟩) (by assumption) ?r57
      case y57 =>
        intro w1 hSw
        go_simp
        try with_reducible rfl
      try simp only [List.getElem_toArray, List.getElem_cons_zero, List.getElem_cons_succ, Act.put, List.setIfInBounds_toArray, List.set_cons_zero, List.set_cons_succ]
      refine wpAnyH_take (i := 15) (v := ptrV nb) rfl (by kernel_rfl) (by kernel_rfl) (by kernel_rfl) (fun _ _ _ h => h) (Or.inl ⟨by rfl, ?y58⟩) (by assumption) ?r58
      case y58 =>
        intro w1 hSw
        go_simp
        try with_reducible rfl
      try simp only [List.getElem_toArray, List.getElem_cons_zero, List.getElem_cons_succ, Act.put, List.setIfInBounds_toArray, List.set_cons_zero, List.set_cons_succ]
      refine wpAnyH_ready (rs := [13, 16]) (by kernel_rfl) (by simp) (AllReadyH.cons rfl (fun K hK => ?_) (AllReadyH.cons rfl (fun K hK => ?_) AllReadyH.nil))
      · go_simp
        refine hK.out _ _ (hHeld.keep (below1 _ _)) (fun hHeld => ?_)
        clear hK K
        have hN := hN.below (below1 W1 (.cells #[.float .f64 cx, .float .f64 cy] 95))
        have b7 := b7.below (below1 W1 (.cells #[.float .f64 cx, .float .f64 cy] 95))
        have b13 := listAt_new W1 _ rfl [.float .f64 cx, .float .f64 cy] 95
        have hs2 : W1.heap.size ≤ (W1.alloc (.cells #[.float .f64 cx, .float .f64 cy] 95)).heap.size := by simp
        generalize W1.alloc (.cells #[.float .f64 cx, .float .f64 cy] 95) = W2 at *
        change ListAt W2 W1.heap.size [.float .f64 cx, .float .f64 cy] at b13
        have h13 : W1.heap.size ≠ nb := by omega
        try simp only [List.getElem_toArray, List.getElem_cons_zero, List.getElem_cons_succ, Act.put, List.setIfInBounds_toArray, List.set_cons_zero, List.set_cons_succ]
        refine wpAnyH_ready (rs := [16]) (by kernel_rfl) (by simp) (AllReadyH.cons rfl (fun K hK => ?_) AllReadyH.nil)
        have fz := (hN.2 0 _ rfl).2
        have cz := (hN.2 0 _ rfl).1
        go_simp
        refine hK.out _ _ hHeld.set (fun hHeld => ?_)
        clear hK K fz cz
        replace hN := hN.set 0 (ptrV W0.heap.size)
        replace b7 := b7.far (k := 0) (v := ptrV W0.heap.size) h7
        replace b13 := b13.far (k := 0) (v := ptrV W0.heap.size) h13
        try simp only [List.getElem_toArray, List.getElem_cons_zero, List.getElem_cons_succ, Act.put, List.setIfInBounds_toArray, List.set_cons_zero, List.set_cons_succ]
        have hs3 : W2.heap.size ≤ (W2.setCell ⟨nb, 0, none⟩ (ptrV W0.heap.size)).heap.size := by simp
        generalize W2.setCell ⟨nb, 0, none⟩ (ptrV W0.heap.size) = W3 at *
        refine wpAnyH_take (i := 17) (v := ptrV nb) rfl (by kernel_rfl) (by kernel_rfl) (by kernel_rfl) (fun _ _ _ h => h) (Or.inl ⟨by rfl, ?y59⟩) (by assumption) ?r59
        case y59 =>
          intro w1 hSw
          go_simp
          try with_reducible rfl
        try simp only [List.getElem_toArray, List.getElem_cons_zero, List.getElem_cons_succ, Act.put, List.setIfInBounds_toArray, List.set_cons_zero, List.set_cons_succ]
        refine wpAnyH_take (i := 18) (v := .pointer (some ⟨nb, 5, none⟩)) rfl (by kernel_rfl) (by kernel_rfl) (by kernel_rfl) (fun _ _ _ h => h) (Or.inl ⟨by rfl, ?y60⟩) (by assumption) ?r60
        case y60 =>
          intro w1 hSw
          go_simp
          try with_reducible rfl
        try simp only [List.getElem_toArray, List.getElem_cons_zero, List.getElem_cons_succ, Act.put, List.setIfInBounds_toArray, List.set_cons_zero, List.set_cons_succ]
        refine wpAnyH_ready (rs := [19]) (by kernel_rfl) (by simp) (AllReadyH.cons rfl (fun K hK => ?_) AllReadyH.nil)
        have fz := (hN.2 5 _ rfl).2
        have cz := (hN.2 5 _ rfl).1
        go_simp
        refine hK.out _ _ hHeld.set (fun hHeld => ?_)
        clear hK K fz cz
        replace hN := hN.set 5 (ptrV W1.heap.size)
        replace b7 := b7.far (k := 5) (v := ptrV W1.heap.size) h7
        replace b13 := b13.far (k := 5) (v := ptrV W1.heap.size) h13
        try simp only [List.getElem_toArray, List.getElem_cons_zero, List.getElem_cons_succ, Act.put, List.setIfInBounds_toArray, List.set_cons_zero, List.set_cons_succ]
        refine wpAnyH_done (by kernel_rfl) ?_ _
        refine NoPanic.normal ?_
        go_wp2_with fail
        go_meet
        exact ⟨rfl, W0.heap.size, W1.heap.size, hHeld.1, hN, b7, b13, by omega, h7.symm, h13.symm⟩
      · have fz := (hN.2 0 _ rfl).2
        have cz := (hN.2 0 _ rfl).1
        go_simp
        refine hK.out _ _ hHeld.set (fun hHeld => ?_)
        clear hK K fz cz
        replace hN := hN.set 0 (ptrV W0.heap.size)
        replace b7 := b7.far (k := 0) (v := ptrV W0.heap.size) h7
        try simp only [List.getElem_toArray, List.getElem_cons_zero, List.getElem_cons_succ, Act.put, List.setIfInBounds_toArray, List.set_cons_zero, List.set_cons_succ]
        have hs4 : W1.heap.size ≤ (W1.setCell ⟨nb, 0, none⟩ (ptrV W0.heap.size)).heap.size := by simp
        generalize W1.setCell ⟨nb, 0, none⟩ (ptrV W0.heap.size) = W4 at *
        refine wpAnyH_ready (rs := [13]) (by kernel_rfl) (by simp) (AllReadyH.cons rfl (fun K hK => ?_) AllReadyH.nil)
        go_simp
        refine hK.out _ _ (hHeld.keep (below1 _ _)) (fun hHeld => ?_)
        clear hK K
        have hN := hN.below (below1 W4 (.cells #[.float .f64 cx, .float .f64 cy] 95))
        have b7 := b7.below (below1 W4 (.cells #[.float .f64 cx, .float .f64 cy] 95))
        have b13 := listAt_new W4 _ rfl [.float .f64 cx, .float .f64 cy] 95
        have hs5 : W4.heap.size ≤ (W4.alloc (.cells #[.float .f64 cx, .float .f64 cy] 95)).heap.size := by simp
        generalize W4.alloc (.cells #[.float .f64 cx, .float .f64 cy] 95) = W5 at *
        change ListAt W5 W4.heap.size [.float .f64 cx, .float .f64 cy] at b13
        have h13 : W4.heap.size ≠ nb := by omega
        try simp only [List.getElem_toArray, List.getElem_cons_zero, List.getElem_cons_succ, Act.put, List.setIfInBounds_toArray, List.set_cons_zero, List.set_cons_succ]
        refine wpAnyH_take (i := 17) (v := ptrV nb) rfl (by kernel_rfl) (by kernel_rfl) (by kernel_rfl) (fun _ _ _ h => h) (Or.inl ⟨by rfl, ?y61⟩) (by assumption) ?r61
        case y61 =>
          intro w1 hSw
          go_simp
          try with_reducible rfl
        try simp only [List.getElem_toArray, List.getElem_cons_zero, List.getElem_cons_succ, Act.put, List.setIfInBounds_toArray, List.set_cons_zero, List.set_cons_succ]
        refine wpAnyH_take (i := 18) (v := .pointer (some ⟨nb, 5, none⟩)) rfl (by kernel_rfl) (by kernel_rfl) (by kernel_rfl) (fun _ _ _ h => h) (Or.inl ⟨by rfl, ?y62⟩) (by assumption) ?r62
        case y62 =>
          intro w1 hSw
          go_simp
          try with_reducible rfl
        try simp only [List.getElem_toArray, List.getElem_cons_zero, List.getElem_cons_succ, Act.put, List.setIfInBounds_toArray, List.set_cons_zero, List.set_cons_succ]
        refine wpAnyH_ready (rs := [19]) (by kernel_rfl) (by simp) (AllReadyH.cons rfl (fun K hK => ?_) AllReadyH.nil)
        have fz := (hN.2 5 _ rfl).2
        have cz := (hN.2 5 _ rfl).1
        go_simp
        refine hK.out _ _ hHeld.set (fun hHeld => ?_)
        clear hK K fz cz
        replace hN := hN.set 5 (ptrV W4.heap.size)
        replace b7 := b7.far (k := 5) (v := ptrV W4.heap.size) h7
        replace b13 := b13.far (k := 5) (v := ptrV W4.heap.size) h13
        try simp only [List.getElem_toArray, List.getElem_cons_zero, List.getElem_cons_succ, Act.put, List.setIfInBounds_toArray, List.set_cons_zero, List.set_cons_succ]
        refine wpAnyH_done (by kernel_rfl) ?_ _
        refine NoPanic.normal ?_
        go_wp2_with fail
        go_meet
        exact ⟨rfl, W0.heap.size, W4.heap.size, hHeld.1, hN, b7, b13, by omega, h7.symm, h13.symm⟩
    · go_simp
      refine hK.out _ _ (hHeld.keep (below1 _ _)) (fun hHeld => ?_)
      clear hK K
      have hN := hN.below (below1 W0 (.cells #[.float .f64 cx, .float .f64 cy] 95))
      have b13 := listAt_new W0 _ rfl [.float .f64 cx, .float .f64 cy] 95
      have hs6 : W0.heap.size ≤ (W0.alloc (.cells #[.float .f64 cx, .float .f64 cy] 95)).heap.size := by simp
      generalize W0.alloc (.cells #[.float .f64 cx, .float .f64 cy] 95) = W6 at *
      change ListAt W6 W0.heap.size [.float .f64 cx, .float .f64 cy] at b13
      have h13 : W0.heap.size ≠ nb := by omega
      try simp only [List.getElem_toArray, List.getElem_cons_zero, List.getElem_cons_succ, Act.put, List.setIfInBounds_toArray, List.set_cons_zero, List.set_cons_succ]
      refine wpAnyH_ready (rs := [7]) (by kernel_rfl) (by simp) (AllReadyH.cons rfl (fun K hK => ?_) AllReadyH.nil)
      go_simp
      refine hK.out _ _ (hHeld.keep (below1 _ _)) (fun hHeld => ?_)
      clear hK K
      have hN := hN.below (below1 W6 (.cells #[.float .f64 X, .float .f64 Y] 95))
      have b13 := b13.below (below1 W6 (.cells #[.float .f64 X, .float .f64 Y] 95))
      have b7 := listAt_new W6 _ rfl [.float .f64 X, .float .f64 Y] 95
      have hs7 : W6.heap.size ≤ (W6.alloc (.cells #[.float .f64 X, .float .f64 Y] 95)).heap.size := by simp
      generalize W6.alloc (.cells #[.float .f64 X, .float .f64 Y] 95) = W7 at *
      change ListAt W7 W6.heap.size [.float .f64 X, .float .f64 Y] at b7
      have h7 : W6.heap.size ≠ nb := by omega
      try simp only [List.getElem_toArray, List.getElem_cons_zero, List.getElem_cons_succ, Act.put, List.setIfInBounds_toArray, List.set_cons_zero, List.set_cons_succ]
      refine wpAnyH_take (i := 14) (v := ptrV nb) rfl (by kernel_rfl) (by kernel_rfl) (by kernel_rfl) (fun _ _ _ h => h) (Or.inl ⟨by rfl, ?y63⟩) (by assumption) ?r63
      case y63 =>
        intro w1 hSw
        go_simp
        try with_reducible rfl
      try simp only [List.getElem_toArray, List.getElem_cons_zero, List.getElem_cons_succ, Act.put, List.setIfInBounds_toArray, List.set_cons_zero, List.set_cons_succ]
      refine wpAnyH_take (i := 15) (v := ptrV nb) rfl (by kernel_rfl) (by kernel_rfl) (by kernel_rfl) (fun _ _ _ h => h) (Or.inl ⟨by rfl, ?y64⟩) (by assumption) ?r64
      case y64 =>
        intro w1 hSw
        go_simp
        try with_reducible rfl
      try simp only [List.getElem_toArray, List.getElem_cons_zero, List.getElem_cons_succ, Act.put, List.setIfInBounds_toArray, List.set_cons_zero, List.set_cons_succ]
      refine wpAnyH_ready (rs := [16]) (by kernel_rfl) (by simp) (AllReadyH.cons rfl (fun K hK => ?_) AllReadyH.nil)
      have fz := (hN.2 0 _ rfl).2
      have cz := (hN.2 0 _ rfl).1
      go_simp
      refine hK.out _ _ hHeld.set (fun hHeld => ?_)
      clear hK K fz cz
      replace hN := hN.set 0 (ptrV W6.heap.size)
      replace b13 := b13.far (k := 0) (v := ptrV W6.heap.size) h13
      replace b7 := b7.far (k := 0) (v := ptrV W6.heap.size) h7
      try simp only [List.getElem_toArray, List.getElem_cons_zero, List.getElem_cons_succ, Act.put, List.setIfInBounds_toArray, List.set_cons_zero, List.set_cons_succ]
      have hs8 : W7.heap.size ≤ (W7.setCell ⟨nb, 0, none⟩ (ptrV W6.heap.size)).heap.size := by simp
      generalize W7.setCell ⟨nb, 0, none⟩ (ptrV W6.heap.size) = W8 at *
      refine wpAnyH_take (i := 17) (v := ptrV nb) rfl (by kernel_rfl) (by kernel_rfl) (by kernel_rfl) (fun _ _ _ h => h) (Or.inl ⟨by rfl, ?y65⟩) (by assumption) ?r65
      case y65 =>
        intro w1 hSw
        go_simp
        try with_reducible rfl
      try simp only [List.getElem_toArray, List.getElem_cons_zero, List.getElem_cons_succ, Act.put, List.setIfInBounds_toArray, List.set_cons_zero, List.set_cons_succ]
      refine wpAnyH_take (i := 18) (v := .pointer (some ⟨nb, 5, none⟩)) rfl (by kernel_rfl) (by kernel_rfl) (by kernel_rfl) (fun _ _ _ h => h) (Or.inl ⟨by rfl, ?y66⟩) (by assumption) ?r66
      case y66 =>
        intro w1 hSw
        go_simp
        try with_reducible rfl
      try simp only [List.getElem_toArray, List.getElem_cons_zero, List.getElem_cons_succ, Act.put, List.setIfInBounds_toArray, List.set_cons_zero, List.set_cons_succ]
      refine wpAnyH_ready (rs := [19]) (by kernel_rfl) (by simp) (AllReadyH.cons rfl (fun K hK => ?_) AllReadyH.nil)
      have fz := (hN.2 5 _ rfl).2
      have cz := (hN.2 5 _ rfl).1
      go_simp
      refine hK.out _ _ hHeld.set (fun hHeld => ?_)
      clear hK K fz cz
      replace hN := hN.set 5 (ptrV W0.heap.size)
      replace b13 := b13.far (k := 5) (v := ptrV W0.heap.size) h13
      replace b7 := b7.far (k := 5) (v := ptrV W0.heap.size) h7
      try simp only [List.getElem_toArray, List.getElem_cons_zero, List.getElem_cons_succ, Act.put, List.setIfInBounds_toArray, List.set_cons_zero, List.set_cons_succ]
      refine wpAnyH_done (by kernel_rfl) ?_ _
      refine NoPanic.normal ?_
      go_wp2_with fail
      go_meet
      exact ⟨rfl, W6.heap.size, W0.heap.size, hHeld.1, hN, b7, b13, by omega, h7.symm, h13.symm⟩
  case rest =>
    obtain ⟨rfl, pd, gd, hB, hL, hP, hQ, hle, hp1, hp2⟩ := hcut
    have HP : Hid (PtAt (wc.setCell ⟨nb, 3, none⟩ (.int .i64 2)) pd X Y) := Lib.hid (pt_of (hP.far (k := 3) (v := .int .i64 2) hp1.symm))
    have HQ : Hid (PtAt (wc.setCell ⟨nb, 3, none⟩ (.int .i64 2)) gd cx cy) := Lib.hid (pt_of (hQ.far (k := 3) (v := .int .i64 2) hp2.symm))
    have HL : Hid (ListAt (wc.setCell ⟨nb, 3, none⟩ (.int .i64 2)) nb (nupL (ptrV pd) (ptrV gd) 2)) := Lib.hid (hL.set 3 (.int .i64 2))
    have HG2 : Hid (ListAt (wc.setCell ⟨nb, 3, none⟩ (.int .i64 2)) gd [.float .f64 cx, .float .f64 cy]) := Lib.hid (hQ.far (k := 3) (v := .int .i64 2) hp2.symm)
    have HBc : Hid (Below w.heap.size w (wc.setCell ⟨nb, 3, none⟩ (.int .i64 2))) := Lib.hid (hB.setCell hle _)
    have hpl : pd < (wc.setCell ⟨nb, 3, none⟩ (.int .i64 2)).heap.size := (hP.far (k := 3) (v := .int .i64 2) hp1.symm).1
    have hgl : gd < (wc.setCell ⟨nb, 3, none⟩ (.int .i64 2)).heap.size := (hQ.far (k := 3) (v := .int .i64 2) hp2.symm).1
    have HRG := Lib.hid (show (wc.setCell ⟨nb, 3, none⟩ (.int .i64 2)).rangeAt nb 0 (nupL (ptrV pd) (ptrV gd) 2) from fun j v hj => by rw [Nat.zero_add]; exact (HL.out.2 j v hj).1)
    have fz := (hL.2 3 _ rfl).2
    have n3 := (hL.2 3 _ rfl).1
    clear hB hL hP hQ
    go_wp2_with (first | (refine wpList_load_mid (by rfl) 151 (.tmp 66) (by rfl) nb 0 (by rfl) _ _ HRG.out Try.underlying151 (by rfl) (by kernel_rfl) ?_) | (go_at_call 94; refine (HH.out _ pd gd HP.out HQ.out hpl hgl).mono ?_; rintro e w1 ⟨v, rfl, hC⟩; obtain ⟨hB1, gs, hl, ho, hr2⟩ := hC; obtain ⟨gg, cap, rfl, _, hgg⟩ := ho.form HN0.out; have HO := Lib.hid ho; have HR := Lib.hid hr2; have HB1 := Lib.hid hB1; have HGS := Lib.hid hl; clear hB1 ho hr2 hl n3 fz))
    go_loopw [6, 70] (fun v6 i wr => ∃ k : Nat, k ≤ N ∧ i = .int .i64 k ∧ Hid (Below w1.heap.size w1 wr ∧ wr.ownsRow w1.heap.size 36 4 v6 k (flat A B C D k))) (fun _ i _ => N - (intOf i).toNat)
    case atStart => exact ⟨0, Nat.zero_le _, rfl, Lib.hid ⟨Below.refl _ _, World.ownsRow_nil _ _ _ _⟩⟩
    case round =>
      obtain ⟨k, hk, rfl, hS⟩ := hrel
      have HB2 := Lib.hid hS.out.1
      have HO2 := Lib.hid hS.out.2
      by_cases hlt : k < N
      · obtain ⟨g, hgk⟩ : ∃ g, gs[k]? = some g := ⟨_, List.getElem?_eq_getElem (by have := HGS.out; omega)⟩
        have hcell : wr.cell? ⟨gg, k, none⟩ = some (ptrV g) := by
          rw [hS.out.1.cell (p := ⟨gg, k, none⟩) hgg, HO.out.cellAt k (by omega), List.getElem?_map, hgk]; rfl
        have hRk := (HR.out k g hgk).below hS.out.1
        obtain ⟨a, ea⟩ : ∃ a, A k = a := ⟨_, rfl⟩
        obtain ⟨b, eb⟩ : ∃ b, B k = b := ⟨_, rfl⟩
        obtain ⟨c, ec⟩ : ∃ c, C k = c := ⟨_, rfl⟩
        obtain ⟨d, ed⟩ : ∃ d, D k = d := ⟨_, rfl⟩
        rw [ea, eb, ec, ed] at hRk
        have HRK := Lib.hid hRk
        have HE := Lib.hid (And.intro ea (And.intro eb (And.intro ec ed)))
        have HSZ := Lib.hid hS.out.1.size
        clear ea eb ec ed hRk hgk
        go_wp2_with (first | (go_at_call 66; refine (told_exact _ HRK.out).mono ?_; rintro e w2 ⟨rfl, rfl⟩) | (at_builtin; refine wpList_append_own _ rfl (.tmp 74) (.tmp 77) 68 rfl w1.heap.size 36 i0 (.agg #[.float .f64 0, .float .f64 0, .float .f64 0, .float .f64 0]) 4 32 Try.underlying68 hi hz0 hz1 hz2 rfl (by decide) _ k _ rfl ((HO2.out.alloc _).alloc _) ⟨wr.heap.size + 1, 0, none⟩ 1 1 [.float .f64 a, .float .f64 b, .float .f64 c, .float .f64 d] rfl rfl (new_at _ _ (by simp) _ _) (fun u hu => by simp at hu; rcases hu with rfl | rfl | rfl | rfl <;> rfl) (by unfold maxLen; omega) (by omega) (by have := HSZ.out; simp; omega) ?_; intro v' w' ho' hg' _))
        have hst := own_step HB2.out HO2.out HE.out.1 HE.out.2.1 HE.out.2.2.1 HE.out.2.2.2 ho' (below2 _ _ _).drew hg'
        clear ho' hg'
        go_roundw
        case rel => exact ⟨k + 1, by omega, by go_num, Lib.hid hst⟩
        case measure => simp [intOf] <;> omega
      · obtain rfl : k = N := by omega
        have hB2 := HBc.out.trans (HB1.out.mono HBc.out.size)
        have hgw : PtAt wr gd (floatOfInt .f64 (cols : Int)) (floatOfInt .f64 (rows : Int)) := by
          rw [HCX.out, HCY.out]
          exact pt_of ((HG2.out.below HB1.out).below (HB2.out.mono (Nat.le_refl _)))
        have HGW := Lib.hid hgw
        have hgl2 : gd < wr.heap.size := Nat.lt_of_lt_of_le hgl (Nat.le_trans HB1.out.size HB2.out.size)
        have HRW := Lib.hid (show wr.rangeAt nb 0 (nupL (ptrV pd) (ptrV gd) 2) from fun j v hj => by rw [Nat.zero_add]; exact (((HL.out.below HB1.out).below HB2.out).2 j v hj).1)
        have HFB : Hid (Below w.heap.size w wr ∧ wr.ownsRow w.heap.size 36 4 u6 k (flat A B C D k)) := Lib.hid ⟨hB2.trans (HB2.out.mono hB2.size), World.ownsRow.mono HO2.out hB2.size⟩
        clear hgw hB2
        go_wp2_with (first | (refine wpList_load_mid (by rfl) 151 (.tmp 82) (by rfl) nb 0 (by rfl) _ _ HRW.out Try.underlying151 (by rfl) (by kernel_rfl) ?_) | (go_at_call 95; refine (nup_n hc hr _ HGW.out hgl2).mono ?_; rintro e w3 ⟨rfl, hB3⟩))
        refine bodyPost_ret (v := .tuple #[u6, .int .i64 z]) (by have := HZ.out; rw [Int.natCast_mul] at this; simp [results, Try.results57, go_sem, this]) rfl ?_
        refine ⟨u6, rfl, HFB.out.1.trans (hB3.mono HFB.out.1.size), own_keep HFB.out.2 hB3⟩

set_option linter.unusedSimpArgs false in
set_option maxRecDepth 100000 in
set_option maxHeartbeats 16000000 in
theorem gridrects_3 {X Y cols rows N : Nat} {A B C D : Nat → Nat} (hc : cols < 11) (hr : rows < 11) (cx cy : Nat) (hcx : floatOfInt .f64 (cols : Int) = cx) (hcy : floatOfInt .f64 (rows : Int) = cy) (w : World)
    (hN0 : 0 < N) (hN1 : N < 1000)
    (H94 : ∀ (W : World) (pd gd : Nat), PtAt W pd X Y → PtAt W gd cx cy → pd < W.heap.size → gd < W.heap.size → Calls Try.prog 94 #[nupV pd gd 3] W fun e w' => ∃ v, e = .returned v ∧ Coll W N A B C D v w')
    (c1 : (FloatKind.f64.format.order cx 4607182418800017408 == some Ordering.gt || FloatKind.f64.format.order cx 4607182418800017408 == some Ordering.eq) = true)
    (c2 : (FloatKind.f64.format.order cx 4632233691727265792 == some Ordering.lt || FloatKind.f64.format.order cx 4632233691727265792 == some Ordering.eq) = true)
    (c3 : (FloatKind.f64.format.order cy 4607182418800017408 == some Ordering.gt || FloatKind.f64.format.order cy 4607182418800017408 == some Ordering.eq) = true)
    (c4 : (FloatKind.f64.format.order cy 4632233691727265792 == some Ordering.lt || FloatKind.f64.format.order cy 4632233691727265792 == some Ordering.eq) = true) :
    Calls Try.prog 57 #[pt X Y, pt cx cy, .int .i64 3] w fun e w' => ∃ v, e = .returned (.tuple #[v, .int .i64 ((rows * cols : Nat) : Int)]) ∧ Below w.heap.size w w' ∧ w'.ownsRow w.heap.size 36 4 v N (flat A B C D N) := by
  have HCX := Lib.hid hcx
  have HCY := Lib.hid hcy
  have HH := Lib.hid H94
  have HN0 := Lib.hid hN0
  obtain ⟨z, hz⟩ : ∃ z : Int, ((rows * cols : Nat) : Int) = z := ⟨_, rfl⟩
  rw [hz]
  have HZ := Lib.hid hz
  clear hcx hcy H94 hN0 hz
  obtain ⟨i0, hi, hz0, hz1, hz2⟩ := info_parts info36
  go_enter Try.func57, Try.ntmps57
  go_wp2_with (go_at_call 93; refine (default_nup _).mono ?_; rintro e w' ⟨rfl, rfl⟩)
  have hF0 : NupR w (w.heap.size + 1 + 1) X Y cx cy (((w.alloc (.cells #[.float .f64 X, .float .f64 Y] 28)).alloc (.cells #[.float .f64 cx, .float .f64 cy] 28)).alloc (.cells (nupL (.pointer none) (.pointer none) 0).toArray 151)) :=
    ⟨below3 _ _ _ _, ((listAt_new w _ rfl [.float .f64 X, .float .f64 Y] 28).below (below1 _ _)).below (below1 _ _), (listAt_new _ _ (by simp) [.float .f64 cx, .float .f64 cy] 28).below (below1 _ _), rfl, by simp⟩
  have hN0 : ListAt (((w.alloc (.cells #[.float .f64 X, .float .f64 Y] 28)).alloc (.cells #[.float .f64 cx, .float .f64 cy] 28)).alloc (.cells (nupL (.pointer none) (.pointer none) 0).toArray 151)) (w.heap.size + 1 + 1) (nupL (.pointer none) (.pointer none) 0) := listAt_new _ _ (by simp) _ _
  refine wp_abs26 (fun W => NupR w (w.heap.size + 1 + 1) X Y cx cy W ∧ ListAt W (w.heap.size + 1 + 1) (nupL (.pointer none) (.pointer none) 0)) ⟨hF0, hN0⟩ ?_
  clear hF0 hN0
  generalize hnb : w.heap.size + 1 + 1 = nb
  rintro W ⟨hF, hN⟩
  go_cut [8] (fun s8 wx => s8 = ptrV nb ∧ NupS w nb X Y cx cy 0 wx)
  case first =>
    have hnl : nb < W.drew.heap.size := hN.1
    refine wp_region_noPanic ?_
    refine wp_region_held_drew (S := NupR w nb X Y cx cy) (by kernel_rfl) ?_ (fun hHeld => ?_)
    · exact hF.keep (Below.refl _ _).drew
    have hN := hN.below ((Below.refl _ W).drew : Below W.heap.size W W.drew)
    generalize W.drew = W0 at *
    refine wpAnyH_take (i := 0) (v := ptrV nb) rfl (by kernel_rfl) (by kernel_rfl) (by kernel_rfl) (fun _ _ _ h => h) (Or.inl ⟨by rfl, ?y67⟩) (by assumption) ?r67
    case y67 =>
      intro w1 hSw
      go_simp
      try with_reducible rfl
    try simp only [List.getElem_toArray, List.getElem_cons_zero, List.getElem_cons_succ, Act.put, List.setIfInBounds_toArray, List.set_cons_zero, List.set_cons_succ]
    refine wpAnyH_take (i := 1) (v := ptrV nb) rfl (by kernel_rfl) (by kernel_rfl) (by kernel_rfl) (fun _ _ _ h => h) (Or.inl ⟨by rfl, ?y68⟩) (by assumption) ?r68
    case y68 =>
      intro w1 hSw
      go_simp
      try with_reducible rfl
    try simp only [List.getElem_toArray, List.getElem_cons_zero, List.getElem_cons_succ, Act.put, List.setIfInBounds_toArray, List.set_cons_zero, List.set_cons_succ]
    refine wpAnyH_take (i := 2) (v := ptrV w.heap.size) rfl (by kernel_rfl) (by kernel_rfl) (by kernel_rfl) (fun _ _ _ h => h) (Or.inl ⟨by rfl, ?y69⟩) (by assumption) ?r69
    case y69 =>
      intro w1 hSw
      go_simp
      try with_reducible rfl
    try simp only [List.getElem_toArray, List.getElem_cons_zero, List.getElem_cons_succ, Act.put, List.setIfInBounds_toArray, List.set_cons_zero, List.set_cons_succ]
    refine wpAnyH_take (i := 3) (v := .float .f64 X) rfl (by kernel_rfl) (by kernel_rfl) (by kernel_rfl) (fun _ _ _ h => h) (Or.inl ⟨by rfl, ?y70⟩) (by assumption) ?r70
    case y70 =>
      intro w1 hSw
      obtain ⟨k0, k1, _, _⟩ := pt_of hSw.2.1
      go_simp
      try with_reducible rfl
    try simp only [List.getElem_toArray, List.getElem_cons_zero, List.getElem_cons_succ, Act.put, List.setIfInBounds_toArray, List.set_cons_zero, List.set_cons_succ]
    refine wpAnyH_take (i := 4) (v := .pointer (some ⟨w.heap.size, 1, none⟩)) rfl (by kernel_rfl) (by kernel_rfl) (by kernel_rfl) (fun _ _ _ h => h) (Or.inl ⟨by rfl, ?y71⟩) (by assumption) ?r71
    case y71 =>
      intro w1 hSw
      go_simp
      try with_reducible rfl
    try simp only [List.getElem_toArray, List.getElem_cons_zero, List.getElem_cons_succ, Act.put, List.setIfInBounds_toArray, List.set_cons_zero, List.set_cons_succ]
    refine wpAnyH_take (i := 5) (v := .float .f64 Y) rfl (by kernel_rfl) (by kernel_rfl) (by kernel_rfl) (fun _ _ _ h => h) (Or.inl ⟨by rfl, ?y72⟩) (by assumption) ?r72
    case y72 =>
      intro w1 hSw
      obtain ⟨k0, k1, _, _⟩ := pt_of hSw.2.1
      go_simp
      try with_reducible rfl
    try simp only [List.getElem_toArray, List.getElem_cons_zero, List.getElem_cons_succ, Act.put, List.setIfInBounds_toArray, List.set_cons_zero, List.set_cons_succ]
    refine wpAnyH_take (i := 6) (v := pt X Y) rfl (by kernel_rfl) (by kernel_rfl) (by kernel_rfl) (fun _ _ _ h => h) (Or.inl ⟨by rfl, ?y73⟩) (by assumption) ?r73
    case y73 =>
      intro w1 hSw
      go_simp
      try with_reducible rfl
    try simp only [List.getElem_toArray, List.getElem_cons_zero, List.getElem_cons_succ, Act.put, List.setIfInBounds_toArray, List.set_cons_zero, List.set_cons_succ]
    refine wpAnyH_take (i := 8) (v := ptrV (w.heap.size + 1)) rfl (by kernel_rfl) (by kernel_rfl) (by kernel_rfl) (fun _ _ _ h => h) (Or.inl ⟨by rfl, ?y74⟩) (by assumption) ?r74
    case y74 =>
      intro w1 hSw
      go_simp
      try with_reducible rfl
    try simp only [List.getElem_toArray, List.getElem_cons_zero, List.getElem_cons_succ, Act.put, List.setIfInBounds_toArray, List.set_cons_zero, List.set_cons_succ]
    refine wpAnyH_take (i := 9) (v := .float .f64 cx) rfl (by kernel_rfl) (by kernel_rfl) (by kernel_rfl) (fun _ _ _ h => h) (Or.inl ⟨by rfl, ?y75⟩) (by assumption) ?r75
    case y75 =>
      intro w1 hSw
      obtain ⟨k0, k1, _, _⟩ := pt_of hSw.2.2.1
      go_simp
      try with_reducible rfl
    try simp only [List.getElem_toArray, List.getElem_cons_zero, List.getElem_cons_succ, Act.put, List.setIfInBounds_toArray, List.set_cons_zero, List.set_cons_succ]
    refine wpAnyH_take (i := 10) (v := .pointer (some ⟨w.heap.size + 1, 1, none⟩)) rfl (by kernel_rfl) (by kernel_rfl) (by kernel_rfl) (fun _ _ _ h => h) (Or.inl ⟨by rfl, ?y76⟩) (by assumption) ?r76
    case y76 =>
      intro w1 hSw
      go_simp
      try with_reducible rfl
    try simp only [List.getElem_toArray, List.getElem_cons_zero, List.getElem_cons_succ, Act.put, List.setIfInBounds_toArray, List.set_cons_zero, List.set_cons_succ]
    refine wpAnyH_take (i := 11) (v := .float .f64 cy) rfl (by kernel_rfl) (by kernel_rfl) (by kernel_rfl) (fun _ _ _ h => h) (Or.inl ⟨by rfl, ?y77⟩) (by assumption) ?r77
    case y77 =>
      intro w1 hSw
      obtain ⟨k0, k1, _, _⟩ := pt_of hSw.2.2.1
      go_simp
      try with_reducible rfl
    try simp only [List.getElem_toArray, List.getElem_cons_zero, List.getElem_cons_succ, Act.put, List.setIfInBounds_toArray, List.set_cons_zero, List.set_cons_succ]
    refine wpAnyH_take (i := 12) (v := pt cx cy) rfl (by kernel_rfl) (by kernel_rfl) (by kernel_rfl) (fun _ _ _ h => h) (Or.inl ⟨by rfl, ?y78⟩) (by assumption) ?r78
    case y78 =>
      intro w1 hSw
      go_simp
      try with_reducible rfl
    try simp only [List.getElem_toArray, List.getElem_cons_zero, List.getElem_cons_succ, Act.put, List.setIfInBounds_toArray, List.set_cons_zero, List.set_cons_succ]
    refine wpAnyH_ready (rs := [7, 13]) (by kernel_rfl) (by simp) (AllReadyH.cons rfl (fun K hK => ?_) (AllReadyH.cons rfl (fun K hK => ?_) AllReadyH.nil))
    · go_simp
      refine hK.out _ _ (hHeld.keep (below1 _ _)) (fun hHeld => ?_)
      clear hK K
      have hN := hN.below (below1 W0 (.cells #[.float .f64 X, .float .f64 Y] 95))
      have b7 := listAt_new W0 _ rfl [.float .f64 X, .float .f64 Y] 95
      have hs1 : W0.heap.size ≤ (W0.alloc (.cells #[.float .f64 X, .float .f64 Y] 95)).heap.size := by simp
      generalize W0.alloc (.cells #[.float .f64 X, .float .f64 Y] 95) = W1 at *
      change ListAt W1 W0.heap.size [.float .f64 X, .float .f64 Y] at b7
      have h7 : W0.heap.size ≠ nb := by omega
      try simp only [List.getElem_toArray, List.getElem_cons_zero, List.getElem_cons_succ, Act.put, List.setIfInBounds_toArray, List.set_cons_zero, List.set_cons_succ]
      refine wpAnyH_take (i := 14) (v := ptrV nb) rfl (by kernel_rfl) (by kernel_rfl) (by kernel_rfl) (fun _ _ _ h => h) (Or.inl ⟨by rfl, ?y79⟩) (by assumption) ?r79
      case y79 =>
        intro w1 hSw
        go_simp
        try with_reducible rfl
      try simp only [List.getElem_toArray, List.getElem_cons_zero, List.getElem_cons_succ, Act.put, List.setIfInBounds_toArray, List.set_cons_zero, List.set_cons_succ]
      refine wpAnyH_take (i := 15) (v := ptrV nb) rfl (by kernel_rfl) (by kernel_rfl) (by kernel_rfl) (fun _ _ _ h => h) (Or.inl ⟨by rfl, ?y80⟩) (by assumption) ?r80
      case y80 =>
        intro w1 hSw
        go_simp
        try with_reducible rfl
      try simp only [List.getElem_toArray, List.getElem_cons_zero, List.getElem_cons_succ, Act.put, List.setIfInBounds_toArray, List.set_cons_zero, List.set_cons_succ]
      refine wpAnyH_ready (rs := [13, 16]) (by kernel_rfl) (by simp) (AllReadyH.cons rfl (fun K hK => ?_) (AllReadyH.cons rfl (fun K hK => ?_) AllReadyH.nil))
      · go_simp
        refine hK.out _ _ (hHeld.keep (below1 _ _)) (fun hHeld => ?_)
        clear hK K
        have hN := hN.below (below1 W1 (.cells #[.float .f64 cx, .float .f64 cy] 95))
        have b7 := b7.below (below1 W1 (.cells #[.float .f64 cx, .float .f64 cy] 95))
        have b13 := listAt_new W1 _ rfl [.float .f64 cx, .float .f64 cy] 95
        have hs2 : W1.heap.size ≤ (W1.alloc (.cells #[.float .f64 cx, .float .f64 cy] 95)).heap.size := by simp
        generalize W1.alloc (.cells #[.float .f64 cx, .float .f64 cy] 95) = W2 at *
        change ListAt W2 W1.heap.size [.float .f64 cx, .float .f64 cy] at b13
        have h13 : W1.heap.size ≠ nb := by omega
        try simp only [List.getElem_toArray, List.getElem_cons_zero, List.getElem_cons_succ, Act.put, List.setIfInBounds_toArray, List.set_cons_zero, List.set_cons_succ]
        refine wpAnyH_ready (rs := [16]) (by kernel_rfl) (by simp) (AllReadyH.cons rfl (fun K hK => ?_) AllReadyH.nil)
        have fz := (hN.2 0 _ rfl).2
        have cz := (hN.2 0 _ rfl).1
        go_simp
        refine hK.out _ _ hHeld.set (fun hHeld => ?_)
        clear hK K fz cz
        replace hN := hN.set 0 (ptrV W0.heap.size)
        replace b7 := b7.far (k := 0) (v := ptrV W0.heap.size) h7
        replace b13 := b13.far (k := 0) (v := ptrV W0.heap.size) h13
        try simp only [List.getElem_toArray, List.getElem_cons_zero, List.getElem_cons_succ, Act.put, List.setIfInBounds_toArray, List.set_cons_zero, List.set_cons_succ]
        have hs3 : W2.heap.size ≤ (W2.setCell ⟨nb, 0, none⟩ (ptrV W0.heap.size)).heap.size := by simp
        generalize W2.setCell ⟨nb, 0, none⟩ (ptrV W0.heap.size) = W3 at *
        refine wpAnyH_take (i := 17) (v := ptrV nb) rfl (by kernel_rfl) (by kernel_rfl) (by kernel_rfl) (fun _ _ _ h => h) (Or.inl ⟨by rfl, ?y81⟩) (by assumption) ?r81
        case y81 =>
          intro w1 hSw
          go_simp
          try with_reducible rfl
        try simp only [List.getElem_toArray, List.getElem_cons_zero, List.getElem_cons_succ, Act.put, List.setIfInBounds_toArray, List.set_cons_zero, List.set_cons_succ]
        refine wpAnyH_take (i := 18) (v := .pointer (some ⟨nb, 5, none⟩)) rfl (by kernel_rfl) (by kernel_rfl) (by kernel_rfl) (fun _ _ _ h => h) (Or.inl ⟨by rfl, ?y82⟩) (by assumption) ?r82
        case y82 =>
          intro w1 hSw
          go_simp
          try with_reducible rfl
        try simp only [List.getElem_toArray, List.getElem_cons_zero, List.getElem_cons_succ, Act.put, List.setIfInBounds_toArray, List.set_cons_zero, List.set_cons_succ]
        refine wpAnyH_ready (rs := [19]) (by kernel_rfl) (by simp) (AllReadyH.cons rfl (fun K hK => ?_) AllReadyH.nil)
        have fz := (hN.2 5 _ rfl).2
        have cz := (hN.2 5 _ rfl).1
        go_simp
        refine hK.out _ _ hHeld.set (fun hHeld => ?_)
        clear hK K fz cz
        replace hN := hN.set 5 (ptrV W1.heap.size)
        replace b7 := b7.far (k := 5) (v := ptrV W1.heap.size) h7
        replace b13 := b13.far (k := 5) (v := ptrV W1.heap.size) h13
        try simp only [List.getElem_toArray, List.getElem_cons_zero, List.getElem_cons_succ, Act.put, List.setIfInBounds_toArray, List.set_cons_zero, List.set_cons_succ]
        refine wpAnyH_done (by kernel_rfl) ?_ _
        refine NoPanic.normal ?_
        go_wp2_with fail
        go_meet
        exact ⟨rfl, W0.heap.size, W1.heap.size, hHeld.1, hN, b7, b13, by omega, h7.symm, h13.symm⟩
      · have fz := (hN.2 0 _ rfl).2
        have cz := (hN.2 0 _ rfl).1
        go_simp
        refine hK.out _ _ hHeld.set (fun hHeld => ?_)
        clear hK K fz cz
        replace hN := hN.set 0 (ptrV W0.heap.size)
        replace b7 := b7.far (k := 0) (v := ptrV W0.heap.size) h7
        try simp only [List.getElem_toArray, List.getElem_cons_zero, List.getElem_cons_succ, Act.put, List.setIfInBounds_toArray, List.set_cons_zero, List.set_cons_succ]
        have hs4 : W1.heap.size ≤ (W1.setCell ⟨nb, 0, none⟩ (ptrV W0.heap.size)).heap.size := by simp
        generalize W1.setCell ⟨nb, 0, none⟩ (ptrV W0.heap.size) = W4 at *
        refine wpAnyH_ready (rs := [13]) (by kernel_rfl) (by simp) (AllReadyH.cons rfl (fun K hK => ?_) AllReadyH.nil)
        go_simp
        refine hK.out _ _ (hHeld.keep (below1 _ _)) (fun hHeld => ?_)
        clear hK K
        have hN := hN.below (below1 W4 (.cells #[.float .f64 cx, .float .f64 cy] 95))
        have b7 := b7.below (below1 W4 (.cells #[.float .f64 cx, .float .f64 cy] 95))
        have b13 := listAt_new W4 _ rfl [.float .f64 cx, .float .f64 cy] 95
        have hs5 : W4.heap.size ≤ (W4.alloc (.cells #[.float .f64 cx, .float .f64 cy] 95)).heap.size := by simp
        generalize W4.alloc (.cells #[.float .f64 cx, .float .f64 cy] 95) = W5 at *
        change ListAt W5 W4.heap.size [.float .f64 cx, .float .f64 cy] at b13
        have h13 : W4.heap.size ≠ nb := by omega
        try simp only [List.getElem_toArray, List.getElem_cons_zero, List.getElem_cons_succ, Act.put, List.setIfInBounds_toArray, List.set_cons_zero, List.set_cons_succ]
        refine wpAnyH_take (i := 17) (v := ptrV nb) rfl (by kernel_rfl) (by kernel_rfl) (by kernel_rfl) (fun _ _ _ h => h) (Or.inl ⟨by rfl, ?y83⟩) (by assumption) ?r83
        case y83 =>
          intro w1 hSw
          go_simp
          try with_reducible rfl
        try simp only [List.getElem_toArray, List.getElem_cons_zero, List.getElem_cons_succ, Act.put, List.setIfInBounds_toArray, List.set_cons_zero, List.set_cons_succ]
        refine wpAnyH_take (i := 18) (v := .pointer (some ⟨nb, 5, none⟩)) rfl (by kernel_rfl) (by kernel_rfl) (by kernel_rfl) (fun _ _ _ h => h) (Or.inl ⟨by rfl, ?y84⟩) (by assumption) ?r84
        case y84 =>
          intro w1 hSw
          go_simp
          try with_reducible rfl
        try simp only [List.getElem_toArray, List.getElem_cons_zero, List.getElem_cons_succ, Act.put, List.setIfInBounds_toArray, List.set_cons_zero, List.set_cons_succ]
        refine wpAnyH_ready (rs := [19]) (by kernel_rfl) (by simp) (AllReadyH.cons rfl (fun K hK => ?_) AllReadyH.nil)
        have fz := (hN.2 5 _ rfl).2
        have cz := (hN.2 5 _ rfl).1
        go_simp
        refine hK.out _ _ hHeld.set (fun hHeld => ?_)
        clear hK K fz cz
        replace hN := hN.set 5 (ptrV W4.heap.size)
        replace b7 := b7.far (k := 5) (v := ptrV W4.heap.size) h7
        replace b13 := b13.far (k := 5) (v := ptrV W4.heap.size) h13
        try simp only [List.getElem_toArray, List.getElem_cons_zero, List.getElem_cons_succ, Act.put, List.setIfInBounds_toArray, List.set_cons_zero, List.set_cons_succ]
        refine wpAnyH_done (by kernel_rfl) ?_ _
        refine NoPanic.normal ?_
        go_wp2_with fail
        go_meet
        exact ⟨rfl, W0.heap.size, W4.heap.size, hHeld.1, hN, b7, b13, by omega, h7.symm, h13.symm⟩
    · go_simp
      refine hK.out _ _ (hHeld.keep (below1 _ _)) (fun hHeld => ?_)
      clear hK K
      have hN := hN.below (below1 W0 (.cells #[.float .f64 cx, .float .f64 cy] 95))
      have b13 := listAt_new W0 _ rfl [.float .f64 cx, .float .f64 cy] 95
      have hs6 : W0.heap.size ≤ (W0.alloc (.cells #[.float .f64 cx, .float .f64 cy] 95)).heap.size := by simp
      generalize W0.alloc (.cells #[.float .f64 cx, .float .f64 cy] 95) = W6 at *
      change ListAt W6 W0.heap.size [.float .f64 cx, .float .f64 cy] at b13
      have h13 : W0.heap.size ≠ nb := by omega
      try simp only [List.getElem_toArray, List.getElem_cons_zero, List.getElem_cons_succ, Act.put, List.setIfInBounds_toArray, List.set_cons_zero, List.set_cons_succ]
      refine wpAnyH_ready (rs := [7]) (by kernel_rfl) (by simp) (AllReadyH.cons rfl (fun K hK => ?_) AllReadyH.nil)
      go_simp
      refine hK.out _ _ (hHeld.keep (below1 _ _)) (fun hHeld => ?_)
      clear hK K
      have hN := hN.below (below1 W6 (.cells #[.float .f64 X, .float .f64 Y] 95))
      have b13 := b13.below (below1 W6 (.cells #[.float .f64 X, .float .f64 Y] 95))
      have b7 := listAt_new W6 _ rfl [.float .f64 X, .float .f64 Y] 95
      have hs7 : W6.heap.size ≤ (W6.alloc (.cells #[.float .f64 X, .float .f64 Y] 95)).heap.size := by simp
      generalize W6.alloc (.cells #[.float .f64 X, .float .f64 Y] 95) = W7 at *
      change ListAt W7 W6.heap.size [.float .f64 X, .float .f64 Y] at b7
      have h7 : W6.heap.size ≠ nb := by omega
      try simp only [List.getElem_toArray, List.getElem_cons_zero, List.getElem_cons_succ, Act.put, List.setIfInBounds_toArray, List.set_cons_zero, List.set_cons_succ]
      refine wpAnyH_take (i := 14) (v := ptrV nb) rfl (by kernel_rfl) (by kernel_rfl) (by kernel_rfl) (fun _ _ _ h => h) (Or.inl ⟨by rfl, ?y85⟩) (by assumption) ?r85
      case y85 =>
        intro w1 hSw
        go_simp
        try with_reducible rfl
      try simp only [List.getElem_toArray, List.getElem_cons_zero, List.getElem_cons_succ, Act.put, List.setIfInBounds_toArray, List.set_cons_zero, List.set_cons_succ]
      refine wpAnyH_take (i := 15) (v := ptrV nb) rfl (by kernel_rfl) (by kernel_rfl) (by kernel_rfl) (fun _ _ _ h => h) (Or.inl ⟨by rfl, ?y86⟩) (by assumption) ?r86
      case y86 =>
        intro w1 hSw
        go_simp
        try with_reducible rfl
      try simp only [List.getElem_toArray, List.getElem_cons_zero, List.getElem_cons_succ, Act.put, List.setIfInBounds_toArray, List.set_cons_zero, List.set_cons_succ]
      refine wpAnyH_ready (rs := [16]) (by kernel_rfl) (by simp) (AllReadyH.cons rfl (fun K hK => ?_) AllReadyH.nil)
      have fz := (hN.2 0 _ rfl).2
      have cz := (hN.2 0 _ rfl).1
      go_simp
      refine hK.out _ _ hHeld.set (fun hHeld => ?_)
      clear hK K fz cz
      replace hN := hN.set 0 (ptrV W6.heap.size)
      replace b13 := b13.far (k := 0) (v := ptrV W6.heap.size) h13
      replace b7 := b7.far (k := 0) (v := ptrV W6.heap.size) h7
      try simp only [List.getElem_toArray, List.getElem_cons_zero, List.getElem_cons_succ, Act.put, List.setIfInBounds_toArray, List.set_cons_zero, List.set_cons_succ]
      have hs8 : W7.heap.size ≤ (W7.setCell ⟨nb, 0, none⟩ (ptrV W6.heap.size)).heap.size := by simp
      generalize W7.setCell ⟨nb, 0, none⟩ (ptrV W6.heap.size) = W8 at *
      refine wpAnyH_take (i := 17) (v := ptrV nb) rfl (by kernel_rfl) (by kernel_rfl) (by kernel_rfl) (fun _ _ _ h => h) (Or.inl ⟨by rfl, ?y87⟩) (by assumption) ?r87
      case y87 =>
        intro w1 hSw
        go_simp
        try with_reducible rfl
      try simp only [List.getElem_toArray, List.getElem_cons_zero, List.getElem_cons_succ, Act.put, List.setIfInBounds_toArray, List.set_cons_zero, List.set_cons_succ]
      refine wpAnyH_take (i := 18) (v := .pointer (some ⟨nb, 5, none⟩)) rfl (by kernel_rfl) (by kernel_rfl) (by kernel_rfl) (fun _ _ _ h => h) (Or.inl ⟨by rfl, ?y88⟩) (by assumption) ?r88
      case y88 =>
        intro w1 hSw
        go_simp
        try with_reducible rfl
      try simp only [List.getElem_toArray, List.getElem_cons_zero, List.getElem_cons_succ, Act.put, List.setIfInBounds_toArray, List.set_cons_zero, List.set_cons_succ]
      refine wpAnyH_ready (rs := [19]) (by kernel_rfl) (by simp) (AllReadyH.cons rfl (fun K hK => ?_) AllReadyH.nil)
      have fz := (hN.2 5 _ rfl).2
      have cz := (hN.2 5 _ rfl).1
      go_simp
      refine hK.out _ _ hHeld.set (fun hHeld => ?_)
      clear hK K fz cz
      replace hN := hN.set 5 (ptrV W0.heap.size)
      replace b13 := b13.far (k := 5) (v := ptrV W0.heap.size) h13
      replace b7 := b7.far (k := 5) (v := ptrV W0.heap.size) h7
      try simp only [List.getElem_toArray, List.getElem_cons_zero, List.getElem_cons_succ, Act.put, List.setIfInBounds_toArray, List.set_cons_zero, List.set_cons_succ]
      refine wpAnyH_done (by kernel_rfl) ?_ _
      refine NoPanic.normal ?_
      go_wp2_with fail
      go_meet
      exact ⟨rfl, W6.heap.size, W0.heap.size, hHeld.1, hN, b7, b13, by omega, h7.symm, h13.symm⟩
  case rest =>
    obtain ⟨rfl, pd, gd, hB, hL, hP, hQ, hle, hp1, hp2⟩ := hcut
    have HP : Hid (PtAt (wc.setCell ⟨nb, 3, none⟩ (.int .i64 3)) pd X Y) := Lib.hid (pt_of (hP.far (k := 3) (v := .int .i64 3) hp1.symm))
    have HQ : Hid (PtAt (wc.setCell ⟨nb, 3, none⟩ (.int .i64 3)) gd cx cy) := Lib.hid (pt_of (hQ.far (k := 3) (v := .int .i64 3) hp2.symm))
    have HL : Hid (ListAt (wc.setCell ⟨nb, 3, none⟩ (.int .i64 3)) nb (nupL (ptrV pd) (ptrV gd) 3)) := Lib.hid (hL.set 3 (.int .i64 3))
    have HG2 : Hid (ListAt (wc.setCell ⟨nb, 3, none⟩ (.int .i64 3)) gd [.float .f64 cx, .float .f64 cy]) := Lib.hid (hQ.far (k := 3) (v := .int .i64 3) hp2.symm)
    have HBc : Hid (Below w.heap.size w (wc.setCell ⟨nb, 3, none⟩ (.int .i64 3))) := Lib.hid (hB.setCell hle _)
    have hpl : pd < (wc.setCell ⟨nb, 3, none⟩ (.int .i64 3)).heap.size := (hP.far (k := 3) (v := .int .i64 3) hp1.symm).1
    have hgl : gd < (wc.setCell ⟨nb, 3, none⟩ (.int .i64 3)).heap.size := (hQ.far (k := 3) (v := .int .i64 3) hp2.symm).1
    have HRG := Lib.hid (show (wc.setCell ⟨nb, 3, none⟩ (.int .i64 3)).rangeAt nb 0 (nupL (ptrV pd) (ptrV gd) 3) from fun j v hj => by rw [Nat.zero_add]; exact (HL.out.2 j v hj).1)
    have fz := (hL.2 3 _ rfl).2
    have n3 := (hL.2 3 _ rfl).1
    clear hB hL hP hQ
    go_wp2_with (first | (refine wpList_load_mid (by rfl) 151 (.tmp 66) (by rfl) nb 0 (by rfl) _ _ HRG.out Try.underlying151 (by rfl) (by kernel_rfl) ?_) | (go_at_call 94; refine (HH.out _ pd gd HP.out HQ.out hpl hgl).mono ?_; rintro e w1 ⟨v, rfl, hC⟩; obtain ⟨hB1, gs, hl, ho, hr2⟩ := hC; obtain ⟨gg, cap, rfl, _, hgg⟩ := ho.form HN0.out; have HO := Lib.hid ho; have HR := Lib.hid hr2; have HB1 := Lib.hid hB1; have HGS := Lib.hid hl; clear hB1 ho hr2 hl n3 fz))
    go_loopw [6, 70] (fun v6 i wr => ∃ k : Nat, k ≤ N ∧ i = .int .i64 k ∧ Hid (Below w1.heap.size w1 wr ∧ wr.ownsRow w1.heap.size 36 4 v6 k (flat A B C D k))) (fun _ i _ => N - (intOf i).toNat)
    case atStart => exact ⟨0, Nat.zero_le _, rfl, Lib.hid ⟨Below.refl _ _, World.ownsRow_nil _ _ _ _⟩⟩
    case round =>
      obtain ⟨k, hk, rfl, hS⟩ := hrel
      have HB2 := Lib.hid hS.out.1
      have HO2 := Lib.hid hS.out.2
      by_cases hlt : k < N
      · obtain ⟨g, hgk⟩ : ∃ g, gs[k]? = some g := ⟨_, List.getElem?_eq_getElem (by have := HGS.out; omega)⟩
        have hcell : wr.cell? ⟨gg, k, none⟩ = some (ptrV g) := by
          rw [hS.out.1.cell (p := ⟨gg, k, none⟩) hgg, HO.out.cellAt k (by omega), List.getElem?_map, hgk]; rfl
        have hRk := (HR.out k g hgk).below hS.out.1
        obtain ⟨a, ea⟩ : ∃ a, A k = a := ⟨_, rfl⟩
        obtain ⟨b, eb⟩ : ∃ b, B k = b := ⟨_, rfl⟩
        obtain ⟨c, ec⟩ : ∃ c, C k = c := ⟨_, rfl⟩
        obtain ⟨d, ed⟩ : ∃ d, D k = d := ⟨_, rfl⟩
        rw [ea, eb, ec, ed] at hRk
        have HRK := Lib.hid hRk
        have HE := Lib.hid (And.intro ea (And.intro eb (And.intro ec ed)))
        have HSZ := Lib.hid hS.out.1.size
        clear ea eb ec ed hRk hgk
        go_wp2_with (first | (go_at_call 66; refine (told_exact _ HRK.out).mono ?_; rintro e w2 ⟨rfl, rfl⟩) | (at_builtin; refine wpList_append_own _ rfl (.tmp 74) (.tmp 77) 68 rfl w1.heap.size 36 i0 (.agg #[.float .f64 0, .float .f64 0, .float .f64 0, .float .f64 0]) 4 32 Try.underlying68 hi hz0 hz1 hz2 rfl (by decide) _ k _ rfl ((HO2.out.alloc _).alloc _) ⟨wr.heap.size + 1, 0, none⟩ 1 1 [.float .f64 a, .float .f64 b, .float .f64 c, .float .f64 d] rfl rfl (new_at _ _ (by simp) _ _) (fun u hu => by simp at hu; rcases hu with rfl | rfl | rfl | rfl <;> rfl) (by unfold maxLen; omega) (by omega) (by have := HSZ.out; simp; omega) ?_; intro v' w' ho' hg' _))
        have hst := own_step HB2.out HO2.out HE.out.1 HE.out.2.1 HE.out.2.2.1 HE.out.2.2.2 ho' (below2 _ _ _).drew hg'
        clear ho' hg'
        go_roundw
        case rel => exact ⟨k + 1, by omega, by go_num, Lib.hid hst⟩
        case measure => simp [intOf] <;> omega
      · obtain rfl : k = N := by omega
        have hB2 := HBc.out.trans (HB1.out.mono HBc.out.size)
        have hgw : PtAt wr gd (floatOfInt .f64 (cols : Int)) (floatOfInt .f64 (rows : Int)) := by
          rw [HCX.out, HCY.out]
          exact pt_of ((HG2.out.below HB1.out).below (HB2.out.mono (Nat.le_refl _)))
        have HGW := Lib.hid hgw
        have hgl2 : gd < wr.heap.size := Nat.lt_of_lt_of_le hgl (Nat.le_trans HB1.out.size HB2.out.size)
        have HRW := Lib.hid (show wr.rangeAt nb 0 (nupL (ptrV pd) (ptrV gd) 3) from fun j v hj => by rw [Nat.zero_add]; exact (((HL.out.below HB1.out).below HB2.out).2 j v hj).1)
        have HFB : Hid (Below w.heap.size w wr ∧ wr.ownsRow w.heap.size 36 4 u6 k (flat A B C D k)) := Lib.hid ⟨hB2.trans (HB2.out.mono hB2.size), World.ownsRow.mono HO2.out hB2.size⟩
        clear hgw hB2
        go_wp2_with (first | (refine wpList_load_mid (by rfl) 151 (.tmp 82) (by rfl) nb 0 (by rfl) _ _ HRW.out Try.underlying151 (by rfl) (by kernel_rfl) ?_) | (go_at_call 95; refine (nup_n hc hr _ HGW.out hgl2).mono ?_; rintro e w3 ⟨rfl, hB3⟩))
        refine bodyPost_ret (v := .tuple #[u6, .int .i64 z]) (by have := HZ.out; rw [Int.natCast_mul] at this; simp [results, Try.results57, go_sem, this]) rfl ?_
        refine ⟨u6, rfl, HFB.out.1.trans (hB3.mono HFB.out.1.size), own_keep HFB.out.2 hB3⟩

end Go.Proofs.Ytooghncdhjdcpaa
