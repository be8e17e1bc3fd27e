/-
The law FnQuarters: its own function walked. Conditions: the words of the products and sums; the variables hold what their texts say.
-/
import Derived.Test.YthjbaeipdjoenaaDoorT2
import Derived.Test.YthjbaeipdjoenaaDoorPx
import Derived.Lib.SmallJoins
import Derived.IntWalk
import Derived.BigQuiet
import Derived.Deep.QuietTactic
namespace Go.Proofs.YthjbaeipdjoenaaDoor
open Go.RowKit Fl

theorem quarters_far (n : Int) (dx dy px py ra rb rc rd : Nat) (w : World) (hn : n < 0 ∨ 3 < n ∨ [dx, dy, px, py].all smallB = false ∨ properB ra rb rc rd = false) :
    Calls Tryd.prog 4 #[.int .i64 n, .float .f64 dx, .float .f64 dy, pt px py, .agg #[.float .f64 ra, .float .f64 rb, .float .f64 rc, .float .f64 rd]] w fun e w' => e = .returned (.bool true) ∧ Below w.heap.size w w' := by
  by_cases h1 : n < 0
  · have d1 : decide (n < 0) = true := by simpa using h1
    clear hn
    go_enter Tryd.func4, Tryd.ntmps4
    go_wp2_with fail
    go_ret
    exact ⟨rfl, (below1 _ _).alloc (by simp) _⟩
  have d1 : decide (n < 0) = false := by simpa using h1
  by_cases h2 : 3 < n
  · have d2 : decide (3 < n) = true := by simpa using h2
    clear hn
    go_enter Tryd.func4, Tryd.ntmps4
    go_wp2_with fail
    go_ret
    exact ⟨rfl, (below1 _ _).alloc (by simp) _⟩
  have d2 : decide (3 < n) = false := by simpa using h2
  cases hs : [dx, dy, px, py].all smallB
  · have HS := Lib.hid hs
    clear hn hs
    go_enter Tryd.func4, Tryd.ntmps4
    go_wp2_with (go_at_call 6; refine (small_at [dx, dy, px, py] false _ _ (by simp) HS.out (by simp)).mono ?_; rintro e w' ⟨rfl, rfl⟩)
    go_ret
    exact ⟨rfl, ((below1 _ _).alloc (by simp) _).alloc (by simp <;> omega) _⟩
  have HS := Lib.hid hs
  have HP : Hid (properB ra rb rc rd = false) := Lib.hid (by rcases hn with h | h | h | h; exact absurd h h1; exact absurd h h2; rw [hs] at h; cases h; exact h)
  clear hn hs
  go_enter Tryd.func4, Tryd.ntmps4
  go_wp2_with (first | (go_at_call 6; refine (small_at [dx, dy, px, py] true _ _ (by simp) HS.out (by simp)).mono ?_; rintro e w' ⟨rfl, rfl⟩) | (go_at_call 10; refine (proper_any ra rb rc rd false _ HP.out).mono ?_; rintro e w' ⟨rfl, rfl⟩))
  go_ret
  exact ⟨rfl, ((((below1 _ _).alloc (by first | (simp; omega) | simp) _).alloc (by first | (simp; omega) | simp) _).alloc (by first | (simp; omega) | simp) _).alloc (by first | (simp; omega) | simp) _⟩

def HeldQ (w : World) (px py : Nat) (W : World) : Prop := Below w.heap.size w W ∧ PtAt W w.heap.size px py ∧ w.heap.size < W.heap.size
theorem HeldQ.keep {w W W' : World} {px py : Nat} (h : HeldQ w px py W) (hb : Below W.heap.size W W') : HeldQ w px py W' :=
  ⟨h.1.trans (hb.mono h.1.size), h.2.1.old hb h.2.2, Nat.lt_of_lt_of_le h.2.2 hb.size⟩
theorem HeldQ.set {w W : World} {px py : Nat} (h : HeldQ w px py W) {b o : Nat} {v : Value} (hb : b ≠ w.heap.size ∧ w.heap.size ≤ b) : HeldQ w px py (W.setCell ⟨b, o, none⟩ v) :=
  ⟨h.1.setCell hb.2 _, h.2.1.far hb.1.symm, by simpa using h.2.2⟩
theorem heldQ_new (w : World) (px py : Nat) : HeldQ w px py (w.alloc (.cells #[.float .f64 px, .float .f64 py] 32)) := ⟨below1 _ _, PtAt.new _ _ _ _, by simp⟩
theorem HeldQ.drewN {w W : World} {px py : Nat} (h : HeldQ w px py W) (n : Nat) : HeldQ w px py (W.drewN n) := h.keep (Joins.below_draws _ _ _)

def rotW (px py : Nat) : Nat → Nat × Nat
  | 0 => (px, py)
  | k + 1 => (Op.negFloat .f64 (rotW px py k).2, (rotW px py k).1)

set_option linter.unusedSimpArgs false in
set_option maxHeartbeats 8000000 in
set_option maxRecDepth 100000 in
theorem quarters_near (k : Nat) (hk : k < 4) {x s c : Nat} {q a b : Rat} (h : Turn (90 * k) x s c q a b) (dx dy px py ra rb rc rd : Nat) (m s1 m2 s2 : Nat → Nat → Nat → Nat) (ax ay a1 a2 a3 a4 a5 a6 ex ey : Nat) (hA1 : Tr1 (prodM s2) 0 px py ax a1 a2 a3) (hA2 : Tr1 (prodM s2) 1 px py ay a4 a5 a6)
    (hx : fa (rotW px py k).1 dx = some ex) (hy : fa (rotW px py k).2 dy = some ey) (hn1 : NearW ax ex) (hn2 : NearW ay ey)
    (h1 : Mul3 (scaleM one1 one1) (turnM s (Op.negFloat .f64 s) c) m s1) (h2 : Mul3 (prodM s1) (moveM dx dy) m2 s2) (w : World) (hV : Vars3 w) (hs : [dx, dy, px, py].all smallB = true) (hp : properB ra rb rc rd = true) :
    Calls Tryd.prog 4 #[.int .i64 (k : Int), .float .f64 dx, .float .f64 dy, pt px py, .agg #[.float .f64 ra, .float .f64 rb, .float .f64 rc, .float .f64 rd]] w fun e w' => e = .returned (.bool true) ∧ Below w.heap.size w w' := by
  have d1 : decide ((k : Int) < 0) = false := by simp
  have d2 : decide (3 < (k : Int)) = false := by simp; omega
  have HS := Lib.hid hs
  have HP := Lib.hid hp
  have H := Lib.hid h
  have H1 := Lib.hid h1
  have H2 := Lib.hid h2
  have A1 := Lib.hid hA1
  have A2 := Lib.hid hA2
  have HX := Lib.hid hx
  have HY := Lib.hid hy
  have N1 := Lib.hid hn1
  have N2 := Lib.hid hn2
  have HV : Hid (∀ w', Below w.heap.size w w' → Vars3 w') := Lib.hid fun w' hb => hV.old hb
  clear h1 h2 hV h hs hp hA1 hA2 hx hy hn1 hn2
  have hneg : ∀ (x : Nat) (w : World), (Op.unary .neg (.float .f64 x)).run Tryd.prog w = .ok (.float .f64 (Op.negFloat .f64 x)) w := fun _ _ => rfl
  go_enter Tryd.func4, Tryd.ntmps4
  go_wp2_with (first | (go_at_call 6; refine (small_at [dx, dy, px, py] true _ _ (by simp) HS.out (by simp)).mono ?_; rintro e w' ⟨rfl, rfl⟩) | (go_at_call 10; refine (proper_any ra rb rc rd true _ HP.out).mono ?_; rintro e w' ⟨rfl, rfl⟩))
  go_quiet (fail)
  go_wp2_with fail
  have hF : HeldQ w px py (((((w.alloc (Obj.cells #[.float .f64 px, .float .f64 py] 32)).alloc (Obj.cells #[.float .f64 ra, .float .f64 rb, .float .f64 rc, .float .f64 rd] 34)).alloc (Obj.cells #[.float .f64 dx, .float .f64 dy, .float .f64 px, .float .f64 py] 22)).alloc (Obj.cells #[.float .f64 ra, .float .f64 rb, .float .f64 rc, .float .f64 rd] 34)).alloc (Obj.cells #[.float .f64 ra, .float .f64 rb, .float .f64 rc, .float .f64 rd] 22)) :=
    ((((heldQ_new w px py).keep (below1 _ _)).keep (below1 _ _)).keep (below1 _ _)).keep (below1 _ _)
  replace hF := hF.drewN nq
  refine wp_abs (HeldQ w px py) hF ?_
  clear hF
  intro W hF
  go_loop [11, 12, 41] (fun x y i => ∃ j : Nat, j ≤ k ∧ i = .int .i64 j ∧ x = .float .f64 (rotW px py j).1 ∧ y = .float .f64 (rotW px py j).2) (fun _ _ i => k - (intOf i).toNat)
  case atStart => exact ⟨0, Nat.zero_le _, rfl, rfl, rfl⟩
  case round =>
    obtain ⟨j, hj, rfl, rfl, rfl⟩ := hrel
    by_cases hlt : j < k
    · go_wp2_with fail
      go_round
      case rel => exact ⟨j + 1, by omega, by go_num, rfl, rfl⟩
      case measure => simp [intOf]; omega
    · obtain rfl : k = j := by omega
      clear hj hlt
      go_wp2_with fail
      refine wp_region_held_drew (S := HeldQ w px py) (by kernel_rfl) ?_ (fun hHeld => ?_)
      · exact hF.keep (Below.refl _ _).drew
      have hn0 : w.heap.size < W.drew.heap.size := hHeld.2.2
      generalize W.drew = W0 at *
      refine wpAnyH_take (i := 0) (v := .int .i64 (k : Int)) rfl (by kernel_rfl) (by kernel_rfl) (by kernel_rfl) (fun _ _ _ h => h) (Or.inl ⟨by rfl, ?y0⟩) (by assumption) ?r0
      case y0 =>
        intro w1 hSw
        go_simp
        try with_reducible rfl
      try simp only [List.getElem_toArray, List.getElem_cons_zero, List.getElem_cons_succ, Act.put, List.setIfInBounds_toArray, List.set_cons_zero, List.set_cons_succ]
      refine wpAnyH_take (i := 1) (v := .int .i64 (90 * (k : Int))) rfl (by kernel_rfl) (by kernel_rfl) (by kernel_rfl) (fun _ _ _ h => h) (Or.inl ⟨by rfl, ?y1⟩) (by assumption) ?r1
      case y1 =>
        intro w1 hSw
        go_simp
        exact IntWalk.i64_in _ (by omega)
      try simp only [List.getElem_toArray, List.getElem_cons_zero, List.getElem_cons_succ, Act.put, List.setIfInBounds_toArray, List.set_cons_zero, List.set_cons_succ]
      refine wpAnyH_take (i := 2) (v := .float .f64 (floatOfInt .f64 (90 * (k : Int)))) rfl (by kernel_rfl) (by kernel_rfl) (by kernel_rfl) (fun _ _ _ h => h) (Or.inl ⟨by rfl, ?y2⟩) (by assumption) ?r2
      case y2 =>
        intro w1 hSw
        go_simp
        try with_reducible rfl
      try simp only [List.getElem_toArray, List.getElem_cons_zero, List.getElem_cons_succ, Act.put, List.setIfInBounds_toArray, List.set_cons_zero, List.set_cons_succ]
      refine wpAnyH_take (i := 3) (v := .float .f64 dx) rfl (by kernel_rfl) (by kernel_rfl) (by kernel_rfl) (fun _ _ _ h => h) (Or.inl ⟨by rfl, ?y3⟩) (by assumption) ?r3
      case y3 =>
        intro w1 hSw
        go_simp
        try with_reducible rfl
      try simp only [List.getElem_toArray, List.getElem_cons_zero, List.getElem_cons_succ, Act.put, List.setIfInBounds_toArray, List.set_cons_zero, List.set_cons_succ]
      refine wpAnyH_take (i := 4) (v := .float .f64 dy) rfl (by kernel_rfl) (by kernel_rfl) (by kernel_rfl) (fun _ _ _ h => h) (Or.inl ⟨by rfl, ?y4⟩) (by assumption) ?r4
      case y4 =>
        intro w1 hSw
        go_simp
        try with_reducible rfl
      try simp only [List.getElem_toArray, List.getElem_cons_zero, List.getElem_cons_succ, Act.put, List.setIfInBounds_toArray, List.set_cons_zero, List.set_cons_succ]
      refine wpAnyH_take (i := 6) (v := pt px py) rfl (by kernel_rfl) (by kernel_rfl) (by kernel_rfl) (fun _ _ _ h => h) (Or.inl ⟨by rfl, ?y6⟩) (by assumption) ?r6
      case y6 =>
        intro w1 hSw
        obtain ⟨k0, k1, _, _⟩ := hSw.2.1
        go_simp
        try with_reducible rfl
      try simp only [List.getElem_toArray, List.getElem_cons_zero, List.getElem_cons_succ, Act.put, List.setIfInBounds_toArray, List.set_cons_zero, List.set_cons_succ]
      refine wpAnyH_ready (rs := [5, 8]) (by kernel_rfl) (by simp) (AllReadyH.cons rfl (fun K hK => ?_) (AllReadyH.cons rfl (fun K hK => ?_) AllReadyH.nil))
      · go_simp
        go_at_call 12
        refine (rotated H.out dx dy m s1 m2 s2 H1.out H2.out _ (HV.out _ hHeld.1)).mono ?_
        rintro e W1 ⟨rfl, hb1⟩
        refine hK.out _ _ (hHeld.keep hb1) (fun hHeld => ?_)
        clear hK K
        have hz1 := hb1.size
        try simp only [List.getElem_toArray, List.getElem_cons_zero, List.getElem_cons_succ, Act.put, List.setIfInBounds_toArray, List.set_cons_zero, List.set_cons_succ]
        refine wpAnyH_ready (rs := [7, 8]) (by kernel_rfl) (by simp) (AllReadyH.cons rfl (fun K hK => ?_) (AllReadyH.cons rfl (fun K hK => ?_) AllReadyH.nil))
        · go_simp
          go_at_call 11
          refine (transformed (prodM s2) px py ax ay a1 a2 a3 a4 a5 a6 A1.out A2.out _).mono ?_
          rintro e W2 ⟨rfl, hb2⟩
          refine hK.out _ _ (hHeld.keep hb2) (fun hHeld => ?_)
          clear hK K
          have hz2 := hb2.size
          try simp only [List.getElem_toArray, List.getElem_cons_zero, List.getElem_cons_succ, Act.put, List.setIfInBounds_toArray, List.set_cons_zero, List.set_cons_succ]
          refine wpAnyH_ready (rs := [8]) (by kernel_rfl) (by simp) (AllReadyH.cons rfl (fun K hK => ?_) AllReadyH.nil)
          go_simp
          refine hK.out _ _ (hHeld.keep (below1 _ _)) (fun hHeld => ?_)
          clear hK K
          have p8 := PtAt.new W2 0 0 32
          have l8 : W2.heap.size < (W2.alloc (.cells #[.float .f64 0, .float .f64 0] 32)).heap.size := by simp
          have hz3 : W2.heap.size ≤ (W2.alloc (.cells #[.float .f64 0, .float .f64 0] 32)).heap.size := by simp
          generalize W2.alloc (.cells #[.float .f64 0, .float .f64 0] 32) = W3 at *
          try simp only [List.getElem_toArray, List.getElem_cons_zero, List.getElem_cons_succ, Act.put, List.setIfInBounds_toArray, List.set_cons_zero, List.set_cons_succ]
          have c2 : W2.heap.size ≠ w.heap.size ∧ w.heap.size ≤ W2.heap.size := by omega
          refine wpAnyH_ready (rs := [9]) (by kernel_rfl) (by simp) (AllReadyH.cons rfl (fun K hK => ?_) AllReadyH.nil)
          obtain ⟨e0, e1, f0, f1⟩ := p8
          go_simp
          refine hK.out _ _ ((hHeld.set c2).set c2) (fun hHeld => ?_)
          clear hK K
          obtain ⟨i0, i1, _, _⟩ := PtAt.put (x := ax) (y := ay) ⟨e0, e1, f0, f1⟩
          clear e0 e1 f0 f1
          generalize (W3.setCell ⟨W2.heap.size, 0, none⟩ (.float .f64 ax)).setCell ⟨W2.heap.size, 1, none⟩ (.float .f64 ay) = V1 at *
          try simp only [List.getElem_toArray, List.getElem_cons_zero, List.getElem_cons_succ, Act.put, List.setIfInBounds_toArray, List.set_cons_zero, List.set_cons_succ]
          refine wpAnyH_done (by kernel_rfl) ?_ _
          have r1 := run_bin (P := Tryd.prog) .add HX.out
          have r2 := run_bin (P := Tryd.prog) .add HY.out
          have hB := hHeld.1
          clear hHeld
          go_wp2_with (go_at_call 13; refine (nearWide ax ay ex ey N1.out N2.out _).mono ?_; rintro e V2 ⟨rfl, hb2⟩)
          go_ret
          exact ⟨rfl, hB.trans (hb2.mono hB.size)⟩
        · go_simp
          refine hK.out _ _ (hHeld.keep (below1 _ _)) (fun hHeld => ?_)
          clear hK K
          have p8 := PtAt.new W1 0 0 32
          have l8 : W1.heap.size < (W1.alloc (.cells #[.float .f64 0, .float .f64 0] 32)).heap.size := by simp
          have hz4 : W1.heap.size ≤ (W1.alloc (.cells #[.float .f64 0, .float .f64 0] 32)).heap.size := by simp
          generalize W1.alloc (.cells #[.float .f64 0, .float .f64 0] 32) = W4 at *
          try simp only [List.getElem_toArray, List.getElem_cons_zero, List.getElem_cons_succ, Act.put, List.setIfInBounds_toArray, List.set_cons_zero, List.set_cons_succ]
          refine wpAnyH_ready (rs := [7]) (by kernel_rfl) (by simp) (AllReadyH.cons rfl (fun K hK => ?_) AllReadyH.nil)
          go_simp
          go_at_call 11
          refine (transformed (prodM s2) px py ax ay a1 a2 a3 a4 a5 a6 A1.out A2.out _).mono ?_
          rintro e W5 ⟨rfl, hb5⟩
          refine hK.out _ _ (hHeld.keep hb5) (fun hHeld => ?_)
          clear hK K
          have hz5 := hb5.size
          have p8 := p8.old hb5 l8
          have l8 := Nat.lt_of_lt_of_le l8 hz5
          try simp only [List.getElem_toArray, List.getElem_cons_zero, List.getElem_cons_succ, Act.put, List.setIfInBounds_toArray, List.set_cons_zero, List.set_cons_succ]
          have c2 : W1.heap.size ≠ w.heap.size ∧ w.heap.size ≤ W1.heap.size := by omega
          refine wpAnyH_ready (rs := [9]) (by kernel_rfl) (by simp) (AllReadyH.cons rfl (fun K hK => ?_) AllReadyH.nil)
          obtain ⟨e0, e1, f0, f1⟩ := p8
          go_simp
          refine hK.out _ _ ((hHeld.set c2).set c2) (fun hHeld => ?_)
          clear hK K
          obtain ⟨i0, i1, _, _⟩ := PtAt.put (x := ax) (y := ay) ⟨e0, e1, f0, f1⟩
          clear e0 e1 f0 f1
          generalize (W5.setCell ⟨W1.heap.size, 0, none⟩ (.float .f64 ax)).setCell ⟨W1.heap.size, 1, none⟩ (.float .f64 ay) = V1 at *
          try simp only [List.getElem_toArray, List.getElem_cons_zero, List.getElem_cons_succ, Act.put, List.setIfInBounds_toArray, List.set_cons_zero, List.set_cons_succ]
          refine wpAnyH_done (by kernel_rfl) ?_ _
          have r1 := run_bin (P := Tryd.prog) .add HX.out
          have r2 := run_bin (P := Tryd.prog) .add HY.out
          have hB := hHeld.1
          clear hHeld
          go_wp2_with (go_at_call 13; refine (nearWide ax ay ex ey N1.out N2.out _).mono ?_; rintro e V2 ⟨rfl, hb2⟩)
          go_ret
          exact ⟨rfl, hB.trans (hb2.mono hB.size)⟩
      · go_simp
        refine hK.out _ _ (hHeld.keep (below1 _ _)) (fun hHeld => ?_)
        clear hK K
        have p8 := PtAt.new W0 0 0 32
        have l8 : W0.heap.size < (W0.alloc (.cells #[.float .f64 0, .float .f64 0] 32)).heap.size := by simp
        have hz6 : W0.heap.size ≤ (W0.alloc (.cells #[.float .f64 0, .float .f64 0] 32)).heap.size := by simp
        generalize W0.alloc (.cells #[.float .f64 0, .float .f64 0] 32) = W6 at *
        try simp only [List.getElem_toArray, List.getElem_cons_zero, List.getElem_cons_succ, Act.put, List.setIfInBounds_toArray, List.set_cons_zero, List.set_cons_succ]
        refine wpAnyH_ready (rs := [5]) (by kernel_rfl) (by simp) (AllReadyH.cons rfl (fun K hK => ?_) AllReadyH.nil)
        go_simp
        go_at_call 12
        refine (rotated H.out dx dy m s1 m2 s2 H1.out H2.out _ (HV.out _ hHeld.1)).mono ?_
        rintro e W7 ⟨rfl, hb7⟩
        refine hK.out _ _ (hHeld.keep hb7) (fun hHeld => ?_)
        clear hK K
        have hz7 := hb7.size
        have p8 := p8.old hb7 l8
        have l8 := Nat.lt_of_lt_of_le l8 hz7
        try simp only [List.getElem_toArray, List.getElem_cons_zero, List.getElem_cons_succ, Act.put, List.setIfInBounds_toArray, List.set_cons_zero, List.set_cons_succ]
        refine wpAnyH_ready (rs := [7]) (by kernel_rfl) (by simp) (AllReadyH.cons rfl (fun K hK => ?_) AllReadyH.nil)
        go_simp
        go_at_call 11
        refine (transformed (prodM s2) px py ax ay a1 a2 a3 a4 a5 a6 A1.out A2.out _).mono ?_
        rintro e W8 ⟨rfl, hb8⟩
        refine hK.out _ _ (hHeld.keep hb8) (fun hHeld => ?_)
        clear hK K
        have hz8 := hb8.size
        have p8 := p8.old hb8 l8
        have l8 := Nat.lt_of_lt_of_le l8 hz8
        try simp only [List.getElem_toArray, List.getElem_cons_zero, List.getElem_cons_succ, Act.put, List.setIfInBounds_toArray, List.set_cons_zero, List.set_cons_succ]
        have c2 : W0.heap.size ≠ w.heap.size ∧ w.heap.size ≤ W0.heap.size := by omega
        refine wpAnyH_ready (rs := [9]) (by kernel_rfl) (by simp) (AllReadyH.cons rfl (fun K hK => ?_) AllReadyH.nil)
        obtain ⟨e0, e1, f0, f1⟩ := p8
        go_simp
        refine hK.out _ _ ((hHeld.set c2).set c2) (fun hHeld => ?_)
        clear hK K
        obtain ⟨i0, i1, _, _⟩ := PtAt.put (x := ax) (y := ay) ⟨e0, e1, f0, f1⟩
        clear e0 e1 f0 f1
        generalize (W8.setCell ⟨W0.heap.size, 0, none⟩ (.float .f64 ax)).setCell ⟨W0.heap.size, 1, none⟩ (.float .f64 ay) = V1 at *
        try simp only [List.getElem_toArray, List.getElem_cons_zero, List.getElem_cons_succ, Act.put, List.setIfInBounds_toArray, List.set_cons_zero, List.set_cons_succ]
        refine wpAnyH_done (by kernel_rfl) ?_ _
        have r1 := run_bin (P := Tryd.prog) .add HX.out
        have r2 := run_bin (P := Tryd.prog) .add HY.out
        have hB := hHeld.1
        clear hHeld
        go_wp2_with (go_at_call 13; refine (nearWide ax ay ex ey N1.out N2.out _).mono ?_; rintro e V2 ⟨rfl, hb2⟩)
        go_ret
        exact ⟨rfl, hB.trans (hb2.mono hB.size)⟩
end Go.Proofs.YthjbaeipdjoenaaDoor
