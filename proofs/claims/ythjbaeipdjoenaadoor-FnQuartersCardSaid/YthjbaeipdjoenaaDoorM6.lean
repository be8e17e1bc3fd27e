/-
The law FnPlaced: its own function walked. Conditions: the words of the products and sums; Near says yes of each; IdentMatrix holds what its text says.
-/
import Derived.Test.YthjbaeipdjoenaaDoorM2
import Derived.Test.YthjbaeipdjoenaaDoorM3
import Derived.Test.YthjbaeipdjoenaaDoorM5
namespace Go.Proofs.YthjbaeipdjoenaaDoor
open Go.RowKit Fl

/-- The three matrices' blocks. -/
def Three (w : World) (n sx sy sin ms cos dx dy : Nat) (w' : World) : Prop :=
  Below w.heap.size w w' ∧ n + 1 + 1 + 1 < w'.heap.size ∧ MatAt w' (n + 1) (scaleM sx sy) ∧ MatAt w' (n + 1 + 1) (turnM sin ms cos) ∧ MatAt w' (n + 1 + 1 + 1) (moveM dx dy)
theorem Three.keep {w w1 w2 : World} {n sx sy sin ms cos dx dy : Nat} (h : Three w n sx sy sin ms cos dx dy w1) (hb : Below w1.heap.size w1 w2) : Three w n sx sy sin ms cos dx dy w2 := by
  obtain ⟨h1, h2, h4, h5, h6⟩ := h
  have hs := hb.size
  exact ⟨h1.trans (hb.mono h1.size), by omega, h4.old hb (by omega), h5.old hb (by omega), h6.old hb (by omega)⟩
theorem Three.cells {w w' : World} {n sx sy sin ms cos dx dy : Nat} (h : Three w n sx sy sin ms cos dx dy w') :
    (w'.cell? ⟨n + 1, 0, none⟩ = some (.float .f64 sx) ∧ w'.cell? ⟨n + 1, 1, none⟩ = some (.float .f64 0) ∧ w'.cell? ⟨n + 1, 2, none⟩ = some (.float .f64 0) ∧ w'.cell? ⟨n + 1, 3, none⟩ = some (.float .f64 0) ∧ w'.cell? ⟨n + 1, 4, none⟩ = some (.float .f64 sy) ∧ w'.cell? ⟨n + 1, 5, none⟩ = some (.float .f64 0) ∧ w'.cell? ⟨n + 1, 6, none⟩ = some (.float .f64 0) ∧ w'.cell? ⟨n + 1, 7, none⟩ = some (.float .f64 0) ∧ w'.cell? ⟨n + 1, 8, none⟩ = some (.float .f64 one1)) ∧
    (w'.cell? ⟨n + 1 + 1, 0, none⟩ = some (.float .f64 cos) ∧ w'.cell? ⟨n + 1 + 1, 1, none⟩ = some (.float .f64 sin) ∧ w'.cell? ⟨n + 1 + 1, 2, none⟩ = some (.float .f64 0) ∧ w'.cell? ⟨n + 1 + 1, 3, none⟩ = some (.float .f64 ms) ∧ w'.cell? ⟨n + 1 + 1, 4, none⟩ = some (.float .f64 cos) ∧ w'.cell? ⟨n + 1 + 1, 5, none⟩ = some (.float .f64 0) ∧ w'.cell? ⟨n + 1 + 1, 6, none⟩ = some (.float .f64 0) ∧ w'.cell? ⟨n + 1 + 1, 7, none⟩ = some (.float .f64 0) ∧ w'.cell? ⟨n + 1 + 1, 8, none⟩ = some (.float .f64 one1)) ∧
    (w'.cell? ⟨n + 1 + 1 + 1, 0, none⟩ = some (.float .f64 one1) ∧ w'.cell? ⟨n + 1 + 1 + 1, 1, none⟩ = some (.float .f64 0) ∧ w'.cell? ⟨n + 1 + 1 + 1, 2, none⟩ = some (.float .f64 0) ∧ w'.cell? ⟨n + 1 + 1 + 1, 3, none⟩ = some (.float .f64 0) ∧ w'.cell? ⟨n + 1 + 1 + 1, 4, none⟩ = some (.float .f64 one1) ∧ w'.cell? ⟨n + 1 + 1 + 1, 5, none⟩ = some (.float .f64 0) ∧ w'.cell? ⟨n + 1 + 1 + 1, 6, none⟩ = some (.float .f64 dx) ∧ w'.cell? ⟨n + 1 + 1 + 1, 7, none⟩ = some (.float .f64 dy) ∧ w'.cell? ⟨n + 1 + 1 + 1, 8, none⟩ = some (.float .f64 one1)) := by
  obtain ⟨h1, h2, h4, h5, h6⟩ := h
  exact ⟨⟨(h4 0 (by omega)).1, (h4 1 (by omega)).1, (h4 2 (by omega)).1, (h4 3 (by omega)).1, (h4 4 (by omega)).1, (h4 5 (by omega)).1, (h4 6 (by omega)).1, (h4 7 (by omega)).1, (h4 8 (by omega)).1⟩, ⟨(h5 0 (by omega)).1, (h5 1 (by omega)).1, (h5 2 (by omega)).1, (h5 3 (by omega)).1, (h5 4 (by omega)).1, (h5 5 (by omega)).1, (h5 6 (by omega)).1, (h5 7 (by omega)).1, (h5 8 (by omega)).1⟩, (h6 0 (by omega)).1, (h6 1 (by omega)).1, (h6 2 (by omega)).1, (h6 3 (by omega)).1, (h6 4 (by omega)).1, (h6 5 (by omega)).1, (h6 6 (by omega)).1, (h6 7 (by omega)).1, (h6 8 (by omega)).1⟩

theorem law_far (sx sy sin cos dx dy : Nat) (w : World) (hv : [sx, sy, sin, cos, dx, dy].all smallB = false) :
    Calls Tryd.prog 3 #[.float .f64 sx, .float .f64 sy, .float .f64 sin, .float .f64 cos, .float .f64 dx, .float .f64 dy] w fun e w' => e = .returned (.bool true) ∧ Below w.heap.size w w' := by
  have HS := Lib.hid hv
  clear hv
  go_enter Tryd.func3, Tryd.ntmps3
  go_wp2_with (go_at_call 6; refine (small_at [sx, sy, sin, cos, dx, dy] false _ _ (by simp) HS.out (by simp)).mono ?_; rintro e w' ⟨rfl, rfl⟩)
  go_ret
  exact ⟨rfl, below1 _ _⟩

set_option maxHeartbeats 4000000 in
theorem law_near (sx sy sin cos dx dy : Nat) (m s m2 s2 : Nat → Nat → Nat → Nat) (h1 : Mul3 (scaleM sx sy) (turnM sin (Op.negFloat .f64 sin) cos) m s) (h2 : Mul3 (prodM s) (moveM dx dy) m2 s2) (hn : ∀ o, o < 9 → NearT (prodM s2 o) (prodM s2 o))
    (w : World) (hI : Ident w) (hp : 0 < w.heap.size) (hv : [sx, sy, sin, cos, dx, dy].all smallB = true) :
    Calls Tryd.prog 3 #[.float .f64 sx, .float .f64 sy, .float .f64 sin, .float .f64 cos, .float .f64 dx, .float .f64 dy] w fun e w' => e = .returned (.bool true) ∧ Below w.heap.size w w' := by
  have HS := Lib.hid hv
  have H1 := Lib.hid h1
  have H2 := Lib.hid h2
  have HN := Lib.hid hn
  have HI : Hid (∀ w', Below w.heap.size w w' → Ident w') := Lib.hid fun w' hb o ho => (hb.cell (p := ⟨0, o, none⟩) hp).trans (hI o ho)
  have hneg : ∀ (x : Nat) (w : World), (Op.unary .neg (.float .f64 x)).run Tryd.prog w = .ok (.float .f64 (Op.negFloat .f64 x)) w := fun _ _ => rfl
  clear h1 h2 hI hn hv
  go_enter Tryd.func3, Tryd.ntmps3
  go_wp2_with (go_at_call 6; refine (small_at [sx, sy, sin, cos, dx, dy] true _ _ (by simp) HS.out (by simp)).mono ?_; rintro e w' ⟨rfl, rfl⟩)
  refine wp_abs (Three w w.heap.size sx sy sin (Op.negFloat .f64 sin) cos dx dy) ?_ ?_
  · refine ⟨?_, by simp, ?_, ?_, ?_⟩
    · exact (((below1 _ _).alloc (by simp) _).alloc (by simp <;> omega) _).alloc (by simp <;> omega) _
    · exact ((((MatAt.new _ (scaleM sx sy) 26).at (by simp)).old (below1 _ _) (by simp)).old (below1 _ _) (by simp <;> omega))
    · exact ((MatAt.new _ (turnM sin (Op.negFloat .f64 sin) cos) 26).at (by simp)).old (below1 _ _) (by simp)
    · exact (MatAt.new _ (moveM dx dy) 26).at (by simp)
  intro W hF
  refine wp_region_held_drew (S := Three w w.heap.size sx sy sin (Op.negFloat .f64 sin) cos dx dy) (by kernel_rfl) ?_ (fun hHeld => ?_)
  · exact hF.keep (Below.refl _ _).drew
  refine wpAnyH_take (i := 0) (v := .float .f64 sx) rfl (by kernel_rfl) (by kernel_rfl) (by kernel_rfl) (fun _ _ _ h => h) (Or.inl ⟨by rfl, ?y0⟩) (by assumption) ?r0
  case y0 =>
    intro w1 hSw
    go_simp
    try with_reducible rfl
  try simp only [List.getElem_toArray, List.getElem_cons_zero, Act.put, List.setIfInBounds_toArray, List.set_cons_zero, List.set_cons_succ]
  refine wpAnyH_take (i := 1) (v := .float .f64 sy) rfl (by kernel_rfl) (by kernel_rfl) (by kernel_rfl) (fun _ _ _ h => h) (Or.inl ⟨by rfl, ?y1⟩) (by assumption) ?r1
  case y1 =>
    intro w1 hSw
    go_simp
    try with_reducible rfl
  try simp only [List.getElem_toArray, List.getElem_cons_zero, List.getElem_cons_succ, Act.put, List.setIfInBounds_toArray, List.set_cons_zero, List.set_cons_succ]
  refine wpAnyH_take (i := 2) (v := .float .f64 sin) rfl (by kernel_rfl) (by kernel_rfl) (by kernel_rfl) (fun _ _ _ h => h) (Or.inl ⟨by rfl, ?y2⟩) (by assumption) ?r2
  case y2 =>
    intro w1 hSw
    go_simp
    try with_reducible rfl
  try simp only [List.getElem_toArray, List.getElem_cons_zero, List.getElem_cons_succ, Act.put, List.setIfInBounds_toArray, List.set_cons_zero, List.set_cons_succ]
  refine wpAnyH_take (i := 3) (v := .float .f64 cos) rfl (by kernel_rfl) (by kernel_rfl) (by kernel_rfl) (fun _ _ _ h => h) (Or.inl ⟨by rfl, ?y3⟩) (by assumption) ?r3
  case y3 =>
    intro w1 hSw
    go_simp
    try with_reducible rfl
  try simp only [List.getElem_toArray, List.getElem_cons_zero, List.getElem_cons_succ, Act.put, List.setIfInBounds_toArray, List.set_cons_zero, List.set_cons_succ]
  refine wpAnyH_take (i := 4) (v := .float .f64 dx) rfl (by kernel_rfl) (by kernel_rfl) (by kernel_rfl) (fun _ _ _ h => h) (Or.inl ⟨by rfl, ?y4⟩) (by assumption) ?r4
  case y4 =>
    intro w1 hSw
    go_simp
    try with_reducible rfl
  try simp only [List.getElem_toArray, List.getElem_cons_zero, List.getElem_cons_succ, Act.put, List.setIfInBounds_toArray, List.set_cons_zero, List.set_cons_succ]
  refine wpAnyH_take (i := 5) (v := .float .f64 dy) rfl (by kernel_rfl) (by kernel_rfl) (by kernel_rfl) (fun _ _ _ h => h) (Or.inl ⟨by rfl, ?y5⟩) (by assumption) ?r5
  case y5 =>
    intro w1 hSw
    go_simp
    try with_reducible rfl
  try simp only [List.getElem_toArray, List.getElem_cons_zero, List.getElem_cons_succ, Act.put, List.setIfInBounds_toArray, List.set_cons_zero, List.set_cons_succ]
  refine wpAnyH_take (i := 7) (v := .agg #[.float .f64 sx, .float .f64 0, .float .f64 0, .float .f64 0, .float .f64 sy, .float .f64 0, .float .f64 0, .float .f64 0, .float .f64 one1]) rfl (by kernel_rfl) (by kernel_rfl) (by kernel_rfl) (fun _ _ _ h => h) (Or.inl ⟨by rfl, ?y7⟩) (by assumption) ?r7
  case y7 =>
    intro w1 hSw
    obtain ⟨⟨p0, p1, p2, p3, p4, p5, p6, p7, p8⟩, ⟨q0, q1, q2, q3, q4, q5, q6, q7, q8⟩, ⟨r0, r1, r2, r3, r4, r5, r6, r7, r8⟩⟩ := hSw.cells
    go_simp
    try with_reducible rfl
  try simp only [List.getElem_toArray, List.getElem_cons_zero, List.getElem_cons_succ, Act.put, List.setIfInBounds_toArray, List.set_cons_zero, List.set_cons_succ]
  refine wpAnyH_take (i := 8) (v := .agg #[.float .f64 cos, .float .f64 sin, .float .f64 0, .float .f64 (Op.negFloat .f64 sin), .float .f64 cos, .float .f64 0, .float .f64 0, .float .f64 0, .float .f64 one1]) rfl (by kernel_rfl) (by kernel_rfl) (by kernel_rfl) (fun _ _ _ h => h) (Or.inl ⟨by rfl, ?y8⟩) (by assumption) ?r8
  case y8 =>
    intro w1 hSw
    obtain ⟨⟨p0, p1, p2, p3, p4, p5, p6, p7, p8⟩, ⟨q0, q1, q2, q3, q4, q5, q6, q7, q8⟩, ⟨r0, r1, r2, r3, r4, r5, r6, r7, r8⟩⟩ := hSw.cells
    go_simp
    try with_reducible rfl
  try simp only [List.getElem_toArray, List.getElem_cons_zero, List.getElem_cons_succ, Act.put, List.setIfInBounds_toArray, List.set_cons_zero, List.set_cons_succ]
  refine wpAnyH_take (i := 10) (v := .agg #[.float .f64 one1, .float .f64 0, .float .f64 0, .float .f64 0, .float .f64 one1, .float .f64 0, .float .f64 dx, .float .f64 dy, .float .f64 one1]) rfl (by kernel_rfl) (by kernel_rfl) (by kernel_rfl) (fun _ _ _ h => h) (Or.inl ⟨by rfl, ?y10⟩) (by assumption) ?r10
  case y10 =>
    intro w1 hSw
    obtain ⟨⟨p0, p1, p2, p3, p4, p5, p6, p7, p8⟩, ⟨q0, q1, q2, q3, q4, q5, q6, q7, q8⟩, ⟨r0, r1, r2, r3, r4, r5, r6, r7, r8⟩⟩ := hSw.cells
    go_simp
    try with_reducible rfl
  try simp only [List.getElem_toArray, List.getElem_cons_zero, List.getElem_cons_succ, Act.put, List.setIfInBounds_toArray, List.set_cons_zero, List.set_cons_succ]
  refine wpAnyH_ready (rs := [6]) (by kernel_rfl) (by simp) (AllReadyH.cons rfl (fun K hK => ?_) AllReadyH.nil)
  go_simp
  go_at_call 8
  refine (placed sx sy sin cos dx dy m s m2 s2 H1.out H2.out _ (HI.out _ hHeld.1) (by have := hHeld.1.size; omega)).mono ?_
  rintro e w' ⟨rfl, hb⟩
  refine hK.out _ _ ?_ (fun hHeld => ?_)
  · exact Three.keep (by assumption) hb
  clear hK K
  try simp only [List.getElem_toArray, List.getElem_cons_zero, List.getElem_cons_succ, Act.put, List.setIfInBounds_toArray, List.set_cons_zero, List.set_cons_succ]
  refine wpAnyH_ready (rs := [9]) (by kernel_rfl) (by simp) (AllReadyH.cons rfl (fun K hK => ?_) AllReadyH.nil)
  go_simp
  go_at_call 9
  refine (times (scaleM sx sy) (turnM sin (Op.negFloat .f64 sin) cos) m s H1.out _).mono ?_
  rintro e w' ⟨rfl, hb⟩
  refine hK.out _ _ ?_ (fun hHeld => ?_)
  · exact Three.keep (by assumption) hb
  clear hK K
  try simp only [List.getElem_toArray, List.getElem_cons_zero, List.getElem_cons_succ, Act.put, List.setIfInBounds_toArray, List.set_cons_zero, List.set_cons_succ]
  refine wpAnyH_ready (rs := [11]) (by kernel_rfl) (by simp) (AllReadyH.cons rfl (fun K hK => ?_) AllReadyH.nil)
  go_simp
  go_at_call 9
  refine (times (prodM s) (moveM dx dy) m2 s2 H2.out _).mono ?_
  rintro e w' ⟨rfl, hb⟩
  refine hK.out _ _ ?_ (fun hHeld => ?_)
  · exact Three.keep (by assumption) hb
  clear hK K
  try simp only [List.getElem_toArray, List.getElem_cons_zero, List.getElem_cons_succ, Act.put, List.setIfInBounds_toArray, List.set_cons_zero, List.set_cons_succ]
  refine wpAnyH_ready (rs := [12]) (by kernel_rfl) (by simp) (AllReadyH.cons rfl (fun K hK => ?_) AllReadyH.nil)
  go_simp
  go_at_call 7
  refine (nearMatrix (prodM s2) (prodM s2) HN.out _).mono ?_
  rintro e w' ⟨rfl, hb⟩
  refine hK.out _ _ ?_ (fun hHeld => ?_)
  · exact Three.keep (by assumption) hb
  clear hK K
  try simp only [List.getElem_toArray, List.getElem_cons_zero, List.getElem_cons_succ, Act.put, List.setIfInBounds_toArray, List.set_cons_zero, List.set_cons_succ]
  refine wpAnyH_ready (rs := [13]) (by kernel_rfl) (by simp) (AllReadyH.cons rfl (fun K hK => ?_) AllReadyH.nil)
  go_simp
  refine hK.out _ _ (by assumption) (fun hHeld2 => ?_)
  clear hK K
  refine wpAnyH_done (by kernel_rfl) ?_ _
  go_wp2
  go_ret
  exact ⟨rfl, hHeld2.1⟩
end Go.Proofs.YthjbaeipdjoenaaDoor
