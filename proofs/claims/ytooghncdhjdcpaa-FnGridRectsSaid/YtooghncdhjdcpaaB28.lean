/-
FnGridRects: the words of a grid; the law's walks of all cases joined. No condition.
-/
import Derived.Test.YtooghncdhjdcpaaB27
namespace Go.Proofs.Ytooghncdhjdcpaa
open Go.RowKit Fl

theorem R_micro : R 4517329193108106637 (mkRat 4722366482869645 (2 ^ 72)) := R_lit (s := false) (m := 4722366482869645) (e := -72) (by decide +kernel) (by decide +kernel)
/-- Two words that are near to one number. -/
theorem NearR.of {x y : Nat} {v v' M E N F : Rat} (hx : Ap x v M E) (hy : Ap y v' N F) (e : v = v') (h : M + N + E + F ≤ 1000000 ∧ E + F ≤ 1 / 10000000) : NearR x y := by
  subst e
  have e0 := hx.choose_spec.2.1.nonneg
  have f0 := hy.choose_spec.2.1.nonneg
  have m0 := hx.choose_spec.2.2.nonneg
  have n0 := hy.choose_spec.2.2.nonneg
  obtain ⟨d1, s1, q1, r1, b1, _⟩ := hx.sub hy (M + N) (1 / 2000000) (by constructor <;> grind)
  obtain ⟨d2, s2, q2, r2, b2, _⟩ := hy.sub hx (N + M) (1 / 2000000) (by constructor <;> grind)
  refine ⟨d1, d2, s1, f_lss r1 R_micro (decide_eq_true ?_), s2, f_lss r2 R_micro (decide_eq_true ?_)⟩
  · have h1 : (1 : Rat) / 2000000 < mkRat 4722366482869645 (2 ^ 72) := by decide +kernel
    generalize mkRat 4722366482869645 (2 ^ 72) = z at *
    obtain ⟨_, k2⟩ := b1
    grind
  · have h1 : (1 : Rat) / 2000000 < mkRat 4722366482869645 (2 ^ 72) := by decide +kernel
    generalize mkRat 4722366482869645 (2 ^ 72) = z at *
    obtain ⟨_, k2⟩ := b2
    grind
theorem ap_int {n : Nat} (h : n < 11) : Ap (floatOfInt .f64 (n : Int)) (n : Rat) 10 0 := by
  have hr := ofInt_R (n : Int) (by omega)
  have h1 : ((0 : Int) : Rat) ≤ ((n : Int) : Rat) := Rat.intCast_le_intCast.2 (by omega)
  have h2 : ((n : Int) : Rat) ≤ ((10 : Int) : Rat) := Rat.intCast_le_intCast.2 (by omega)
  have z0 : ((0 : Int) : Rat) = 0 := rfl
  have z1 : ((10 : Int) : Rat) = 10 := rfl
  rw [z0, Rat.intCast_natCast] at h1
  rw [z1, Rat.intCast_natCast] at h2
  rw [Rat.intCast_natCast] at hr
  exact Ap.of hr ⟨by grind, by grind⟩
/-- The words along one side: the cell's side, the edges from the origin, the edges from the far end. -/
theorem side_words {X n : Nat} {j : Int} (hX : R X ((j : Rat) / 64)) (h1 : -640000 ≤ j) (h2 : j ≤ 640000) (hn0 : 0 < n) (hn : n < 11) :
    ∃ (g : Nat) (H : Rat), floatBits .quo .f64 X (floatOfInt .f64 (n : Int)) = some g ∧ H * (n : Rat) = (j : Rat) / 64 ∧
      ∀ c : Nat, c < 11 → ∃ l u y v, floatBits .mul .f64 (floatOfInt .f64 (c : Int)) g = some l ∧ floatBits .add .f64 l g = some u ∧ floatBits .sub .f64 X l = some y ∧ floatBits .add .f64 y g = some v ∧
        Ap l ((c : Rat) * H) 100000 (1 / 100000000) ∧ Ap u ((c : Rat) * H + H) 110000 (1 / 50000000) ∧ Ap y ((j : Rat) / 64 - (c : Rat) * H) 110000 (1 / 50000000) ∧ Ap v ((j : Rat) / 64 - (c : Rat) * H + H) 120000 (1 / 30000000) := by
  have A := Ap.small hX h1 h2
  have B := ap_int hn
  have hn1 : (1 : Rat) ≤ (n : Rat) := by
    have : ((1 : Int) : Rat) ≤ ((n : Int) : Rat) := Rat.intCast_le_intCast.2 (by omega)
    rw [Rat.intCast_natCast] at this; exact this
  obtain ⟨g, e1, G⟩ := A.div B 1 hn1 10000 (1 / 10000000000) (by decide +kernel)
  refine ⟨g, (j : Rat) / 64 / (n : Rat), e1, ?_, fun c hc => ?_⟩
  · rw [Rat.div_def, Rat.mul_assoc, Rat.inv_mul_cancel _ (by grind), Rat.mul_one]
  · obtain ⟨l, e2, L⟩ := (ap_int hc).mul G 100000 (1 / 100000000) (by decide +kernel)
    obtain ⟨u, e3, U⟩ := L.add G 110000 (1 / 50000000) (by decide +kernel)
    obtain ⟨y, e4, Yy⟩ := A.sub L 110000 (1 / 50000000) (by decide +kernel)
    obtain ⟨v, e5, V⟩ := Yy.add G 120000 (1 / 30000000) (by decide +kernel)
    exact ⟨l, u, y, v, e2, e3, e4, e5, L, U, Yy, V⟩
/-- What the words of one side are worth. -/
structure SideW (X n g : Nat) (q H : Rat) (l u y v : Nat → Nat) : Prop where
  hg : floatBits .quo .f64 X (floatOfInt .f64 (n : Int)) = some g
  hH : H * (n : Rat) = q
  hl : ∀ c : Nat, c < 11 → floatBits .mul .f64 (floatOfInt .f64 (c : Int)) g = some (l c)
  hu : ∀ c : Nat, c < 11 → floatBits .add .f64 (l c) g = some (u c)
  hy : ∀ c : Nat, c < 11 → floatBits .sub .f64 X (l c) = some (y c)
  hv : ∀ c : Nat, c < 11 → floatBits .add .f64 (y c) g = some (v c)
  al : ∀ c : Nat, c < 11 → Ap (l c) ((c : Rat) * H) 100000 (1 / 100000000)
  au : ∀ c : Nat, c < 11 → Ap (u c) ((c : Rat) * H + H) 110000 (1 / 50000000)
  ay : ∀ c : Nat, c < 11 → Ap (y c) (q - (c : Rat) * H) 110000 (1 / 50000000)
  av : ∀ c : Nat, c < 11 → Ap (v c) (q - (c : Rat) * H + H) 120000 (1 / 30000000)
theorem side_fun {X n : Nat} {j : Int} (hX : R X ((j : Rat) / 64)) (h1 : -640000 ≤ j) (h2 : j ≤ 640000) (hn0 : 0 < n) (hn : n < 11) : ∃ g q H l u y v, SideW X n g q H l u y v := by
  obtain ⟨g, H, e1, e2, F⟩ := side_words hX h1 h2 hn0 hn
  have F1 : ∀ c : Nat, ∃ l u y v, c < 11 → floatBits .mul .f64 (floatOfInt .f64 (c : Int)) g = some l ∧ floatBits .add .f64 l g = some u ∧ floatBits .sub .f64 X l = some y ∧ floatBits .add .f64 y g = some v ∧
        Ap l ((c : Rat) * H) 100000 (1 / 100000000) ∧ Ap u ((c : Rat) * H + H) 110000 (1 / 50000000) ∧ Ap y ((j : Rat) / 64 - (c : Rat) * H) 110000 (1 / 50000000) ∧ Ap v ((j : Rat) / 64 - (c : Rat) * H + H) 120000 (1 / 30000000) := fun c => by
    by_cases hc : c < 11
    · obtain ⟨l, u, y, v, h⟩ := F c hc
      exact ⟨l, u, y, v, fun _ => h⟩
    · exact ⟨0, 0, 0, 0, fun h => absurd h hc⟩
  obtain ⟨l, F2⟩ := Classical.axiomOfChoice F1
  obtain ⟨u, F3⟩ := Classical.axiomOfChoice F2
  obtain ⟨y, F4⟩ := Classical.axiomOfChoice F3
  obtain ⟨v, F5⟩ := Classical.axiomOfChoice F4
  exact ⟨g, (j : Rat) / 64, H, l, u, y, v, e1, e2, fun c h => (F5 c h).1, fun c h => (F5 c h).2.1, fun c h => (F5 c h).2.2.1, fun c h => (F5 c h).2.2.2.1, fun c h => (F5 c h).2.2.2.2.1, fun c h => (F5 c h).2.2.2.2.2.1, fun c h => (F5 c h).2.2.2.2.2.2.1, fun c h => (F5 c h).2.2.2.2.2.2.2⟩
theorem SideW.same {X n g : Nat} {q H : Rat} {l u y v : Nat → Nat} (S : SideW X n g q H l u y v) {c : Nat} (hc : c < 11) : NearR (l c) (l c) ∧ NearR (u c) (u c) :=
  ⟨NearR.of (S.al c hc) (S.al c hc) rfl (by decide +kernel), NearR.of (S.au c hc) (S.au c hc) rfl (by decide +kernel)⟩
theorem SideW.far {X n g : Nat} {q H : Rat} {l u y v : Nat → Nat} (S : SideW X n g q H l u y v) {s t : Nat} (hst : s + t = n) (hs : s < 11) (ht : t < 11) : NearR (l s) (y t) ∧ NearR (u s) (v t) := by
  have hc : (s : Rat) + (t : Rat) = (n : Rat) := by rw [← hst, Rat.natCast_add]
  have hH := S.hH
  have e : (s : Rat) * H = q - (t : Rat) * H := by rw [← hH, ← hc]; grind
  exact ⟨NearR.of (S.al s hs) (S.ay t ht) e (by decide +kernel), NearR.of (S.au s hs) (S.av t ht) (by rw [e]) (by decide +kernel)⟩
theorem order_small : ∀ n : Nat, 0 < n → n < 11 → ((FloatKind.f64.format.order (floatOfInt .f64 (n : Int)) 4607182418800017408 == some Ordering.gt || FloatKind.f64.format.order (floatOfInt .f64 (n : Int)) 4607182418800017408 == some Ordering.eq) = true) ∧ ((FloatKind.f64.format.order (floatOfInt .f64 (n : Int)) 4632233691727265792 == some Ordering.lt || FloatKind.f64.format.order (floatOfInt .f64 (n : Int)) 4632233691727265792 == some Ordering.eq) = true) := by
  have h : ∀ n : Nat, n < 11 → (n == 0 || ((FloatKind.f64.format.order (floatOfInt .f64 (n : Int)) 4607182418800017408 == some Ordering.gt || FloatKind.f64.format.order (floatOfInt .f64 (n : Int)) 4607182418800017408 == some Ordering.eq) && (FloatKind.f64.format.order (floatOfInt .f64 (n : Int)) 4632233691727265792 == some Ordering.lt || FloatKind.f64.format.order (floatOfInt .f64 (n : Int)) 4632233691727265792 == some Ordering.eq))) = true := by decide +kernel
  intro n h0 h1
  have := h n h1
  rw [show (n == 0) = false from by simp; omega, Bool.false_or, Bool.and_eq_true] at this
  exact this
theorem gridq_0 {X Y cols rows : Nat} {i j : Int} (hc0 : 0 < cols) (hr0 : 0 < rows) (hc : cols < 11) (hr : rows < 11) (w : World)
    (hs : [X, Y].all smallB = true) (l1 : leqw X 0 = false) (l2 : leqw Y 0 = false)
    (hX : R X ((i : Rat) / 64)) (i1 : -640000 ≤ i) (i2 : i ≤ 640000) (hY : R Y ((j : Rat) / 64)) (j1 : -640000 ≤ j) (j2 : j ≤ 640000) :
    Calls Try.prog 20 #[pt X Y, .int .i64 cols, .int .i64 rows, .int .i64 0] w fun e w' => e = .returned (.bool true) ∧ Below w.heap.size w w' := by
  obtain ⟨gw, p, H, lx, ux, xx, xv, SX⟩ := side_fun hX i1 i2 hc0 hc
  obtain ⟨gh, q, K, ly, uy, yy, yv, SY⟩ := side_fun hY j1 j2 hr0 hr
  have G : GridW X Y cols rows gw gh lx ux ly uy := ⟨SX.hg, SY.hg, fun c h => SX.hl c (by omega), fun c h => SX.hu c (by omega), fun c h => SY.hl c (by omega), fun c h => SY.hu c (by omega)⟩
  have hcw := order_small cols hc0 hc
  have hrw := order_small rows hr0 hr
  have hN1 : rows * cols < 1000 := by
    have := Nat.mul_le_mul (show rows ≤ 10 by omega) (show cols ≤ 10 by omega)
    omega
  have hN0 : 0 < rows * cols := Nat.mul_pos (by omega) (by omega)
  refine gridlaw_0 (N := rows * cols) (gw := gw) (gh := gh) (A := fun k => lx (k % cols)) (B := fun k => ly (rows - 1 - k / cols)) (C := fun k => ux (k % cols)) (D := fun k => uy (rows - 1 - k / cols)) (x := fun k => lx (k % cols)) (m := fun k => ly (k / cols + 1)) (y := fun k => yy (k / cols + 1)) (u := fun k => ux (k % cols)) (v := fun k => yv (k / cols + 1)) rfl rfl rfl hc0 hr0 hc hr rfl rfl rfl w hs l1 l2 ?_ SX.hg SY.hg ?_
  · intro W
    refine (gridrects_0 (X := X) (Y := Y) (N := rows * cols) hc hr _ _ rfl rfl W hN0 hN1 (fun W' pd gd h1 h2 h3 h4 => grid_0 G hc hr pd gd W' h1 h2 h3 h4) hcw.1 hcw.2 hrw.1 hrw.2).mono ?_
    rintro e w' ⟨v, rfl, hb, ho⟩
    exact ⟨v, by rfl, hb, ho⟩
  · intro k hk
    have hlt2 : k % cols < cols := Nat.mod_lt _ (by omega)
    have hld2 : k / cols < rows := Nat.div_lt_of_lt_mul (by rw [Nat.mul_comm]; exact hk)
    try dsimp only
    generalize k / cols = a at *
    generalize k % cols = b at *
    have n1 := SX.same (c := b) (by omega)
    have n2 := SY.far (s := rows - 1 - a) (t := a + 1) (by omega) (by omega) (by omega)
    exact ⟨SX.hl _ (by omega), SY.hl _ (by omega), SY.hy _ (by omega), SX.hu _ (by omega), SY.hv _ (by omega), n1.1, n2.1, n1.2, n2.2⟩
theorem gridq_1 {X Y cols rows : Nat} {i j : Int} (hc0 : 0 < cols) (hr0 : 0 < rows) (hc : cols < 11) (hr : rows < 11) (w : World)
    (hs : [X, Y].all smallB = true) (l1 : leqw X 0 = false) (l2 : leqw Y 0 = false)
    (hX : R X ((i : Rat) / 64)) (i1 : -640000 ≤ i) (i2 : i ≤ 640000) (hY : R Y ((j : Rat) / 64)) (j1 : -640000 ≤ j) (j2 : j ≤ 640000) :
    Calls Try.prog 20 #[pt X Y, .int .i64 cols, .int .i64 rows, .int .i64 1] w fun e w' => e = .returned (.bool true) ∧ Below w.heap.size w w' := by
  obtain ⟨gw, p, H, lx, ux, xx, xv, SX⟩ := side_fun hX i1 i2 hc0 hc
  obtain ⟨gh, q, K, ly, uy, yy, yv, SY⟩ := side_fun hY j1 j2 hr0 hr
  have G : GridW X Y cols rows gw gh lx ux ly uy := ⟨SX.hg, SY.hg, fun c h => SX.hl c (by omega), fun c h => SX.hu c (by omega), fun c h => SY.hl c (by omega), fun c h => SY.hu c (by omega)⟩
  have hcw := order_small cols hc0 hc
  have hrw := order_small rows hr0 hr
  have hN1 : cols * rows < 1000 := by
    have := Nat.mul_le_mul (show rows ≤ 10 by omega) (show cols ≤ 10 by omega)
    rw [Nat.mul_comm]; omega
  have hN0 : 0 < cols * rows := Nat.mul_pos (by omega) (by omega)
  refine gridlaw_1 (N := cols * rows) (gw := gw) (gh := gh) (A := fun k => lx (k / rows)) (B := fun k => ly (rows - 1 - k % rows)) (C := fun k => ux (k / rows)) (D := fun k => uy (rows - 1 - k % rows)) (x := fun k => lx (k / rows)) (m := fun k => ly (k % rows + 1)) (y := fun k => yy (k % rows + 1)) (u := fun k => ux (k / rows)) (v := fun k => yv (k % rows + 1)) rfl rfl rfl hc0 hr0 hc hr rfl rfl (Nat.mul_comm _ _) w hs l1 l2 ?_ SX.hg SY.hg ?_
  · intro W
    refine (gridrects_1 (X := X) (Y := Y) (N := cols * rows) hc hr _ _ rfl rfl W hN0 hN1 (fun W' pd gd h1 h2 h3 h4 => grid_1 G hc hr pd gd W' h1 h2 h3 h4) hcw.1 hcw.2 hrw.1 hrw.2).mono ?_
    rintro e w' ⟨v, rfl, hb, ho⟩
    exact ⟨v, by rw [Nat.mul_comm rows cols], hb, ho⟩
  · intro k hk
    have hlt2 : k % rows < rows := Nat.mod_lt _ (by omega)
    have hld2 : k / rows < cols := Nat.div_lt_of_lt_mul (by rw [Nat.mul_comm]; exact hk)
    try dsimp only
    generalize k / rows = a at *
    generalize k % rows = b at *
    have n1 := SX.same (c := a) (by omega)
    have n2 := SY.far (s := rows - 1 - b) (t := b + 1) (by omega) (by omega) (by omega)
    exact ⟨SX.hl _ (by omega), SY.hl _ (by omega), SY.hy _ (by omega), SX.hu _ (by omega), SY.hv _ (by omega), n1.1, n2.1, n1.2, n2.2⟩
theorem gridq_2 {X Y cols rows : Nat} {i j : Int} (hc0 : 0 < cols) (hr0 : 0 < rows) (hc : cols < 11) (hr : rows < 11) (w : World)
    (hs : [X, Y].all smallB = true) (l1 : leqw X 0 = false) (l2 : leqw Y 0 = false)
    (hX : R X ((i : Rat) / 64)) (i1 : -640000 ≤ i) (i2 : i ≤ 640000) (hY : R Y ((j : Rat) / 64)) (j1 : -640000 ≤ j) (j2 : j ≤ 640000) :
    Calls Try.prog 20 #[pt X Y, .int .i64 cols, .int .i64 rows, .int .i64 2] w fun e w' => e = .returned (.bool true) ∧ Below w.heap.size w w' := by
  obtain ⟨gw, p, H, lx, ux, xx, xv, SX⟩ := side_fun hX i1 i2 hc0 hc
  obtain ⟨gh, q, K, ly, uy, yy, yv, SY⟩ := side_fun hY j1 j2 hr0 hr
  have G : GridW X Y cols rows gw gh lx ux ly uy := ⟨SX.hg, SY.hg, fun c h => SX.hl c (by omega), fun c h => SX.hu c (by omega), fun c h => SY.hl c (by omega), fun c h => SY.hu c (by omega)⟩
  have hcw := order_small cols hc0 hc
  have hrw := order_small rows hr0 hr
  have hN1 : rows * cols < 1000 := by
    have := Nat.mul_le_mul (show rows ≤ 10 by omega) (show cols ≤ 10 by omega)
    omega
  have hN0 : 0 < rows * cols := Nat.mul_pos (by omega) (by omega)
  refine gridlaw_2 (N := rows * cols) (gw := gw) (gh := gh) (A := fun k => lx (cols - 1 - k % cols)) (B := fun k => ly (rows - 1 - k / cols)) (C := fun k => ux (cols - 1 - k % cols)) (D := fun k => uy (rows - 1 - k / cols)) (x := fun k => lx (cols - 1 - k % cols)) (m := fun k => ly (k / cols + 1)) (y := fun k => yy (k / cols + 1)) (u := fun k => ux (cols - 1 - k % cols)) (v := fun k => yv (k / cols + 1)) rfl rfl rfl hc0 hr0 hc hr rfl rfl rfl w hs l1 l2 ?_ SX.hg SY.hg ?_
  · intro W
    refine (gridrects_2 (X := X) (Y := Y) (N := rows * cols) hc hr _ _ rfl rfl W hN0 hN1 (fun W' pd gd h1 h2 h3 h4 => grid_2 G hc hr pd gd W' h1 h2 h3 h4) hcw.1 hcw.2 hrw.1 hrw.2).mono ?_
    rintro e w' ⟨v, rfl, hb, ho⟩
    exact ⟨v, by rfl, hb, ho⟩
  · intro k hk
    have hlt2 : k % cols < cols := Nat.mod_lt _ (by omega)
    have hld2 : k / cols < rows := Nat.div_lt_of_lt_mul (by rw [Nat.mul_comm]; exact hk)
    try dsimp only
    generalize k / cols = a at *
    generalize k % cols = b at *
    have n1 := SX.same (c := cols - 1 - b) (by omega)
    have n2 := SY.far (s := rows - 1 - a) (t := a + 1) (by omega) (by omega) (by omega)
    exact ⟨SX.hl _ (by omega), SY.hl _ (by omega), SY.hy _ (by omega), SX.hu _ (by omega), SY.hv _ (by omega), n1.1, n2.1, n1.2, n2.2⟩
theorem gridq_3 {X Y cols rows : Nat} {i j : Int} (hc0 : 0 < cols) (hr0 : 0 < rows) (hc : cols < 11) (hr : rows < 11) (w : World)
    (hs : [X, Y].all smallB = true) (l1 : leqw X 0 = false) (l2 : leqw Y 0 = false)
    (hX : R X ((i : Rat) / 64)) (i1 : -640000 ≤ i) (i2 : i ≤ 640000) (hY : R Y ((j : Rat) / 64)) (j1 : -640000 ≤ j) (j2 : j ≤ 640000) :
    Calls Try.prog 20 #[pt X Y, .int .i64 cols, .int .i64 rows, .int .i64 3] w fun e w' => e = .returned (.bool true) ∧ Below w.heap.size w w' := by
  obtain ⟨gw, p, H, lx, ux, xx, xv, SX⟩ := side_fun hX i1 i2 hc0 hc
  obtain ⟨gh, q, K, ly, uy, yy, yv, SY⟩ := side_fun hY j1 j2 hr0 hr
  have G : GridW X Y cols rows gw gh lx ux ly uy := ⟨SX.hg, SY.hg, fun c h => SX.hl c (by omega), fun c h => SX.hu c (by omega), fun c h => SY.hl c (by omega), fun c h => SY.hu c (by omega)⟩
  have hcw := order_small cols hc0 hc
  have hrw := order_small rows hr0 hr
  have hN1 : cols * rows < 1000 := by
    have := Nat.mul_le_mul (show rows ≤ 10 by omega) (show cols ≤ 10 by omega)
    rw [Nat.mul_comm]; omega
  have hN0 : 0 < cols * rows := Nat.mul_pos (by omega) (by omega)
  refine gridlaw_3 (N := cols * rows) (gw := gw) (gh := gh) (A := fun k => lx (cols - 1 - k / rows)) (B := fun k => ly (rows - 1 - k % rows)) (C := fun k => ux (cols - 1 - k / rows)) (D := fun k => uy (rows - 1 - k % rows)) (x := fun k => lx (cols - 1 - k / rows)) (m := fun k => ly (k % rows + 1)) (y := fun k => yy (k % rows + 1)) (u := fun k => ux (cols - 1 - k / rows)) (v := fun k => yv (k % rows + 1)) rfl rfl rfl hc0 hr0 hc hr rfl rfl (Nat.mul_comm _ _) w hs l1 l2 ?_ SX.hg SY.hg ?_
  · intro W
    refine (gridrects_3 (X := X) (Y := Y) (N := cols * rows) hc hr _ _ rfl rfl W hN0 hN1 (fun W' pd gd h1 h2 h3 h4 => grid_3 G hc hr pd gd W' h1 h2 h3 h4) hcw.1 hcw.2 hrw.1 hrw.2).mono ?_
    rintro e w' ⟨v, rfl, hb, ho⟩
    exact ⟨v, by rw [Nat.mul_comm rows cols], hb, ho⟩
  · intro k hk
    have hlt2 : k % rows < rows := Nat.mod_lt _ (by omega)
    have hld2 : k / rows < cols := Nat.div_lt_of_lt_mul (by rw [Nat.mul_comm]; exact hk)
    try dsimp only
    generalize k / rows = a at *
    generalize k % rows = b at *
    have n1 := SX.same (c := cols - 1 - a) (by omega)
    have n2 := SY.far (s := rows - 1 - b) (t := b + 1) (by omega) (by omega) (by omega)
    exact ⟨SX.hl _ (by omega), SY.hl _ (by omega), SY.hy _ (by omega), SX.hu _ (by omega), SY.hv _ (by omega), n1.1, n2.1, n1.2, n2.2⟩
set_option maxRecDepth 100000 in
set_option maxHeartbeats 4000000 in
/-- Where the law does not ask. -/
theorem grid_far (X Y : Nat) (ci ri q : Int) (w : World) (h : [X, Y].all smallB = false ∨ leqw X 0 = true ∨ leqw Y 0 = true ∨ ci < 1 ∨ 10 < ci ∨ ri < 1 ∨ 10 < ri ∨ q < 0 ∨ 3 < q) :
    Calls Try.prog 20 #[pt X Y, .int .i64 ci, .int .i64 ri, .int .i64 q] w fun e w' => e = .returned (.bool true) ∧ Below w.heap.size w w' := by
  cases h0 : [X, Y].all smallB
  · have HS := Lib.hid h0
    clear h h0
    go_enter Try.func20, Try.ntmps20
    go_wp2_with (go_at_call 22; refine (small_at [X, Y] false _ _ (by simp) HS.out (by simp)).mono ?_; rintro e w' ⟨rfl, rfl⟩)
    go_ret
    exact ⟨rfl, below2 _ _ _⟩
  have HS := Lib.hid h0
  rw [h0] at h
  clear h0
  rcases Bool.eq_false_or_eq_true (leqw X 0) with f0 | f0
  · clear h
    unfold leqw at *
    go_enter Try.func20, Try.ntmps20
    go_wp2_with (go_at_call 22; refine (small_at [X, Y] true _ _ (by simp) HS.out (by simp)).mono ?_; rintro e w' ⟨rfl, rfl⟩)
    go_ret
    exact ⟨rfl, below2 _ _ _⟩
  rcases Bool.eq_false_or_eq_true (leqw Y 0) with f1 | f1
  · clear h
    unfold leqw at *
    go_enter Try.func20, Try.ntmps20
    go_wp2_with (go_at_call 22; refine (small_at [X, Y] true _ _ (by simp) HS.out (by simp)).mono ?_; rintro e w' ⟨rfl, rfl⟩)
    go_ret
    exact ⟨rfl, below2 _ _ _⟩
  by_cases f2 : ci < 1
  · have g2 : decide (ci < 1) = true := decide_eq_true f2
    clear h f2
    unfold leqw at *
    go_enter Try.func20, Try.ntmps20
    go_wp2_with (go_at_call 22; refine (small_at [X, Y] true _ _ (by simp) HS.out (by simp)).mono ?_; rintro e w' ⟨rfl, rfl⟩)
    go_ret
    exact ⟨rfl, below2 _ _ _⟩
  have g2 : decide (ci < 1) = false := decide_eq_false f2
  by_cases f3 : 10 < ci
  · have g3 : decide (10 < ci) = true := decide_eq_true f3
    clear h f3
    unfold leqw at *
    go_enter Try.func20, Try.ntmps20
    go_wp2_with (go_at_call 22; refine (small_at [X, Y] true _ _ (by simp) HS.out (by simp)).mono ?_; rintro e w' ⟨rfl, rfl⟩)
    go_ret
    exact ⟨rfl, below2 _ _ _⟩
  have g3 : decide (10 < ci) = false := decide_eq_false f3
  by_cases f4 : ri < 1
  · have g4 : decide (ri < 1) = true := decide_eq_true f4
    clear h f4
    unfold leqw at *
    go_enter Try.func20, Try.ntmps20
    go_wp2_with (go_at_call 22; refine (small_at [X, Y] true _ _ (by simp) HS.out (by simp)).mono ?_; rintro e w' ⟨rfl, rfl⟩)
    go_ret
    exact ⟨rfl, below2 _ _ _⟩
  have g4 : decide (ri < 1) = false := decide_eq_false f4
  by_cases f5 : 10 < ri
  · have g5 : decide (10 < ri) = true := decide_eq_true f5
    clear h f5
    unfold leqw at *
    go_enter Try.func20, Try.ntmps20
    go_wp2_with (go_at_call 22; refine (small_at [X, Y] true _ _ (by simp) HS.out (by simp)).mono ?_; rintro e w' ⟨rfl, rfl⟩)
    go_ret
    exact ⟨rfl, below2 _ _ _⟩
  have g5 : decide (10 < ri) = false := decide_eq_false f5
  by_cases f6 : q < 0
  · have g6 : decide (q < 0) = true := decide_eq_true f6
    clear h f6
    unfold leqw at *
    go_enter Try.func20, Try.ntmps20
    go_wp2_with (go_at_call 22; refine (small_at [X, Y] true _ _ (by simp) HS.out (by simp)).mono ?_; rintro e w' ⟨rfl, rfl⟩)
    go_ret
    exact ⟨rfl, below2 _ _ _⟩
  have g6 : decide (q < 0) = false := decide_eq_false f6
  by_cases f7 : 3 < q
  · have g7 : decide (3 < q) = true := decide_eq_true f7
    clear h f7
    unfold leqw at *
    go_enter Try.func20, Try.ntmps20
    go_wp2_with (go_at_call 22; refine (small_at [X, Y] true _ _ (by simp) HS.out (by simp)).mono ?_; rintro e w' ⟨rfl, rfl⟩)
    go_ret
    exact ⟨rfl, below2 _ _ _⟩
  have g7 : decide (3 < q) = false := decide_eq_false f7
  exfalso
  rcases h with h | h | h | h | h | h | h | h | h
  · cases h
  · rw [f0] at h; cases h
  · rw [f1] at h; cases h
  all_goals contradiction
theorem grid_walk (X Y : Nat) (ci ri q : Int) (w : World) : Calls Try.prog 20 #[pt X Y, .int .i64 ci, .int .i64 ri, .int .i64 q] w fun e w' => e = .returned (.bool true) ∧ Below w.heap.size w w' := by
  cases h3 : [X, Y].all smallB
  · exact grid_far X Y ci ri q w (.inl h3)
  rcases Bool.eq_false_or_eq_true (leqw X 0) with f1 | f1
  · exact grid_far X Y ci ri q w (.inr (.inl f1))
  rcases Bool.eq_false_or_eq_true (leqw Y 0) with f2 | f2
  · exact grid_far X Y ci ri q w (.inr (.inr (.inl f2)))
  by_cases hfar : ci < 1 ∨ 10 < ci ∨ ri < 1 ∨ 10 < ri ∨ q < 0 ∨ 3 < q
  · exact grid_far X Y ci ri q w (.inr (.inr (.inr hfar)))
  have h := h3
  simp only [List.all_cons, List.all_nil, Bool.and_true, Bool.and_eq_true] at h
  obtain ⟨m, r1, a1, a2⟩ := smallB_true h.1
  obtain ⟨n, r2, b1, b2⟩ := smallB_true h.2
  obtain ⟨c, rfl⟩ : ∃ c : Nat, ci = c := ⟨ci.toNat, by omega⟩
  obtain ⟨r, rfl⟩ : ∃ r : Nat, ri = r := ⟨ri.toNat, by omega⟩
  have hq : q = 0 ∨ q = 1 ∨ q = 2 ∨ q = 3 := by omega
  rcases hq with rfl | rfl | rfl | rfl
  · exact gridq_0 (by omega) (by omega) (by omega) (by omega) w h3 f1 f2 r1 a1 a2 r2 b1 b2
  · exact gridq_1 (by omega) (by omega) (by omega) (by omega) w h3 f1 f2 r1 a1 a2 r2 b1 b2
  · exact gridq_2 (by omega) (by omega) (by omega) (by omega) w h3 f1 f2 r1 a1 a2 r2 b1 b2
  · exact gridq_3 (by omega) (by omega) (by omega) (by omega) w h3 f1 f2 r1 a1 a2 r2 b1 b2
theorem grid_frame (X Y : Nat) (ci ri q : Int) (w : World) (_ : (Lit.int .i64 ci).wf = true) (_ : (Lit.int .i64 ri).wf = true) (_ : (Lit.int .i64 q).wf = true) : Calls Try.prog 20 #[pt X Y, .int .i64 ci, .int .i64 ri, .int .i64 q] w fun e w' => e = .returned (.bool true) ∧ Below w.heap.size w w' := grid_walk X Y ci ri q w
end Go.Proofs.Ytooghncdhjdcpaa
