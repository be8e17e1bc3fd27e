/-
FnGridRects: nearRect, and the law's loop by orientation. Conditions: the operations' words are given.
-/
import Derived.Test.YtooghncdhjdcpaaB26
import Derived.BigQuiet
import Derived.Deep.QuietTactic
import Derived.Deep.DeepCutAuto
namespace Go.Proofs.Ytooghncdhjdcpaa
open Go.RowKit Fl

abbrev ltw (x y : Nat) : Bool := FloatKind.f64.format.order x y == some Ordering.lt
abbrev leqw (x y : Nat) : Bool := FloatKind.f64.format.order x y == some Ordering.lt || FloatKind.f64.format.order x y == some Ordering.eq
/-- Within a millionth, as the law computes it. -/
def NearR (x y : Nat) : Prop := ∃ d1 d2, floatBits .sub .f64 x y = some d1 ∧ ltw d1 4517329193108106637 = true ∧ floatBits .sub .f64 y x = some d2 ∧ ltw d2 4517329193108106637 = true
theorem near96 {x y : Nat} (h : NearR x y) (w : World) : Calls Try.prog 96 #[.float .f64 x, .float .f64 y] w fun e w' => e = .returned (.bool true) ∧ w = w' := by
  obtain ⟨d1, d2, e1, l1, e2, l2⟩ := h
  unfold ltw at l1 l2
  have o1 := run_bin (P := Try.prog) .sub e1
  have o2 := run_bin (P := Try.prog) .sub e2
  clear e1 e2
  go_enter Try.func96, Try.ntmps96
  go_wp2_with fail
  go_ret
  exact ⟨rfl, rfl⟩
theorem near58 {a b c d a' b' c' d' : Nat} (ha : NearR a a') (hb : NearR b b') (hc : NearR c c') (hd : NearR d d') (w : World) :
    Calls Try.prog 58 #[.agg #[.float .f64 a, .float .f64 b, .float .f64 c, .float .f64 d], .agg #[.float .f64 a', .float .f64 b', .float .f64 c', .float .f64 d']] w fun e w' => e = .returned (.bool true) ∧ Below w.heap.size w w' := by
  have A := Lib.hid ha
  have B := Lib.hid hb
  have C := Lib.hid hc
  have D := Lib.hid hd
  clear ha hb hc hd
  go_enter Try.func58, Try.ntmps58
  go_wp2_with (go_at_call 96; refine (near96 (by first | exact A.out | exact B.out | exact C.out | exact D.out) _).mono ?_; rintro e w' ⟨rfl, rfl⟩)
  go_ret
  exact ⟨rfl, below2 _ _ _⟩
theorem listAt_own {W : World} {base gg n cap : Nat} {A B C D : Nat → Nat} (h : W.ownsRow base 36 4 (.slice (some ⟨gg, 0, none⟩) n cap) n (flat A B C D n)) (k : Nat) (hk : k < n) :
    W.cell? ⟨gg, k * 4, none⟩ = some (.float .f64 (A k)) ∧ W.cell? ⟨gg, k * 4 + 1, none⟩ = some (.float .f64 (B k)) ∧ W.cell? ⟨gg, k * 4 + 2, none⟩ = some (.float .f64 (C k)) ∧ W.cell? ⟨gg, k * 4 + 3, none⟩ = some (.float .f64 (D k)) := by
  obtain ⟨a, b, c, d⟩ := flat_at A B C D n k hk
  exact ⟨by rw [h.cellAt (k * 4) (by omega), a], by rw [h.cellAt (k * 4 + 1) (by omega), b], by rw [h.cellAt (k * 4 + 2) (by omega), c], by rw [h.cellAt (k * 4 + 3) (by omega), d]⟩

set_option maxRecDepth 100000 in
set_option maxHeartbeats 4000000 in
theorem gridlaw_0 {X Y cols rows N cx cy gw gh : Nat} {A B C D x m y u v : Nat → Nat} {ci ri ni : Int} (hci : ci = (cols : Int)) (hri : ri = (rows : Int)) (hni : ni = (N : Int)) (hc0 : 0 < cols) (hr0 : 0 < rows) (hc : cols < 11) (hr : rows < 11) (hcx : floatOfInt .f64 ci = cx) (hcy : floatOfInt .f64 ri = cy) (hN : rows * cols = N) (w : World)
    (hs : [X, Y].all smallB = true) (l1 : leqw X 0 = false) (l2 : leqw Y 0 = false)
    (H57 : ∀ W, Calls Try.prog 57 #[pt X Y, pt cx cy, .int .i64 0] W fun e w' => ∃ v, e = .returned (.tuple #[v, .int .i64 ni]) ∧ Below W.heap.size W w' ∧ w'.ownsRow W.heap.size 36 4 v N (flat A B C D N))
    (hgw : floatBits .quo .f64 X cx = some gw) (hgh : floatBits .quo .f64 Y cy = some gh)
    (hk : ∀ k, k < N → floatBits .mul .f64 (floatOfInt .f64 ((k % cols : Nat) : Int)) gw = some (x k) ∧ floatBits .mul .f64 (floatOfInt .f64 ((k / cols + 1 : Nat) : Int)) gh = some (m k) ∧ floatBits .sub .f64 Y (m k) = some (y k) ∧ floatBits .add .f64 (x k) gw = some (u k) ∧ floatBits .add .f64 (y k) gh = some (v k) ∧
      NearR (A k) (x k) ∧ NearR (B k) (y k) ∧ NearR (C k) (u k) ∧ NearR (D k) (v k)) :
    Calls Try.prog 20 #[pt X Y, .int .i64 ci, .int .i64 ri, .int .i64 0] w fun e w' => e = .returned (.bool true) ∧ Below w.heap.size w w' := by
  have HS := Lib.hid hs
  have H := Lib.hid H57
  have HK := Lib.hid hk
  have hN0 : 0 < N := by rw [← hN]; exact Nat.mul_pos hr0 hc0
  have HN0 := Lib.hid hN0
  have HCI := Lib.hid hci
  have HRI := Lib.hid hri
  have HNI := Lib.hid hni
  unfold leqw at l1 l2
  have o1 := run_bin (P := Try.prog) .quo hgw
  have o2 := run_bin (P := Try.prog) .quo hgh
  have hmz : ri * ci = ni := by rw [hri, hci, hni, ← hN, Int.natCast_mul]
  have d1 : decide (ci < 1) = false := by simp; omega
  have d2 : decide (10 < ci) = false := by simp; omega
  have d3 : decide (ri < 1) = false := by simp; omega
  have d4 : decide (10 < ri) = false := by simp; omega
  have hn1 : N < 1000 := by
    have := Nat.mul_le_mul (show rows ≤ 10 by omega) (show cols ≤ 10 by omega)
    omega
  have b1 : 0 < ni := by omega
  have b2 : ni < 1000 := by omega
  have HN := Lib.hid hN
  have HD : Hid (0 < cols) := Lib.hid (by omega)
  have HP0 : Hid (∀ (W W' : World), Below ((w.alloc (.cells #[.float .f64 X, .float .f64 Y] 28)).alloc (.cells #[.float .f64 X, .float .f64 Y] 22)).heap.size ((w.alloc (.cells #[.float .f64 X, .float .f64 Y] 28)).alloc (.cells #[.float .f64 X, .float .f64 Y] 22)) W → Below W.heap.size W W' → W'.cell? ⟨w.heap.size, 0, none⟩ = some (.float .f64 X) ∧ W'.cell? ⟨w.heap.size, 1, none⟩ = some (.float .f64 Y)) := Lib.hid fun W W' h1 h2 => by
    have := h1.size
    have h3 := h1.trans (h2.mono h1.size)
    have hl := (listAt_new w _ rfl [.float .f64 X, .float .f64 Y] 28).below (below1 _ (.cells #[.float .f64 X, .float .f64 Y] 22))
    have := hl.below h3
    exact ⟨(this.2 0 _ rfl).1, (this.2 1 _ rfl).1⟩
  have hq : ((N : Nat) : Int) = ni := hni.symm
  have hcz : ci ≠ 0 := by omega
  have hrz : ri ≠ 0 := by omega
  have cb : 0 < ci ∧ ci < 11 := by omega
  have rb : 0 < ri ∧ ri < 11 := by omega
  clear hs H57 hk hgw hgh hN hN0 hci hri hni hc0 hr0 hc hr hn1
  go_enter Try.func20, Try.ntmps20
  go_wp2_with (first | (go_at_call 22; refine (small_at [X, Y] true _ _ (by simp) HS.out (by simp)).mono ?_; rintro e w' ⟨rfl, rfl⟩) | (go_at_call 57; refine (H.out _).mono ?_; rintro e w1 ⟨vr, rfl, hB1, hO⟩; obtain ⟨gg, cap, rfl, _, hgg⟩ := hO.form HN0.out; obtain ⟨hx0, hy0⟩ := HP0.out _ _ hB1 (Below.refl _ _); have HO := Lib.hid hO; have HB1 := Lib.hid hB1; clear hO hB1))
  go_quiet (fail)
  go_wp2_with fail
  clear hx0 hy0
  go_loopw [95] (fun i wr => ∃ k : Nat, k ≤ N ∧ i = .int .i64 k ∧ Hid (Below w1.heap.size w1 wr)) (fun i _ => N - (intOf i).toNat)
  case atStart => exact ⟨0, Nat.zero_le _, rfl, Lib.hid (bel_drewN _ (Below.refl _ _))⟩
  case round =>
    obtain ⟨k, hk, rfl, hS⟩ := hrel
    by_cases hlt : k < N
    · have hx := (HP0.out w1 wr HB1.out hS.out).1
      have hy := (HP0.out w1 wr HB1.out hS.out).2
      have hkn : (k : Int) < ni := by have := HNI.out; omega
      obtain ⟨c0, c1, c2, c3⟩ := listAt_own (own_keep HO.out hS.out) k hlt
      obtain ⟨e1, e2, e3, e4, e5, n1, n2, n3, n4⟩ := HK.out k hlt
      obtain ⟨dz, hdz⟩ : ∃ z, (k : Int) / ci = z := ⟨_, rfl⟩
      obtain ⟨mz, hmz2⟩ : ∃ z, (k : Int) % ci = z := ⟨_, rfl⟩
      have hd1 : dz = ((k / cols : Nat) : Int) := by rw [← hdz, HCI.out, Int.natCast_ediv]
      have hm1 : mz = ((k % cols : Nat) : Int) := by rw [← hmz2, HCI.out, Int.natCast_emod]
      have hlt2 : k % cols < cols := Nat.mod_lt _ HD.out
      have hld2 : k / cols < rows := Nat.div_lt_of_lt_mul (by have := HN.out; rw [Nat.mul_comm] at this; omega)
      generalize k / cols = dn at *
      generalize k % cols = mn at *
      obtain ⟨cv, hcv⟩ : ∃ z, mz = z := ⟨_, rfl⟩
      obtain ⟨rv, hrv⟩ : ∃ z, dz + 1 = z := ⟨_, rfl⟩
      have hcv1 : ((mn : Nat) : Int) = cv := by have := HCI.out; omega
      have hrv1 : ((dn + 1 : Nat) : Int) = rv := by omega
      have zb : 0 ≤ dz ∧ dz < ri ∧ 0 ≤ mz ∧ mz < ci := by have := HCI.out; have := HRI.out; omega
      rw [hcv1] at e1
      rw [hrv1] at e2
      generalize A k = a0, B k = b0, C k = c00, D k = d0, x k = x0, m k = m0, y k = y0, u k = u0, v k = v0 at *
      have O1 := run_bin (P := Try.prog) .mul e1
      have O2 := run_bin (P := Try.prog) .mul e2
      have O3 := run_bin (P := Try.prog) .sub e3
      have O4 := run_bin (P := Try.prog) .add e4
      have O5 := run_bin (P := Try.prog) .add e5
      have N1 := Lib.hid n1
      have N2 := Lib.hid n2
      have N3 := Lib.hid n3
      have N4 := Lib.hid n4
      clear e1 e2 e3 e4 e5 n1 n2 n3 n4 hcv1 hrv1 hd1 hm1 hlt2 hld2
      go_wp2_with fail
      go_quiet (fail)
      go_wp2_with fail
      
      
      go_quiet (fail)
      go_wp2_with (go_at_call 58; refine (near58 N1.out N2.out N3.out N4.out _).mono ?_; rintro e w2 ⟨rfl, hB2⟩)
      have hS2 : Below w1.heap.size w1 w2 := (bel_drewN _ hS.out).trans (hB2.mono (by have := hS.out.size; simpa using this))
      clear hB2
      go_roundw
      case rel => exact ⟨k + 1, by omega, by go_num, Lib.hid hS2⟩
      case measure => simp [intOf] <;> omega
    · go_wp2_with fail
      go_ret
      exact ⟨rfl, (below2 _ _ _).trans ((HB1.out.trans (hS.out.mono HB1.out.size)).mono (by simp <;> omega))⟩

set_option maxRecDepth 100000 in
set_option maxHeartbeats 4000000 in
theorem gridlaw_1 {X Y cols rows N cx cy gw gh : Nat} {A B C D x m y u v : Nat → Nat} {ci ri ni : Int} (hci : ci = (cols : Int)) (hri : ri = (rows : Int)) (hni : ni = (N : Int)) (hc0 : 0 < cols) (hr0 : 0 < rows) (hc : cols < 11) (hr : rows < 11) (hcx : floatOfInt .f64 ci = cx) (hcy : floatOfInt .f64 ri = cy) (hN : rows * cols = N) (w : World)
    (hs : [X, Y].all smallB = true) (l1 : leqw X 0 = false) (l2 : leqw Y 0 = false)
    (H57 : ∀ W, Calls Try.prog 57 #[pt X Y, pt cx cy, .int .i64 1] W fun e w' => ∃ v, e = .returned (.tuple #[v, .int .i64 ni]) ∧ Below W.heap.size W w' ∧ w'.ownsRow W.heap.size 36 4 v N (flat A B C D N))
    (hgw : floatBits .quo .f64 X cx = some gw) (hgh : floatBits .quo .f64 Y cy = some gh)
    (hk : ∀ k, k < N → floatBits .mul .f64 (floatOfInt .f64 ((k / rows : Nat) : Int)) gw = some (x k) ∧ floatBits .mul .f64 (floatOfInt .f64 ((k % rows + 1 : Nat) : Int)) gh = some (m k) ∧ floatBits .sub .f64 Y (m k) = some (y k) ∧ floatBits .add .f64 (x k) gw = some (u k) ∧ floatBits .add .f64 (y k) gh = some (v k) ∧
      NearR (A k) (x k) ∧ NearR (B k) (y k) ∧ NearR (C k) (u k) ∧ NearR (D k) (v k)) :
    Calls Try.prog 20 #[pt X Y, .int .i64 ci, .int .i64 ri, .int .i64 1] w fun e w' => e = .returned (.bool true) ∧ Below w.heap.size w w' := by
  have HS := Lib.hid hs
  have H := Lib.hid H57
  have HK := Lib.hid hk
  have hN0 : 0 < N := by rw [← hN]; exact Nat.mul_pos hr0 hc0
  have HN0 := Lib.hid hN0
  have HCI := Lib.hid hci
  have HRI := Lib.hid hri
  have HNI := Lib.hid hni
  unfold leqw at l1 l2
  have o1 := run_bin (P := Try.prog) .quo hgw
  have o2 := run_bin (P := Try.prog) .quo hgh
  have hmz : ri * ci = ni := by rw [hri, hci, hni, ← hN, Int.natCast_mul]
  have d1 : decide (ci < 1) = false := by simp; omega
  have d2 : decide (10 < ci) = false := by simp; omega
  have d3 : decide (ri < 1) = false := by simp; omega
  have d4 : decide (10 < ri) = false := by simp; omega
  have hn1 : N < 1000 := by
    have := Nat.mul_le_mul (show rows ≤ 10 by omega) (show cols ≤ 10 by omega)
    omega
  have b1 : 0 < ni := by omega
  have b2 : ni < 1000 := by omega
  have HN := Lib.hid hN
  have HD : Hid (0 < rows) := Lib.hid (by omega)
  have HP0 : Hid (∀ (W W' : World), Below ((w.alloc (.cells #[.float .f64 X, .float .f64 Y] 28)).alloc (.cells #[.float .f64 X, .float .f64 Y] 22)).heap.size ((w.alloc (.cells #[.float .f64 X, .float .f64 Y] 28)).alloc (.cells #[.float .f64 X, .float .f64 Y] 22)) W → Below W.heap.size W W' → W'.cell? ⟨w.heap.size, 0, none⟩ = some (.float .f64 X) ∧ W'.cell? ⟨w.heap.size, 1, none⟩ = some (.float .f64 Y)) := Lib.hid fun W W' h1 h2 => by
    have := h1.size
    have h3 := h1.trans (h2.mono h1.size)
    have hl := (listAt_new w _ rfl [.float .f64 X, .float .f64 Y] 28).below (below1 _ (.cells #[.float .f64 X, .float .f64 Y] 22))
    have := hl.below h3
    exact ⟨(this.2 0 _ rfl).1, (this.2 1 _ rfl).1⟩
  have hq : ((N : Nat) : Int) = ni := hni.symm
  have hcz : ci ≠ 0 := by omega
  have hrz : ri ≠ 0 := by omega
  have cb : 0 < ci ∧ ci < 11 := by omega
  have rb : 0 < ri ∧ ri < 11 := by omega
  clear hs H57 hk hgw hgh hN hN0 hci hri hni hc0 hr0 hc hr hn1
  go_enter Try.func20, Try.ntmps20
  go_wp2_with (first | (go_at_call 22; refine (small_at [X, Y] true _ _ (by simp) HS.out (by simp)).mono ?_; rintro e w' ⟨rfl, rfl⟩) | (go_at_call 57; refine (H.out _).mono ?_; rintro e w1 ⟨vr, rfl, hB1, hO⟩; obtain ⟨gg, cap, rfl, _, hgg⟩ := hO.form HN0.out; obtain ⟨hx0, hy0⟩ := HP0.out _ _ hB1 (Below.refl _ _); have HO := Lib.hid hO; have HB1 := Lib.hid hB1; clear hO hB1))
  go_quiet (fail)
  go_wp2_with fail
  clear hx0 hy0
  go_loopw [95] (fun i wr => ∃ k : Nat, k ≤ N ∧ i = .int .i64 k ∧ Hid (Below w1.heap.size w1 wr)) (fun i _ => N - (intOf i).toNat)
  case atStart => exact ⟨0, Nat.zero_le _, rfl, Lib.hid (bel_drewN _ (Below.refl _ _))⟩
  case round =>
    obtain ⟨k, hk, rfl, hS⟩ := hrel
    by_cases hlt : k < N
    · have hx := (HP0.out w1 wr HB1.out hS.out).1
      have hy := (HP0.out w1 wr HB1.out hS.out).2
      have hkn : (k : Int) < ni := by have := HNI.out; omega
      obtain ⟨c0, c1, c2, c3⟩ := listAt_own (own_keep HO.out hS.out) k hlt
      obtain ⟨e1, e2, e3, e4, e5, n1, n2, n3, n4⟩ := HK.out k hlt
      obtain ⟨dz, hdz⟩ : ∃ z, (k : Int) / ri = z := ⟨_, rfl⟩
      obtain ⟨mz, hmz2⟩ : ∃ z, (k : Int) % ri = z := ⟨_, rfl⟩
      have hd1 : dz = ((k / rows : Nat) : Int) := by rw [← hdz, HRI.out, Int.natCast_ediv]
      have hm1 : mz = ((k % rows : Nat) : Int) := by rw [← hmz2, HRI.out, Int.natCast_emod]
      have hlt2 : k % rows < rows := Nat.mod_lt _ HD.out
      have hld2 : k / rows < cols := Nat.div_lt_of_lt_mul (by have := HN.out; rw [] at this; omega)
      generalize k / rows = dn at *
      generalize k % rows = mn at *
      obtain ⟨cv, hcv⟩ : ∃ z, dz = z := ⟨_, rfl⟩
      obtain ⟨rv, hrv⟩ : ∃ z, mz + 1 = z := ⟨_, rfl⟩
      have hcv1 : ((dn : Nat) : Int) = cv := by have := HCI.out; omega
      have hrv1 : ((mn + 1 : Nat) : Int) = rv := by omega
      have zb : 0 ≤ dz ∧ dz < ci ∧ 0 ≤ mz ∧ mz < ri := by have := HCI.out; have := HRI.out; omega
      rw [hcv1] at e1
      rw [hrv1] at e2
      generalize A k = a0, B k = b0, C k = c00, D k = d0, x k = x0, m k = m0, y k = y0, u k = u0, v k = v0 at *
      have O1 := run_bin (P := Try.prog) .mul e1
      have O2 := run_bin (P := Try.prog) .mul e2
      have O3 := run_bin (P := Try.prog) .sub e3
      have O4 := run_bin (P := Try.prog) .add e4
      have O5 := run_bin (P := Try.prog) .add e5
      have N1 := Lib.hid n1
      have N2 := Lib.hid n2
      have N3 := Lib.hid n3
      have N4 := Lib.hid n4
      clear e1 e2 e3 e4 e5 n1 n2 n3 n4 hcv1 hrv1 hd1 hm1 hlt2 hld2
      go_wp2_with fail
      go_quiet (fail)
      go_wp2_with fail
      go_quiet (fail)
      go_wp2_with fail
      go_quiet (fail)
      go_wp2_with (go_at_call 58; refine (near58 N1.out N2.out N3.out N4.out _).mono ?_; rintro e w2 ⟨rfl, hB2⟩)
      have hS2 : Below w1.heap.size w1 w2 := (bel_drewN _ hS.out).trans (hB2.mono (by have := hS.out.size; simpa using this))
      clear hB2
      go_roundw
      case rel => exact ⟨k + 1, by omega, by go_num, Lib.hid hS2⟩
      case measure => simp [intOf] <;> omega
    · go_wp2_with fail
      go_ret
      exact ⟨rfl, (below2 _ _ _).trans ((HB1.out.trans (hS.out.mono HB1.out.size)).mono (by simp <;> omega))⟩

set_option maxRecDepth 100000 in
set_option maxHeartbeats 4000000 in
theorem gridlaw_2 {X Y cols rows N cx cy gw gh : Nat} {A B C D x m y u v : Nat → Nat} {ci ri ni : Int} (hci : ci = (cols : Int)) (hri : ri = (rows : Int)) (hni : ni = (N : Int)) (hc0 : 0 < cols) (hr0 : 0 < rows) (hc : cols < 11) (hr : rows < 11) (hcx : floatOfInt .f64 ci = cx) (hcy : floatOfInt .f64 ri = cy) (hN : rows * cols = N) (w : World)
    (hs : [X, Y].all smallB = true) (l1 : leqw X 0 = false) (l2 : leqw Y 0 = false)
    (H57 : ∀ W, Calls Try.prog 57 #[pt X Y, pt cx cy, .int .i64 2] W fun e w' => ∃ v, e = .returned (.tuple #[v, .int .i64 ni]) ∧ Below W.heap.size W w' ∧ w'.ownsRow W.heap.size 36 4 v N (flat A B C D N))
    (hgw : floatBits .quo .f64 X cx = some gw) (hgh : floatBits .quo .f64 Y cy = some gh)
    (hk : ∀ k, k < N → floatBits .mul .f64 (floatOfInt .f64 ((cols - 1 - k % cols : Nat) : Int)) gw = some (x k) ∧ floatBits .mul .f64 (floatOfInt .f64 ((k / cols + 1 : Nat) : Int)) gh = some (m k) ∧ floatBits .sub .f64 Y (m k) = some (y k) ∧ floatBits .add .f64 (x k) gw = some (u k) ∧ floatBits .add .f64 (y k) gh = some (v k) ∧
      NearR (A k) (x k) ∧ NearR (B k) (y k) ∧ NearR (C k) (u k) ∧ NearR (D k) (v k)) :
    Calls Try.prog 20 #[pt X Y, .int .i64 ci, .int .i64 ri, .int .i64 2] w fun e w' => e = .returned (.bool true) ∧ Below w.heap.size w w' := by
  have HS := Lib.hid hs
  have H := Lib.hid H57
  have HK := Lib.hid hk
  have hN0 : 0 < N := by rw [← hN]; exact Nat.mul_pos hr0 hc0
  have HN0 := Lib.hid hN0
  have HCI := Lib.hid hci
  have HRI := Lib.hid hri
  have HNI := Lib.hid hni
  unfold leqw at l1 l2
  have o1 := run_bin (P := Try.prog) .quo hgw
  have o2 := run_bin (P := Try.prog) .quo hgh
  have hmz : ri * ci = ni := by rw [hri, hci, hni, ← hN, Int.natCast_mul]
  have d1 : decide (ci < 1) = false := by simp; omega
  have d2 : decide (10 < ci) = false := by simp; omega
  have d3 : decide (ri < 1) = false := by simp; omega
  have d4 : decide (10 < ri) = false := by simp; omega
  have hn1 : N < 1000 := by
    have := Nat.mul_le_mul (show rows ≤ 10 by omega) (show cols ≤ 10 by omega)
    omega
  have b1 : 0 < ni := by omega
  have b2 : ni < 1000 := by omega
  have HN := Lib.hid hN
  have HD : Hid (0 < cols) := Lib.hid (by omega)
  have HP0 : Hid (∀ (W W' : World), Below ((w.alloc (.cells #[.float .f64 X, .float .f64 Y] 28)).alloc (.cells #[.float .f64 X, .float .f64 Y] 22)).heap.size ((w.alloc (.cells #[.float .f64 X, .float .f64 Y] 28)).alloc (.cells #[.float .f64 X, .float .f64 Y] 22)) W → Below W.heap.size W W' → W'.cell? ⟨w.heap.size, 0, none⟩ = some (.float .f64 X) ∧ W'.cell? ⟨w.heap.size, 1, none⟩ = some (.float .f64 Y)) := Lib.hid fun W W' h1 h2 => by
    have := h1.size
    have h3 := h1.trans (h2.mono h1.size)
    have hl := (listAt_new w _ rfl [.float .f64 X, .float .f64 Y] 28).below (below1 _ (.cells #[.float .f64 X, .float .f64 Y] 22))
    have := hl.below h3
    exact ⟨(this.2 0 _ rfl).1, (this.2 1 _ rfl).1⟩
  have hq : ((N : Nat) : Int) = ni := hni.symm
  have hcz : ci ≠ 0 := by omega
  have hrz : ri ≠ 0 := by omega
  have cb : 0 < ci ∧ ci < 11 := by omega
  have rb : 0 < ri ∧ ri < 11 := by omega
  clear hs H57 hk hgw hgh hN hN0 hci hri hni hc0 hr0 hc hr hn1
  go_enter Try.func20, Try.ntmps20
  go_wp2_with (first | (go_at_call 22; refine (small_at [X, Y] true _ _ (by simp) HS.out (by simp)).mono ?_; rintro e w' ⟨rfl, rfl⟩) | (go_at_call 57; refine (H.out _).mono ?_; rintro e w1 ⟨vr, rfl, hB1, hO⟩; obtain ⟨gg, cap, rfl, _, hgg⟩ := hO.form HN0.out; obtain ⟨hx0, hy0⟩ := HP0.out _ _ hB1 (Below.refl _ _); have HO := Lib.hid hO; have HB1 := Lib.hid hB1; clear hO hB1))
  go_quiet (fail)
  go_wp2_with fail
  clear hx0 hy0
  go_loopw [95] (fun i wr => ∃ k : Nat, k ≤ N ∧ i = .int .i64 k ∧ Hid (Below w1.heap.size w1 wr)) (fun i _ => N - (intOf i).toNat)
  case atStart => exact ⟨0, Nat.zero_le _, rfl, Lib.hid (bel_drewN _ (Below.refl _ _))⟩
  case round =>
    obtain ⟨k, hk, rfl, hS⟩ := hrel
    by_cases hlt : k < N
    · have hx := (HP0.out w1 wr HB1.out hS.out).1
      have hy := (HP0.out w1 wr HB1.out hS.out).2
      have hkn : (k : Int) < ni := by have := HNI.out; omega
      obtain ⟨c0, c1, c2, c3⟩ := listAt_own (own_keep HO.out hS.out) k hlt
      obtain ⟨e1, e2, e3, e4, e5, n1, n2, n3, n4⟩ := HK.out k hlt
      obtain ⟨dz, hdz⟩ : ∃ z, (k : Int) / ci = z := ⟨_, rfl⟩
      obtain ⟨mz, hmz2⟩ : ∃ z, (k : Int) % ci = z := ⟨_, rfl⟩
      have hd1 : dz = ((k / cols : Nat) : Int) := by rw [← hdz, HCI.out, Int.natCast_ediv]
      have hm1 : mz = ((k % cols : Nat) : Int) := by rw [← hmz2, HCI.out, Int.natCast_emod]
      have hlt2 : k % cols < cols := Nat.mod_lt _ HD.out
      have hld2 : k / cols < rows := Nat.div_lt_of_lt_mul (by have := HN.out; rw [Nat.mul_comm] at this; omega)
      generalize k / cols = dn at *
      generalize k % cols = mn at *
      obtain ⟨cv, hcv⟩ : ∃ z, ci - 1 - mz = z := ⟨_, rfl⟩
      obtain ⟨rv, hrv⟩ : ∃ z, dz + 1 = z := ⟨_, rfl⟩
      have hcv1 : ((cols - 1 - mn : Nat) : Int) = cv := by have := HCI.out; omega
      have hrv1 : ((dn + 1 : Nat) : Int) = rv := by omega
      have zb : 0 ≤ dz ∧ dz < ri ∧ 0 ≤ mz ∧ mz < ci := by have := HCI.out; have := HRI.out; omega
      rw [hcv1] at e1
      rw [hrv1] at e2
      generalize A k = a0, B k = b0, C k = c00, D k = d0, x k = x0, m k = m0, y k = y0, u k = u0, v k = v0 at *
      have O1 := run_bin (P := Try.prog) .mul e1
      have O2 := run_bin (P := Try.prog) .mul e2
      have O3 := run_bin (P := Try.prog) .sub e3
      have O4 := run_bin (P := Try.prog) .add e4
      have O5 := run_bin (P := Try.prog) .add e5
      have N1 := Lib.hid n1
      have N2 := Lib.hid n2
      have N3 := Lib.hid n3
      have N4 := Lib.hid n4
      clear e1 e2 e3 e4 e5 n1 n2 n3 n4 hcv1 hrv1 hd1 hm1 hlt2 hld2
      go_wp2_with fail
      go_quiet (fail)
      go_wp2_with fail
      
      
      go_quiet (fail)
      go_wp2_with (go_at_call 58; refine (near58 N1.out N2.out N3.out N4.out _).mono ?_; rintro e w2 ⟨rfl, hB2⟩)
      have hS2 : Below w1.heap.size w1 w2 := (bel_drewN _ hS.out).trans (hB2.mono (by have := hS.out.size; simpa using this))
      clear hB2
      go_roundw
      case rel => exact ⟨k + 1, by omega, by go_num, Lib.hid hS2⟩
      case measure => simp [intOf] <;> omega
    · go_wp2_with fail
      go_ret
      exact ⟨rfl, (below2 _ _ _).trans ((HB1.out.trans (hS.out.mono HB1.out.size)).mono (by simp <;> omega))⟩

set_option maxRecDepth 100000 in
set_option maxHeartbeats 4000000 in
theorem gridlaw_3 {X Y cols rows N cx cy gw gh : Nat} {A B C D x m y u v : Nat → Nat} {ci ri ni : Int} (hci : ci = (cols : Int)) (hri : ri = (rows : Int)) (hni : ni = (N : Int)) (hc0 : 0 < cols) (hr0 : 0 < rows) (hc : cols < 11) (hr : rows < 11) (hcx : floatOfInt .f64 ci = cx) (hcy : floatOfInt .f64 ri = cy) (hN : rows * cols = N) (w : World)
    (hs : [X, Y].all smallB = true) (l1 : leqw X 0 = false) (l2 : leqw Y 0 = false)
    (H57 : ∀ W, Calls Try.prog 57 #[pt X Y, pt cx cy, .int .i64 3] W fun e w' => ∃ v, e = .returned (.tuple #[v, .int .i64 ni]) ∧ Below W.heap.size W w' ∧ w'.ownsRow W.heap.size 36 4 v N (flat A B C D N))
    (hgw : floatBits .quo .f64 X cx = some gw) (hgh : floatBits .quo .f64 Y cy = some gh)
    (hk : ∀ k, k < N → floatBits .mul .f64 (floatOfInt .f64 ((cols - 1 - k / rows : Nat) : Int)) gw = some (x k) ∧ floatBits .mul .f64 (floatOfInt .f64 ((k % rows + 1 : Nat) : Int)) gh = some (m k) ∧ floatBits .sub .f64 Y (m k) = some (y k) ∧ floatBits .add .f64 (x k) gw = some (u k) ∧ floatBits .add .f64 (y k) gh = some (v k) ∧
      NearR (A k) (x k) ∧ NearR (B k) (y k) ∧ NearR (C k) (u k) ∧ NearR (D k) (v k)) :
    Calls Try.prog 20 #[pt X Y, .int .i64 ci, .int .i64 ri, .int .i64 3] w fun e w' => e = .returned (.bool true) ∧ Below w.heap.size w w' := by
  have HS := Lib.hid hs
  have H := Lib.hid H57
  have HK := Lib.hid hk
  have hN0 : 0 < N := by rw [← hN]; exact Nat.mul_pos hr0 hc0
  have HN0 := Lib.hid hN0
  have HCI := Lib.hid hci
  have HRI := Lib.hid hri
  have HNI := Lib.hid hni
  unfold leqw at l1 l2
  have o1 := run_bin (P := Try.prog) .quo hgw
  have o2 := run_bin (P := Try.prog) .quo hgh
  have hmz : ri * ci = ni := by rw [hri, hci, hni, ← hN, Int.natCast_mul]
  have d1 : decide (ci < 1) = false := by simp; omega
  have d2 : decide (10 < ci) = false := by simp; omega
  have d3 : decide (ri < 1) = false := by simp; omega
  have d4 : decide (10 < ri) = false := by simp; omega
  have hn1 : N < 1000 := by
    have := Nat.mul_le_mul (show rows ≤ 10 by omega) (show cols ≤ 10 by omega)
    omega
  have b1 : 0 < ni := by omega
  have b2 : ni < 1000 := by omega
  have HN := Lib.hid hN
  have HD : Hid (0 < rows) := Lib.hid (by omega)
  have HP0 : Hid (∀ (W W' : World), Below ((w.alloc (.cells #[.float .f64 X, .float .f64 Y] 28)).alloc (.cells #[.float .f64 X, .float .f64 Y] 22)).heap.size ((w.alloc (.cells #[.float .f64 X, .float .f64 Y] 28)).alloc (.cells #[.float .f64 X, .float .f64 Y] 22)) W → Below W.heap.size W W' → W'.cell? ⟨w.heap.size, 0, none⟩ = some (.float .f64 X) ∧ W'.cell? ⟨w.heap.size, 1, none⟩ = some (.float .f64 Y)) := Lib.hid fun W W' h1 h2 => by
    have := h1.size
    have h3 := h1.trans (h2.mono h1.size)
    have hl := (listAt_new w _ rfl [.float .f64 X, .float .f64 Y] 28).below (below1 _ (.cells #[.float .f64 X, .float .f64 Y] 22))
    have := hl.below h3
    exact ⟨(this.2 0 _ rfl).1, (this.2 1 _ rfl).1⟩
  have hq : ((N : Nat) : Int) = ni := hni.symm
  have hcz : ci ≠ 0 := by omega
  have hrz : ri ≠ 0 := by omega
  have cb : 0 < ci ∧ ci < 11 := by omega
  have rb : 0 < ri ∧ ri < 11 := by omega
  clear hs H57 hk hgw hgh hN hN0 hci hri hni hc0 hr0 hc hr hn1
  go_enter Try.func20, Try.ntmps20
  go_wp2_with (first | (go_at_call 22; refine (small_at [X, Y] true _ _ (by simp) HS.out (by simp)).mono ?_; rintro e w' ⟨rfl, rfl⟩) | (go_at_call 57; refine (H.out _).mono ?_; rintro e w1 ⟨vr, rfl, hB1, hO⟩; obtain ⟨gg, cap, rfl, _, hgg⟩ := hO.form HN0.out; obtain ⟨hx0, hy0⟩ := HP0.out _ _ hB1 (Below.refl _ _); have HO := Lib.hid hO; have HB1 := Lib.hid hB1; clear hO hB1))
  go_quiet (fail)
  go_wp2_with fail
  clear hx0 hy0
  go_loopw [95] (fun i wr => ∃ k : Nat, k ≤ N ∧ i = .int .i64 k ∧ Hid (Below w1.heap.size w1 wr)) (fun i _ => N - (intOf i).toNat)
  case atStart => exact ⟨0, Nat.zero_le _, rfl, Lib.hid (bel_drewN _ (Below.refl _ _))⟩
  case round =>
    obtain ⟨k, hk, rfl, hS⟩ := hrel
    by_cases hlt : k < N
    · have hx := (HP0.out w1 wr HB1.out hS.out).1
      have hy := (HP0.out w1 wr HB1.out hS.out).2
      have hkn : (k : Int) < ni := by have := HNI.out; omega
      obtain ⟨c0, c1, c2, c3⟩ := listAt_own (own_keep HO.out hS.out) k hlt
      obtain ⟨e1, e2, e3, e4, e5, n1, n2, n3, n4⟩ := HK.out k hlt
      obtain ⟨dz, hdz⟩ : ∃ z, (k : Int) / ri = z := ⟨_, rfl⟩
      obtain ⟨mz, hmz2⟩ : ∃ z, (k : Int) % ri = z := ⟨_, rfl⟩
      have hd1 : dz = ((k / rows : Nat) : Int) := by rw [← hdz, HRI.out, Int.natCast_ediv]
      have hm1 : mz = ((k % rows : Nat) : Int) := by rw [← hmz2, HRI.out, Int.natCast_emod]
      have hlt2 : k % rows < rows := Nat.mod_lt _ HD.out
      have hld2 : k / rows < cols := Nat.div_lt_of_lt_mul (by have := HN.out; rw [] at this; omega)
      generalize k / rows = dn at *
      generalize k % rows = mn at *
      obtain ⟨cv, hcv⟩ : ∃ z, ci - 1 - dz = z := ⟨_, rfl⟩
      obtain ⟨rv, hrv⟩ : ∃ z, mz + 1 = z := ⟨_, rfl⟩
      have hcv1 : ((cols - 1 - dn : Nat) : Int) = cv := by have := HCI.out; omega
      have hrv1 : ((mn + 1 : Nat) : Int) = rv := by omega
      have zb : 0 ≤ dz ∧ dz < ci ∧ 0 ≤ mz ∧ mz < ri := by have := HCI.out; have := HRI.out; omega
      rw [hcv1] at e1
      rw [hrv1] at e2
      generalize A k = a0, B k = b0, C k = c00, D k = d0, x k = x0, m k = m0, y k = y0, u k = u0, v k = v0 at *
      have O1 := run_bin (P := Try.prog) .mul e1
      have O2 := run_bin (P := Try.prog) .mul e2
      have O3 := run_bin (P := Try.prog) .sub e3
      have O4 := run_bin (P := Try.prog) .add e4
      have O5 := run_bin (P := Try.prog) .add e5
      have N1 := Lib.hid n1
      have N2 := Lib.hid n2
      have N3 := Lib.hid n3
      have N4 := Lib.hid n4
      clear e1 e2 e3 e4 e5 n1 n2 n3 n4 hcv1 hrv1 hd1 hm1 hlt2 hld2
      go_wp2_with fail
      go_quiet (fail)
      go_wp2_with fail
      go_quiet (fail)
      go_wp2_with fail
      go_quiet (fail)
      go_wp2_with (go_at_call 58; refine (near58 N1.out N2.out N3.out N4.out _).mono ?_; rintro e w2 ⟨rfl, hB2⟩)
      have hS2 : Below w1.heap.size w1 w2 := (bel_drewN _ hS.out).trans (hB2.mono (by have := hS.out.size; simpa using this))
      clear hB2
      go_roundw
      case rel => exact ⟨k + 1, by omega, by go_num, Lib.hid hS2⟩
      case measure => simp [intOf] <;> omega
    · go_wp2_with fail
      go_ret
      exact ⟨rfl, (below2 _ _ _).trans ((HB1.out.trans (hS.out.mono HB1.out.size)).mono (by simp <;> omega))⟩

end Go.Proofs.Ytooghncdhjdcpaa
