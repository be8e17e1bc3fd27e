/-
FnCutsOfPoster: the law walked. Conditions: the operations' words are given.
-/
import Derived.Test.YtooghncdhjdcpaaB43
import Derived.Deep.DeepCutAuto
namespace Go.Proofs.Ytooghncdhjdcpaa
open Go.RowKit Fl

/-- The words of a list of places. -/
def plw (F : Nat → Nat) : Nat → Nat
  | 0 => 0
  | k + 1 => F k
theorem plc_at (F : Nat → Nat) (n k : Nat) (h : k ≤ n) : (plc F n)[k]? = some (.float .f64 (plw F k)) := by
  cases k with
  | zero => rfl
  | succ k => simp [plc, plw, List.getElem?_map, List.getElem?_range (show k < n by omega)]
abbrev ltp (x y : Nat) : Bool := FloatKind.f64.format.order x y == some Ordering.lt
abbrev gtp (x y : Nat) : Bool := FloatKind.f64.format.order x y == some Ordering.gt
abbrev leqp (x y : Nat) : Bool := FloatKind.f64.format.order x y == some Ordering.lt || FloatKind.f64.format.order x y == some Ordering.eq
set_option maxRecDepth 100000 in
set_option maxHeartbeats 4000000 in
theorem poster_law {x y P Q q1 q2 s1 s2 J J' K K' : Nat} {c c' : Bool} {F F' m m' d d' e e' : Nat → Nat} (w : World)
    (hs : [x, y, P, Q].all smallB = true) (l1 : ltp x 4607182418800017408 = false) (l2 : ltp y 4607182418800017408 = false) (l3 : leqp P 0 = false) (l4 : leqp Q 0 = false) (l5 : gtp P x = false) (l6 : gtp Q y = false)
    (e1 : floatBits .quo .f64 x P = some q1) (l7 : gtp q1 4632233691727265792 = false) (e2 : floatBits .quo .f64 y Q = some q2) (l8 : gtp q2 4632233691727265792 = false)
    (e3 : floatBits .quo .f64 P x = some s1) (e4 : floatBits .quo .f64 Q y = some s2)
    (H55 : ∀ W, Calls Try.prog 55 #[.float .f64 x, .float .f64 y, pt P Q] W fun e w' => ∃ v v', e = .returned (.tuple #[v', v, .bool true]) ∧ CutsQ W J J' c c' F F' v v' w')
    (M : MulW (J + 1 + c.toNat) K s1 (plw F) m d e) (M' : MulW (J' + 1 + c'.toNat) K' s2 (plw F') m' d' e') :
    Calls Try.prog 19 #[.float .f64 x, .float .f64 y, pt P Q] w fun e w' => e = .returned (.bool true) ∧ Below w.heap.size w w' := by
  have HS := Lib.hid hs
  have H := Lib.hid H55
  have HM := Lib.hid M
  have HM' := Lib.hid M'
  unfold ltp at l1 l2
  unfold leqp at l3 l4
  unfold gtp at l5 l6 l7 l8
  have o1 := run_bin (P := Try.prog) .quo e1
  have o2 := run_bin (P := Try.prog) .quo e2
  have o3 := run_bin (P := Try.prog) .quo e3
  have o4 := run_bin (P := Try.prog) .quo e4
  have HP0 : Hid (∀ (o : Obj) (W : World), Below ((w.alloc (.cells #[.float .f64 P, .float .f64 Q] 28)).alloc o).heap.size ((w.alloc (.cells #[.float .f64 P, .float .f64 Q] 28)).alloc o) W → W.cell? ⟨w.heap.size, 0, none⟩ = some (.float .f64 P) ∧ W.cell? ⟨w.heap.size, 1, none⟩ = some (.float .f64 Q)) := Lib.hid fun o W h1 => by
    have hl := ((listAt_new w _ rfl [.float .f64 P, .float .f64 Q] 28).below (below1 _ o)).below h1
    exact ⟨(hl.2 0 _ rfl).1, (hl.2 1 _ rfl).1⟩
  obtain ⟨n1, hn1⟩ : ∃ n, J + 1 + c.toNat = n := ⟨_, rfl⟩
  obtain ⟨n2, hn2⟩ : ∃ n, J' + 1 + c'.toNat = n := ⟨_, rfl⟩
  rw [hn1] at HM
  rw [hn2] at HM'
  have N1 := Lib.hid hn1
  have N2 := Lib.hid hn2
  have N3 := Lib.hid (show 0 < n1 by omega)
  have N4 := Lib.hid (show 0 < n2 by omega)
  clear hs H55 M M' e1 e2 e3 e4 hn1 hn2
  go_enter Try.func19, Try.ntmps19
  go_upto_region 4 with (first | (go_at_call 22; refine (small_at [x, y, P, Q] true _ _ (by simp) HS.out (by simp)).mono ?_; rintro e w' ⟨rfl, rfl⟩) | (go_at_call 55; refine (H.out _).mono ?_; rintro e w1 ⟨v, v', rfl, hB1, hO, hO'⟩; rw [N1.out] at hO; rw [N2.out] at hO'; obtain ⟨gg, cap, rfl, _, _⟩ := hO.form N3.out; obtain ⟨gg', cap', rfl, _, _⟩ := hO'.form N4.out; obtain ⟨hx0, hy0⟩ := HP0.out _ _ hB1; have HO := Lib.hid hO; have HO' := Lib.hid hO'; have HB1 := Lib.hid hB1; clear hO hO' hB1))
  have A1 : ∀ k, k < n2 → w1.cell? ⟨gg', k, none⟩ = some (.float .f64 (plw F' k)) := fun k hk => by
    have := N2.out
    rw [HO'.out.cellAt k (by omega), plc_at F' _ k (by omega)]
  have A2 : ∀ k, k < n1 → w1.cell? ⟨gg, k, none⟩ = some (.float .f64 (plw F k)) := fun k hk => by
    have := N1.out
    rw [HO.out.cellAt k (by omega), plc_at F _ k (by omega)]
  have T1 := Lib.hid (multiples_run (cap := cap') HM'.out w1 A1)
  have T2 := Lib.hid (multiples_run (cap := cap) HM.out w1 A2)
  clear A1 A2 HO HO' HM HM'
  go_wp2_with (first | (go_at_call 56; with_reducible refine T1.out.mono ?_; rintro e w2 ⟨rfl, rfl⟩) | (go_at_call 56; with_reducible refine T2.out.mono ?_; rintro e w2 ⟨rfl, rfl⟩))
  go_ret
  exact ⟨rfl, (below2 _ _ _).trans (HB1.out.mono (by simp <;> omega))⟩
end Go.Proofs.Ytooghncdhjdcpaa
