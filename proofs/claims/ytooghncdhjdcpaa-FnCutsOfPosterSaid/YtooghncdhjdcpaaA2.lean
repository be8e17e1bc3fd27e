/-
Contracts of spec.NearPair, spec.NearRect, spec.Proper. Conditions: for the first two, that Near says yes of each pair.
-/
import Derived.Test.YtooghncdhjdcpaaA1
import Derived.Test.YtooghncdhjdcpaaFx
namespace Go.Proofs.Ytooghncdhjdcpaa
open Go.RowKit Fl

/-- Near says yes of two words. -/
abbrev NearT (x y : Nat) : Prop := ∀ w : World, Calls Try.prog 24 #[.float .f64 x, .float .f64 y] w fun e w' => e = .returned (.bool true) ∧ w = w'

theorem NearT.of {x y : Nat} {v v' M E N F : Rat} (hx : Ap x v M E) (hy : Ap y v' N F) (e : v = v') (h : E + F ≤ 9 / 10000000000 ∧ M + E ≤ 1000000000000) : NearT x y :=
  fun w => near_ap w hx hy e h
theorem NearT.same {x : Nat} {v M E : Rat} (hx : Ap x v M E) (h : M + E ≤ 1000000000000) : NearT x x := fun w => near_same w hx h

theorem bcell {W w1 : World} (hb : Below W.heap.size W w1) : (∀ b o, b < W.heap.size → w1.cell? ⟨b, o, none⟩ = W.cell? ⟨b, o, none⟩) ∧ (∀ b o, b < W.heap.size → w1.frozen? ⟨b, o, none⟩ = W.frozen? ⟨b, o, none⟩) :=
  ⟨fun b o h => hb.cell (p := ⟨b, o, none⟩) h, fun b o h => hb.frozen (p := ⟨b, o, none⟩) h⟩
theorem below2 (w : World) (o1 o2 : Obj) : Below w.heap.size w ((w.alloc o1).alloc o2) := (below1 w o1).alloc (by simp) o2
theorem below3 (w : World) (o1 o2 o3 : Obj) : Below w.heap.size w (((w.alloc o1).alloc o2).alloc o3) := (below2 w o1 o2).alloc (by simp; omega) o3

/-! What a walk's end wants: the world behind it, step by step. -/
theorem bel_alloc {a w : World} (o : Obj) (h : Below a.heap.size a w) : Below a.heap.size a (w.alloc o) := h.alloc h.size o
theorem bel_drew {a w : World} (h : Below a.heap.size a w) : Below a.heap.size a w.drew := h.drew
theorem bel_trans {a w w' : World} (hb : Below w.heap.size w w') (h : Below a.heap.size a w) : Below a.heap.size a w' := h.trans (hb.mono h.size)
theorem bel_set {a w : World} (p : Addr) (v : Value) (hp : a.heap.size ≤ p.block) (h : Below a.heap.size a w) : Below a.heap.size a (w.setCell p v) := h.setCell hp v

theorem nearpair (x y x' y' : Nat) (w : World) (h1 : NearT x x') (h2 : NearT y y') :
    Calls Try.prog 26 #[.agg #[.float .f64 x, .float .f64 y], .agg #[.float .f64 x', .float .f64 y']] w fun e w' => e = .returned (.bool true) ∧ (w.alloc (.cells #[.float .f64 x, .float .f64 y] 28)).alloc (.cells #[.float .f64 x', .float .f64 y'] 28) = w' := by
  have H1 := Lib.hid h1
  have H2 := Lib.hid h2
  clear h1 h2
  go_enter Try.func26, Try.ntmps26
  go_wp2_with (first | (go_at_call 24; (with_reducible refine (H1.out _).mono ?_); rintro e w' ⟨rfl, rfl⟩) | (go_at_call 24; (with_reducible refine (H2.out _).mono ?_); rintro e w' ⟨rfl, rfl⟩))
  go_ret
  exact ⟨rfl, rfl⟩

theorem nearrect (a b c d a' b' c' d' : Nat) (w : World) (h1 : NearT a a') (h2 : NearT b b') (h3 : NearT c c') (h4 : NearT d d') :
    Calls Try.prog 29 #[.agg #[.float .f64 a, .float .f64 b, .float .f64 c, .float .f64 d], .agg #[.float .f64 a', .float .f64 b', .float .f64 c', .float .f64 d']] w fun e w' => e = .returned (.bool true) ∧ (w.alloc (.cells #[.float .f64 a, .float .f64 b, .float .f64 c, .float .f64 d] 36)).alloc (.cells #[.float .f64 a', .float .f64 b', .float .f64 c', .float .f64 d'] 36) = w' := by
  have H1 := Lib.hid h1
  have H2 := Lib.hid h2
  have H3 := Lib.hid h3
  have H4 := Lib.hid h4
  clear h1 h2 h3 h4
  go_enter Try.func29, Try.ntmps29
  go_wp2_with (first | (go_at_call 24; (with_reducible refine (H1.out _).mono ?_); rintro e w' ⟨rfl, rfl⟩) | (go_at_call 24; (with_reducible refine (H2.out _).mono ?_); rintro e w' ⟨rfl, rfl⟩) | (go_at_call 24; (with_reducible refine (H3.out _).mono ?_); rintro e w' ⟨rfl, rfl⟩) | (go_at_call 24; (with_reducible refine (H4.out _).mono ?_); rintro e w' ⟨rfl, rfl⟩))
  go_ret
  exact ⟨rfl, rfl⟩

/-- The words of a proper rectangle. -/
def ProperW (a b c d : Nat) : Prop := ∃ k l m n : Int, R a ((k : Rat) / 64) ∧ R b ((l : Rat) / 64) ∧ R c ((m : Rat) / 64) ∧ R d ((n : Rat) / 64) ∧
  (-640000 ≤ k ∧ k ≤ 640000) ∧ (-640000 ≤ l ∧ l ≤ 640000) ∧ (-640000 ≤ m ∧ m ≤ 640000) ∧ (-640000 ≤ n ∧ n ≤ 640000) ∧ k < m ∧ l < n
open Classical in
noncomputable def properB (a b c d : Nat) : Bool := decide (ProperW a b c d)
theorem properB_true {a b c d : Nat} (h : properB a b c d = true) : ProperW a b c d := by
  classical exact of_decide_eq_true h
theorem properB_of {a b c d : Nat} (h : ProperW a b c d) : properB a b c d = true := by
  classical exact decide_eq_true h
theorem properB_not {a b c d : Nat} (h : ¬ ProperW a b c d) : properB a b c d = false := by
  classical exact decide_eq_false h

theorem small_of {x : Nat} (h : SmallW x) : smallB x = true := smallB_eq ⟨fun _ => rfl, fun _ => h⟩

set_option maxHeartbeats 800000 in
theorem proper_any (a b c d : Nat) (v : Bool) (w : World) (hv : properB a b c d = v) :
    Calls Try.prog 28 #[.agg #[.float .f64 a, .float .f64 b, .float .f64 c, .float .f64 d]] w fun e w' => e = .returned (.bool v) ∧ (w.alloc (.cells #[.float .f64 a, .float .f64 b, .float .f64 c, .float .f64 d] 36)).alloc (.cells #[.float .f64 a, .float .f64 b, .float .f64 c, .float .f64 d] 22) = w' := by
  cases hs : [a, b, c, d].all smallB
  · have e : v = false := by
      rw [← hv]
      refine properB_not fun ⟨k, l, m, n, ha, hb, hc, hd, ⟨k1, k2⟩, ⟨l1, l2⟩, ⟨m1, m2⟩, ⟨n1, n2⟩, _⟩ => ?_
      simp [small_of ⟨k, ha, k1, k2⟩, small_of ⟨l, hb, l1, l2⟩, small_of ⟨m, hc, m1, m2⟩, small_of ⟨n, hd, n1, n2⟩] at hs
    subst e
    clear hv
    have HS := Lib.hid hs
    clear hs
    go_enter Try.func28, Try.ntmps28
    go_wp2_with (go_at_call 22; refine (small_at [a, b, c, d] false _ _ (by simp) HS.out (by simp)).mono ?_; rintro e w' ⟨rfl, rfl⟩)
    go_ret
    exact ⟨rfl, rfl⟩
  · have HS := Lib.hid hs
    simp only [List.all_cons, List.all_nil, Bool.and_true, Bool.and_eq_true] at hs
    obtain ⟨ha, hb, hc, hd⟩ := hs
    obtain ⟨k, ha, k1, k2⟩ := smallB_true ha
    obtain ⟨l, hb, l1, l2⟩ := smallB_true hb
    obtain ⟨m, hc, m1, m2⟩ := smallB_true hc
    obtain ⟨n, hd, n1, n2⟩ := smallB_true hd
    have c1 := f_lss ha hc rfl
    have c2 := f_lss hb hd rfl
    by_cases h1 : (k : Rat) / 64 < (m : Rat) / 64
    · by_cases h2 : (l : Rat) / 64 < (n : Rat) / 64
      · have e : v = true := by
          rw [← hv]
          exact properB_of ⟨k, l, m, n, ha, hb, hc, hd, ⟨k1, k2⟩, ⟨l1, l2⟩, ⟨m1, m2⟩, ⟨n1, n2⟩, lt64.1 h1, lt64.1 h2⟩
        subst e
        rw [decide_eq_true h1] at c1
        rw [decide_eq_true h2] at c2
        clear hv ha hb hc hd h1 h2 k1 k2 l1 l2 m1 m2 n1 n2
        go_enter Try.func28, Try.ntmps28
        go_wp2_with (go_at_call 22; refine (small_at [a, b, c, d] true _ _ (by simp) HS.out (by simp)).mono ?_; rintro e w' ⟨rfl, rfl⟩)
        go_ret
        exact ⟨rfl, rfl⟩
      · have e : v = false := by
          rw [← hv]
          refine properB_not fun ⟨k', l', m', n', ha', hb', hc', hd', _, _, _, _, _, hlt⟩ => h2 ?_
          rw [hb.unique hb', hd.unique hd']
          exact lt64.2 hlt
        subst e
        rw [decide_eq_true h1] at c1
        rw [decide_eq_false h2] at c2
        clear hv ha hb hc hd h1 h2 k1 k2 l1 l2 m1 m2 n1 n2
        go_enter Try.func28, Try.ntmps28
        go_wp2_with (go_at_call 22; refine (small_at [a, b, c, d] true _ _ (by simp) HS.out (by simp)).mono ?_; rintro e w' ⟨rfl, rfl⟩)
        go_ret
        exact ⟨rfl, rfl⟩
    · have e : v = false := by
        rw [← hv]
        refine properB_not fun ⟨k', l', m', n', ha', hb', hc', hd', _, _, _, _, hlt, _⟩ => h1 ?_
        rw [ha.unique ha', hc.unique hc']
        exact lt64.2 hlt
      subst e
      rw [decide_eq_false h1] at c1
      clear c2 hv ha hb hc hd h1 k1 k2 l1 l2 m1 m2 n1 n2
      go_enter Try.func28, Try.ntmps28
      go_wp2_with (go_at_call 22; refine (small_at [a, b, c, d] true _ _ (by simp) HS.out (by simp)).mono ?_; rintro e w' ⟨rfl, rfl⟩)
      go_ret
      exact ⟨rfl, rfl⟩

theorem nearpair_b (x y x' y' : Nat) (w : World) (h1 : NearT x x') (h2 : NearT y y') :
    Calls Try.prog 26 #[.agg #[.float .f64 x, .float .f64 y], .agg #[.float .f64 x', .float .f64 y']] w fun e w' => e = .returned (.bool true) ∧ Below w.heap.size w w' :=
  (nearpair x y x' y' w h1 h2).mono fun _ _ ⟨he, hw⟩ => ⟨he, hw ▸ below2 _ _ _⟩
theorem nearrect_b (a b c d a' b' c' d' : Nat) (w : World) (h1 : NearT a a') (h2 : NearT b b') (h3 : NearT c c') (h4 : NearT d d') :
    Calls Try.prog 29 #[.agg #[.float .f64 a, .float .f64 b, .float .f64 c, .float .f64 d], .agg #[.float .f64 a', .float .f64 b', .float .f64 c', .float .f64 d']] w fun e w' => e = .returned (.bool true) ∧ Below w.heap.size w w' :=
  (nearrect a b c d a' b' c' d' w h1 h2 h3 h4).mono fun _ _ ⟨he, hw⟩ => ⟨he, hw ▸ below2 _ _ _⟩

end Go.Proofs.Ytooghncdhjdcpaa
