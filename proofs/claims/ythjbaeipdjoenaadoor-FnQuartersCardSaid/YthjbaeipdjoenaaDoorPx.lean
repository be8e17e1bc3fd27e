/-
Contract of spec.Proper. No condition.
-/
import Derived.Test.YthjbaeipdjoenaaDoorA1
import Derived.Test.YthjbaeipdjoenaaDoorFx
import Derived.Below
namespace Go.Proofs.YthjbaeipdjoenaaDoor
open Go.RowKit Fl

/-- The words of a proper rectangle. -/
def ProperW (a b c d : Nat) : Prop := ∃ k l m n : Int, R a ((k : Rat) / 64) ∧ R b ((l : Rat) / 64) ∧ R c ((m : Rat) / 64) ∧ R d ((n : Rat) / 64) ∧
  (-640000 ≤ k ∧ k ≤ 640000) ∧ (-640000 ≤ l ∧ l ≤ 640000) ∧ (-640000 ≤ m ∧ m ≤ 640000) ∧ (-640000 ≤ n ∧ n ≤ 640000) ∧ k < m ∧ l < n
open Classical in
noncomputable def properB (a b c d : Nat) : Bool := decide (ProperW a b c d)
theorem properB_true {a b c d : Nat} (h : properB a b c d = true) : ProperW a b c d := by
  classical exact of_decide_eq_true h
theorem properB_of {a b c d : Nat} (h : ProperW a b c d) : properB a b c d = true := by
  classical exact decide_eq_true h
theorem properB_not {a b c d : Nat} (h : ¬ ProperW a b c d) : properB a b c d = false := by
  classical exact decide_eq_false h

theorem small_of {x : Nat} (h : SmallW x) : smallB x = true := smallB_eq ⟨fun _ => rfl, fun _ => h⟩

set_option maxHeartbeats 800000 in
theorem proper_any (a b c d : Nat) (v : Bool) (w : World) (hv : properB a b c d = v) :
    Calls Tryd.prog 10 #[.agg #[.float .f64 a, .float .f64 b, .float .f64 c, .float .f64 d]] w fun e w' => e = .returned (.bool v) ∧ (w.alloc (.cells #[.float .f64 a, .float .f64 b, .float .f64 c, .float .f64 d] 34)).alloc (.cells #[.float .f64 a, .float .f64 b, .float .f64 c, .float .f64 d] 22) = w' := by
  cases hs : [a, b, c, d].all smallB
  · have e : v = false := by
      rw [← hv]
      refine properB_not fun ⟨k, l, m, n, ha, hb, hc, hd, ⟨k1, k2⟩, ⟨l1, l2⟩, ⟨m1, m2⟩, ⟨n1, n2⟩, _⟩ => ?_
      simp [small_of ⟨k, ha, k1, k2⟩, small_of ⟨l, hb, l1, l2⟩, small_of ⟨m, hc, m1, m2⟩, small_of ⟨n, hd, n1, n2⟩] at hs
    subst e
    clear hv
    have HS := Lib.hid hs
    clear hs
    go_enter Tryd.func10, Tryd.ntmps10
    go_wp2_with (go_at_call 6; refine (small_at [a, b, c, d] false _ _ (by simp) HS.out (by simp)).mono ?_; rintro e w' ⟨rfl, rfl⟩)
    go_ret
    exact ⟨rfl, rfl⟩
  · have HS := Lib.hid hs
    simp only [List.all_cons, List.all_nil, Bool.and_true, Bool.and_eq_true] at hs
    obtain ⟨ha, hb, hc, hd⟩ := hs
    obtain ⟨k, ha, k1, k2⟩ := smallB_true ha
    obtain ⟨l, hb, l1, l2⟩ := smallB_true hb
    obtain ⟨m, hc, m1, m2⟩ := smallB_true hc
    obtain ⟨n, hd, n1, n2⟩ := smallB_true hd
    have c1 := f_lss ha hc rfl
    have c2 := f_lss hb hd rfl
    by_cases h1 : (k : Rat) / 64 < (m : Rat) / 64
    · by_cases h2 : (l : Rat) / 64 < (n : Rat) / 64
      · have e : v = true := by
          rw [← hv]
          exact properB_of ⟨k, l, m, n, ha, hb, hc, hd, ⟨k1, k2⟩, ⟨l1, l2⟩, ⟨m1, m2⟩, ⟨n1, n2⟩, lt64.1 h1, lt64.1 h2⟩
        subst e
        rw [decide_eq_true h1] at c1
        rw [decide_eq_true h2] at c2
        clear hv ha hb hc hd h1 h2 k1 k2 l1 l2 m1 m2 n1 n2
        go_enter Tryd.func10, Tryd.ntmps10
        go_wp2_with (go_at_call 6; refine (small_at [a, b, c, d] true _ _ (by simp) HS.out (by simp)).mono ?_; rintro e w' ⟨rfl, rfl⟩)
        go_ret
        exact ⟨rfl, rfl⟩
      · have e : v = false := by
          rw [← hv]
          refine properB_not fun ⟨k', l', m', n', ha', hb', hc', hd', _, _, _, _, _, hlt⟩ => h2 ?_
          rw [hb.unique hb', hd.unique hd']
          exact lt64.2 hlt
        subst e
        rw [decide_eq_true h1] at c1
        rw [decide_eq_false h2] at c2
        clear hv ha hb hc hd h1 h2 k1 k2 l1 l2 m1 m2 n1 n2
        go_enter Tryd.func10, Tryd.ntmps10
        go_wp2_with (go_at_call 6; refine (small_at [a, b, c, d] true _ _ (by simp) HS.out (by simp)).mono ?_; rintro e w' ⟨rfl, rfl⟩)
        go_ret
        exact ⟨rfl, rfl⟩
    · have e : v = false := by
        rw [← hv]
        refine properB_not fun ⟨k', l', m', n', ha', hb', hc', hd', _, _, _, _, hlt, _⟩ => h1 ?_
        rw [ha.unique ha', hc.unique hc']
        exact lt64.2 hlt
      subst e
      rw [decide_eq_false h1] at c1
      clear c2 hv ha hb hc hd h1 k1 k2 l1 l2 m1 m2 n1 n2
      go_enter Tryd.func10, Tryd.ntmps10
      go_wp2_with (go_at_call 6; refine (small_at [a, b, c, d] true _ _ (by simp) HS.out (by simp)).mono ?_; rintro e w' ⟨rfl, rfl⟩)
      go_ret
      exact ⟨rfl, rfl⟩
end Go.Proofs.YthjbaeipdjoenaaDoor
