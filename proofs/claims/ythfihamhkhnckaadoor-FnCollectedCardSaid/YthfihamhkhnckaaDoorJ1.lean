/-
FnCollected, FnSelected, FnRemaining: the specification's reading of digits: plain. Condition: a place in a text.
-/
import Derived.Test.YthfihamhkhnckaaDoorK1
import Derived.Test.YthfihamhkhnckaaDoorPFnCollectedx1
namespace Go.Proofs.YthfihamhkhnckaaDoor
open Go.RowKit Go.ChangeShapes Go.Proofs.YthfihamhkhnckaaDoorW.PrintWords Go.Proofs.YthfihamhkhnckaaDoor.PFnCollected

theorem bt_bs (l : List UInt8) (k : Nat) (h : k < l.length) : bt (bs l) (k : Int) = ((l[k]'h).toNat : Int) := by
  have hs := bs_size l
  unfold bt
  rw [dif_pos (by rw [Int.toNat_natCast]; omega)]
  rfl
theorem wr64 (x : Int) (h0 : 0 ≤ x) (h1 : x < 4611686018427387904) : wrap64 x = x := by unfold wrap64; omega
theorem valFrom_snoc (p : List UInt8) (c : UInt8) : ∀ a, valFrom a (p ++ [c]) = 10 * valFrom a p + (c.toNat - 48) := by
  induction p with
  | nil => intro a; rfl
  | cons x p ih => intro a; exact ih _
/-- What reading digits at a place comes to. -/
def DigitsOk (s a : List UInt8) (n e : Int) (is : Bool) : Prop :=
  ∃ e' : Nat, e = e' ∧ a.length ≤ e' ∧ e' ≤ s.length ∧ (is = true → ∃ q r, s = a ++ (q ++ r) ∧ Num q ∧ n = (val q : Nat) ∧ e' = a.length + q.length)
theorem digits_l0 (s a : List UInt8) (hs : s.length ≤ 2147483647) : ∀ (r p : List UInt8), s = a ++ (p ++ r) → (∀ c ∈ p, dig c) → p.length ≤ 4 →
    ∃ k n e is, spec_digitsAt.l0 k (bs s) (a.length : Int) (val p : Nat) ((a.length + p.length : Nat) : Int) = some (n, e, is) ∧ DigitsOk s a n e is := by
  have stop : ∀ (r p : List UInt8), s = a ++ (p ++ r) → (∀ c ∈ p, dig c) → p.length ≤ 4 → ∃ n e is, spec_digitsAt.j1 1 (bs s) (a.length : Int) (val p : Nat) ((a.length + p.length : Nat) : Int) false = some (n, e, is) ∧ DigitsOk s a n e is := by
    intro r p hsp hd hl
    have hlen : s.length = a.length + (p.length + r.length) := by rw [hsp]; simp
    have hsz := bs_size s
    simp only [spec_digitsAt.j1]
    rw [if_neg (by simp)]
    by_cases hp : p = []
    · subst hp
      rw [if_neg (by simp)]
      exact ⟨_, _, _, rfl, a.length, by simp, by omega, by omega, fun h => by cases h⟩
    · have hpl : 0 < p.length := List.length_pos_iff.2 hp
      rw [if_pos (by omega), if_pos (by omega), if_pos (by omega)]
      refine ⟨_, _, _, rfl, a.length + p.length, rfl, by omega, by omega, fun h => ⟨p, r, hsp, ⟨hp, hl, hd, ?_⟩, rfl, rfl⟩⟩
      intro hh
      rw [bt_bs s a.length (by omega)] at h
      have : s[a.length]'(by omega) = 48 := by
        have h1 : s[a.length]? = p.head? := by rw [hsp, List.getElem?_append_right (Nat.le_refl _)]; cases p with
          | nil => exact absurd rfl hp
          | cons x p => simp
        rw [hh, List.getElem?_eq_getElem (by omega)] at h1
        exact Option.some.inj h1
      rw [this] at h
      exact absurd h (by decide)
  intro r
  induction r with
  | nil =>
    intro p hsp hd hl
    obtain ⟨n, e, is, h1, h2⟩ := stop [] p hsp hd hl
    have hlen : s.length = a.length + p.length := by rw [hsp]; simp
    have hsz := bs_size s
    refine ⟨2, n, e, is, ?_, h2⟩
    rw [spec_digitsAt.l0, if_neg (by omega)]
    exact h1
  | cons c r ih =>
    intro p hsp hd hl
    have hlen : s.length = a.length + (p.length + (r.length + 1)) := by rw [hsp]; simp
    have hsz := bs_size s
    have hb : bt (bs s) ((a.length + p.length : Nat) : Int) = (c.toNat : Int) := by
      rw [bt_bs s _ (by omega)]
      have : s[a.length + p.length]? = some c := by rw [hsp, ← List.append_assoc, List.getElem?_append_right (by simp)]; simp
      rw [List.getElem?_eq_getElem (by omega)] at this
      rw [Option.some.inj this]
    by_cases hc : dig c
    · have hc1 := hc.1
      have hc2 := hc.2
      by_cases h4 : p.length = 4
      · refine ⟨2, 0, a.length, false, ?_, a.length, rfl, by omega, by omega, fun h => by cases h⟩
        rw [spec_digitsAt.l0, if_pos (by omega), if_pos (by omega), hb, if_pos (by omega), decide_eq_true (by omega)]
        rw [spec_digitsAt.j1, if_pos rfl, if_pos (by omega), if_pos (by omega), wr64 (((a.length + p.length : Nat) : Int) + 1) (by omega) (by omega), wr64 (((a.length + p.length : Nat) : Int) + 1 - (a.length : Int)) (by omega) (by omega), if_pos (by omega)]
      · have hval := valFrom_snoc p c 0
        have hv : val p ≤ 9999 := (valFrom_small p 0 0 hd (by omega) (.inl ⟨rfl, rfl⟩)).le
        have hval' : val (p ++ [c]) = 10 * val p + (c.toNat - 48) := hval
        obtain ⟨k, n, e, is, h1, h2⟩ := ih (p ++ [c]) (by rw [hsp]; simp) (by intro x hx; simp at hx; rcases hx with hx | rfl; exact hd x hx; exact hc) (by simp; omega)
        refine ⟨k + 2, n, e, is, ?_, h2⟩
        rw [spec_digitsAt.l0, if_pos (by omega), if_pos (by omega), hb, if_pos (by omega), decide_eq_true (by omega)]
        have hl2 : (((a.length + p.length : Nat) : Int) + 1) = ((a.length + (p ++ [c]).length : Nat) : Int) := by rw [List.length_append, List.length_singleton]; omega
        generalize val (p ++ [c]) = v2 at *
        generalize val p = v1 at *
        have hv2 : 10 * (v1 : Int) + ((c.toNat : Int) - 48) % 256 = (v2 : Int) := by omega
        rw [spec_digitsAt.j1, if_pos rfl, if_pos (by omega), if_pos (by omega), hb]
        rw [wr64 (((a.length + p.length : Nat) : Int) + 1) (by omega) (by omega), wr64 (10 * (v1 : Int)) (by omega) (by omega), hv2, wr64 (v2 : Int) (by omega) (by omega), wr64 (((a.length + p.length : Nat) : Int) + 1 - (a.length : Int)) (by omega) (by omega), if_neg (by omega), hl2]
        exact h1
    · obtain ⟨n, e, is, h1, h2⟩ := stop (c :: r) p hsp hd hl
      refine ⟨2, n, e, is, ?_, h2⟩
      rw [spec_digitsAt.l0, if_pos (by omega), if_pos (by omega), hb]
      by_cases h48 : 48 ≤ c.toNat
      · rw [if_pos (by omega), decide_eq_false (fun h => hc ⟨h48, by omega⟩)]
        exact h1
      · rw [if_neg (by omega)]
        exact h1
theorem digits_calls (a t : List UInt8) (hs : (a ++ t).length ≤ 2147483647) (w : World) :
    Calls Tryd.prog 25 #[.string (bs (a ++ t)), .int .i64 (a.length : Int)] w fun e w' => ∃ n m is, e = .returned (.tuple #[.int .i64 n, .int .i64 m, .bool is]) ∧ DigitsOk (a ++ t) a n m is ∧ Below w.heap.size w w' := by
  obtain ⟨k, n, m, is, h1, h2⟩ := digits_l0 (a ++ t) a hs t [] rfl (by simp) (by simp)
  refine (spec_digitsAt.calls k (bs (a ++ t)) (a.length : Int) n m is w h1).mono ?_
  rintro e w' ⟨rfl, hd⟩
  exact ⟨n, m, is, rfl, h2, hd.below⟩
end Go.Proofs.YthfihamhkhnckaaDoor
