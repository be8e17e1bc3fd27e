/-
What sine and cosine come to at whole degrees: two finite words whose squares make 1 but for 1e-15.
-/
import Derived.Test.YthjbaeipdjoenaaDoorS4
namespace Go.Proofs.YthjbaeipdjoenaaDoor
open Go Ieee Fl

theorem ratOf_R {x : Nat} {q : Rat} (h : ratOf x = some q) : R x q := by
  unfold ratOf at h
  split at h
  · rename_i s m e he
    exact ⟨s, m, e, he, (Option.some.inj h).symm⟩
  · cases h
/-- A word of radians is fine. -/
def radOk (x : Nat) : Bool := decide (x < 18446744073709551616) && match ratOf x, ratOf (x % 9223372036854775808) with
  | some q, some q' => decide (q' = ab q) && decide (q' ≤ 100000)
  | _, _ => false
def scOk (s c : Nat) : Bool := match ratOf s, ratOf c with
  | some a, some b => decide (ab a ≤ 1001 / 1000) && decide (ab b ≤ 1001 / 1000) && decide (ab (a * a + b * b - 1) ≤ 1 / 1000000000000000)
  | _, _ => false
def degOk (n : Int) : Bool := match rad n with
  | none => false
  | some x => radOk x && match sinW x, cosW x with
    | some s, some c => scOk s c
    | _, _ => false
/-- What a degree's words are. -/
structure Turn (n : Int) (x s c : Nat) (q a b : Rat) : Prop where
  rad : rad n = some x
  word : x < 18446744073709551616
  val : R x q
  abs : R (x % 9223372036854775808) (ab q)
  small : ab q ≤ 100000
  sin : sinW x = some s
  cos : cosW x = some c
  sinR : R s a
  cosR : R c b
  sinB : ab a ≤ 1001 / 1000
  cosB : ab b ≤ 1001 / 1000
  one : ab (a * a + b * b - 1) ≤ 1 / 1000000000000000
theorem turn_of {n : Int} (h : degOk n = true) : ∃ x s c q a b, Turn n x s c q a b := by
  unfold degOk at h
  split at h
  · cases h
  · rename_i x hx
    rw [Bool.and_eq_true] at h
    obtain ⟨h1, h2⟩ := h
    unfold radOk at h1
    rw [Bool.and_eq_true, decide_eq_true_iff] at h1
    obtain ⟨h1, h3⟩ := h1
    split at h3
    · rename_i q q' hq hq'
      rw [Bool.and_eq_true, decide_eq_true_iff, decide_eq_true_iff] at h3
      obtain ⟨rfl, h4⟩ := h3
      split at h2
      · rename_i s c hs hc
        unfold scOk at h2
        split at h2
        · rename_i a b ha hb
          simp only [Bool.and_eq_true, decide_eq_true_iff] at h2
          exact ⟨x, s, c, q, a, b, hx, h1, ratOf_R hq, ratOf_R hq', h4, hs, hc, ratOf_R ha, ratOf_R hb, h2.1.1, h2.1.2, h2.2⟩
        · cases h2
      · cases h2
    · cases h3
end Go.Proofs.YthjbaeipdjoenaaDoor
