/-
The law FnLines, the plain part: the reference's lines are the program's. Conditions: bytes, of bounded number.
-/
import Derived.Test.YtmngibfakkfnnaaPFnLinesx1
import Derived.Test.YtmngibfakkfnnaaG1
namespace Go.Proofs.Ytmngibfakkfnnaa
open Go.RowKit Go.Proofs.Ytmngibfakkfnnaa.PFnLines Go.Proofs.YtmngibfakkfnnaaW.PrintWords

theorem idx_eq (c : Int) : ∀ (X : List Int) (p : Nat) (h : p < X.length), X[p] = c → (∀ j (hj : j < p), X[j] ≠ c) → idx c X = p
  | [], _, h, _, _ => by simp at h
  | x :: r, 0, _, he, _ => by simp at he; simp [idx, he]
  | x :: r, p + 1, h, he, hn => by
    have h0 : x ≠ c := by simpa using hn 0 (by omega)
    have ih := idx_eq c r p (by simpa using h) (by simpa using he) (fun j hj => by simpa using hn (j + 1) (by omega))
    simp only [idx]
    rw [if_neg h0, ih, if_neg (by omega)]
    omega
theorem idx_from (c : Int) : ∀ (X : List Int) (p : Nat), (∀ j (h : j < X.length), j < p → X[j] ≠ c) → idx c X = -1 ∨ (p : Int) ≤ idx c X
  | [], _, _ => .inl rfl
  | x :: r, 0, _ => by have := idx_bounds c (x :: r); omega
  | x :: r, p + 1, hn => by
    have h0 : x ≠ c := hn 0 (by simp) (by omega)
    have ih := idx_from c r p (fun j h hj => hn (j + 1) (by simp only [List.length_cons]; omega) (by omega))
    have := idx_bounds c r
    simp only [idx]
    rw [if_neg h0]
    split
    · exact .inl rfl
    · right; omega
theorem idx_at (c : Int) : ∀ (X : List Int) (p : Nat), idx c X = p → ∃ h : p < X.length, X[p] = c
  | [], _, h => by simp [idx] at h
  | x :: r, p, h => by
    simp only [idx] at h
    by_cases h0 : x = c
    · rw [if_pos h0] at h
      obtain rfl : p = 0 := by omega
      exact ⟨by simp, by simpa using h0⟩
    · rw [if_neg h0] at h
      split at h
      · omega
      · obtain ⟨q, rfl⟩ : ∃ q, p = q + 1 := ⟨p - 1, by have := idx_bounds c r; omega⟩
        obtain ⟨h1, h2⟩ := idx_at c r q (by omega)
        exact ⟨by simp; omega, by simpa using h2⟩

/-- No line end ahead of p. -/
def calmTo (X : List Int) (p : Nat) : Prop := ∀ j (h : j < X.length), j < p → X[j] ≠ 13 ∧ X[j] ≠ 10

theorem next_none (X : List Int) (h : calmTo X X.length) : nextLine X = ((X.length : Int), (X.length : Int)) := by
  have a : idx 13 X = -1 := by
    rcases idx_from 13 X X.length (fun j hj hp => (h j hj hp).1) with h | h
    · exact h
    · have := idx_bounds 13 X; omega
  have b : idx 10 X = -1 := by
    rcases idx_from 10 X X.length (fun j hj hp => (h j hj hp).2) with h | h
    · exact h
    · have := idx_bounds 10 X; omega
  unfold nextLine
  rw [a, b]
  simp
theorem next_10 (X : List Int) (p : Nat) (hp : p < X.length) (h : calmTo X p) (he : X[p] = 10) : nextLine X = ((p : Int) + 1, (p : Int)) := by
  have b : idx 10 X = p := idx_eq 10 X p hp he (fun j hj => (h j (by omega) hj).2)
  have a : idx 13 X = -1 ∨ (p : Int) + 1 ≤ idx 13 X := by
    rcases idx_from 13 X (p + 1) (fun j hj hjp => by
      rcases Nat.lt_or_ge j p with h' | h'
      · exact (h j hj h').1
      · obtain rfl : j = p := by omega
        rw [he]; decide) with h | h
    · exact .inl h
    · right; omega
  unfold nextLine
  rw [b]
  rcases a with a | a
  · rw [a, if_neg (by omega), if_pos (by omega)]
  · rw [if_pos (by omega), if_pos (by omega), if_neg (by omega)]
theorem next_13 (X : List Int) (p : Nat) (hp : p < X.length) (h : calmTo X p) (he : X[p] = 13) :
    nextLine X = (if ∃ h' : p + 1 < X.length, X[p + 1] = 10 then (p : Int) + 2 else (p : Int) + 1, (p : Int)) := by
  have a : idx 13 X = p := idx_eq 13 X p hp he (fun j hj => (h j (by omega) hj).1)
  have b : idx 10 X = -1 ∨ (p : Int) + 1 ≤ idx 10 X := by
    rcases idx_from 10 X (p + 1) (fun j hj hjp => by
      rcases Nat.lt_or_ge j p with h' | h'
      · exact (h j hj h').2
      · obtain rfl : j = p := by omega
        rw [he]; decide) with h | h
    · exact .inl h
    · right; omega
  by_cases hn : ∃ h' : p + 1 < X.length, X[p + 1] = 10
  · obtain ⟨h', e'⟩ := hn
    have b' : idx 10 X = ((p + 1 : Nat) : Int) := idx_eq 10 X (p + 1) h' e' (fun j hj => by
      rcases Nat.lt_or_ge j p with h'' | h''
      · exact (h j (by omega) h'').2
      · obtain rfl : j = p := by omega
        rw [he]; decide)
    rw [if_pos ⟨h', e'⟩]
    unfold nextLine
    rw [a, b', if_pos (by omega), if_pos (by omega), if_pos (by omega), if_pos (by omega)]
  · rw [if_neg hn]
    unfold nextLine
    rw [a, if_pos (by omega)]
    by_cases hb : 0 ≤ idx 10 X
    · have hne : ¬ ((p : Int) + 1 = idx 10 X) := fun e => by
        obtain ⟨h', e'⟩ := idx_at 10 X (p + 1) (by omega)
        exact hn ⟨h', e'⟩
      rw [if_pos hb, if_pos (by omega), if_neg hne]
    · rw [if_neg hb]
theorem linesF_nil (k : Nat) : linesF k [] = [] := by cases k <;> rfl

theorem wrapg {i : Nat} (h : i ≤ 2000) : wrap64 ((i : Int) + 1) = ((i + 1 : Nat) : Int) := by
  unfold wrap64
  omega

theorem spec_loop (D : List Int) (hn : D.length ≤ 1000) (d : Nat) : ∀ (i fr : Nat) (out : List (List Int)) (k : Nat), i + d = D.length → fr ≤ i → out.length ≤ fr → calmTo (D.drop fr) (i - fr) → 2 * d + 1 ≤ k →
    spec_Lines.l0 k D out (fr : Int) (i : Int) = some (out ++ linesF (D.length - fr) (D.drop fr)) := by
  induction d using Nat.strongRecOn with
  | ind d ih =>
    intro i fr out k hi hfr hout hc hk
    obtain ⟨k, rfl⟩ : ∃ m, k = m + 1 := ⟨k - 1, by omega⟩
    have hlen : (D.drop fr).length = D.length - fr := List.length_drop
    by_cases hd : d = 0
    · subst hd
      simp only [spec_Lines.l0]
      rw [if_neg (by omega)]
      by_cases hf : fr < D.length
      · rw [if_pos (by omega), if_pos (by omega), if_pos (by omega), if_pos (by omega)]
        have := linesF_step D fr hf
        rw [next_none (D.drop fr) (by rw [hlen]; have e : D.length - fr = i - fr := by omega
                                      rw [e]; exact hc)] at this
        rw [this]
        simp only [Int.toNat_natCast, hlen, show fr + (D.length - fr) = D.length by omega, List.drop_length, Nat.sub_self]
        rw [linesF_nil, List.take_of_length_le (by omega)]
      · rw [if_neg (by omega)]
        obtain rfl : fr = D.length := by omega
        rw [List.drop_length, linesF_nil, List.append_nil]
    · have hlt : i < D.length := by omega
      have hrd : rd D (i : Int) = D[i] := by rw [rd, Int.toNat_natCast, List.getD_eq_getElem?_getD, List.getElem?_eq_getElem hlt]; rfl
      have hX : ∀ (q : Nat) (hq : fr + q < D.length), (D.drop fr)[q]'(by omega) = D[fr + q] := fun q hq => List.getElem_drop ..
      obtain ⟨k, rfl⟩ : ∃ m, k = m + 1 := ⟨k - 1, by omega⟩
      have w1 := hidg (wrapg (i := i) (by omega))
      have w2 := hidg (wrapg (i := i + 1) (by omega))
      have hline : List.drop ((fr : Int)).toNat (List.take ((i : Int)).toNat D) = (D.drop fr).take (i - fr) := by rw [Int.toNat_natCast, Int.toNat_natCast, List.drop_take]
      by_cases e13 : D[i] = 13
      · have hp : (D.drop fr)[i - fr]'(by omega) = 13 := by rw [hX (i - fr) (by omega)]; simp only [show fr + (i - fr) = i by omega]; exact e13
        have hnl := next_13 (D.drop fr) (i - fr) (by omega) hc hp
        have hst := linesF_step D fr (by omega)
        rw [hnl] at hst
        simp only [spec_Lines.l0, spec_Lines.j1]
        rw [if_pos (by omega), if_pos (by omega), hrd, if_pos e13, if_neg (by simp), if_pos (by omega), if_pos (by omega), if_pos (by omega), if_pos (by omega), Option.bind_some, if_pos (by omega), if_pos (by omega), if_pos e13, w1.out, hline]
        by_cases hn1 : i + 1 < D.length
        · have hrd1 : rd D ((i + 1 : Nat) : Int) = D[i + 1] := by simp only [rd, Int.toNat_natCast]; rw [List.getD_eq_getElem?_getD, List.getElem?_eq_getElem hn1]; rfl
          rw [if_pos (by omega), if_pos (by omega), hrd1]
          by_cases e10 : D[i + 1] = 10
          · have hex : ∃ h' : i - fr + 1 < (D.drop fr).length, (D.drop fr)[i - fr + 1] = 10 := ⟨by omega, by rw [hX (i - fr + 1) (by omega)]; simp only [show fr + (i - fr + 1) = i + 1 by omega]; exact e10⟩
            rw [if_pos e10, w2.out, ih (d - 2) (by omega) (i + 2) (i + 2) _ k (by omega) (Nat.le_refl _) (by simp; omega) (fun j h hj => by omega) (by omega), hst, if_pos hex]
            have e : fr + (((i - fr : Nat) : Int) + 2).toNat = i + 2 := by omega
            simp only [Int.toNat_natCast, e, List.append_assoc, List.cons_append, List.nil_append]
          · have hex : ¬ ∃ h' : i - fr + 1 < (D.drop fr).length, (D.drop fr)[i - fr + 1] = 10 := fun ⟨h', e'⟩ => by
              rw [hX (i - fr + 1) (by omega)] at e'
              simp only [show fr + (i - fr + 1) = i + 1 by omega] at e'
              exact e10 e'
            rw [if_neg e10, ih (d - 1) (by omega) (i + 1) (i + 1) _ k (by omega) (Nat.le_refl _) (by simp; omega) (fun j h hj => by omega) (by omega), hst, if_neg hex]
            have e : fr + (((i - fr : Nat) : Int) + 1).toNat = i + 1 := by omega
            simp only [Int.toNat_natCast, e, List.append_assoc, List.cons_append, List.nil_append]
        · have hex : ¬ ∃ h' : i - fr + 1 < (D.drop fr).length, (D.drop fr)[i - fr + 1] = 10 := fun ⟨h', _⟩ => by omega
          rw [if_neg (by omega), ih (d - 1) (by omega) (i + 1) (i + 1) _ k (by omega) (Nat.le_refl _) (by simp; omega) (fun j h hj => by omega) (by omega), hst, if_neg hex]
          have e : fr + (((i - fr : Nat) : Int) + 1).toNat = i + 1 := by omega
          simp only [Int.toNat_natCast, e, List.append_assoc, List.cons_append, List.nil_append]
      · by_cases e10 : D[i] = 10
        · have hp : (D.drop fr)[i - fr]'(by omega) = 10 := by rw [hX (i - fr) (by omega)]; simp only [show fr + (i - fr) = i by omega]; exact e10
          have hnl := next_10 (D.drop fr) (i - fr) (by omega) hc hp
          have hst := linesF_step D fr (by omega)
          rw [hnl] at hst
          have hb : (D[i] != 10) = false := by simpa using e10
          simp only [spec_Lines.l0, spec_Lines.j1]
          rw [if_pos (by omega), if_pos (by omega), hrd, if_neg e13, hb, if_neg (by simp), if_pos (by omega), if_pos (by omega), if_pos (by omega), if_pos (by omega), Option.bind_some, if_pos (by omega), if_pos (by omega), if_neg e13, w1.out, hline]
          rw [ih (d - 1) (by omega) (i + 1) (i + 1) _ k (by omega) (Nat.le_refl _) (by simp; omega) (fun j h hj => by omega) (by omega), hst]
          have e : fr + (((i - fr : Nat) : Int) + 1).toNat = i + 1 := by omega
          simp only [Int.toNat_natCast, e, List.append_assoc, List.cons_append, List.nil_append]
        · have hb : (D[i] != 10) = true := by simpa using e10
          simp only [spec_Lines.l0, spec_Lines.j1]
          rw [if_pos (by omega), if_pos (by omega), hrd, if_neg e13, hb, if_pos rfl, w1.out]
          exact ih (d - 1) (by omega) (i + 1) fr out k (by omega) (by omega) hout (fun j h hj => by
            rcases Nat.lt_or_ge j (i - fr) with h' | h'
            · exact hc j h h'
            · obtain rfl : j = i - fr := by omega
              rw [hX (i - fr) (by omega)]
              simp only [show fr + (i - fr) = i by omega]
              exact ⟨e13, e10⟩) (by omega)
theorem spec_lines (D : List Int) (hn : D.length ≤ 1000) : spec_Lines.f (2 * D.length + 1) D = some (linesF D.length D) := by
  unfold spec_Lines.f
  have := spec_loop D hn D.length 0 0 [] (2 * D.length + 1) (by omega) (Nat.le_refl _) (by simp) (fun j _ hj => by omega) (by omega)
  simpa using this
end Go.Proofs.Ytmngibfakkfnnaa
