/-
The specification's pages of a part: its reach; its effect. Conditions: numbers of at most four digits; at most 1000 pages.
-/
import Derived.Test.YthfihamhkhnckaaDoorJ8
import Derived.Test.YthfihamhkhnckaaDoorPFnCollectedx3
import Derived.Test.YthfihamhkhnckaaDoorK8
namespace Go.Proofs.YthfihamhkhnckaaDoor
open Go.RowKit Go.ChangeShapes Go.Proofs.YthfihamhkhnckaaDoorW.PrintWords Go.Proofs.YthfihamhkhnckaaDoor.PFnCollected

theorem Num.val_small {ds : List UInt8} (h : Num ds) : (val ds : Int) ≤ 9999 := by
  have h4 := h.four
  have := (valFrom_small ds 0 0 h.all (by omega) (.inl ⟨rfl, rfl⟩)).le
  have h2 : val ds ≤ 9999 := this
  omega
theorem Body.bounds {v : List UInt8} {k a b : Int} (h : Body v k a b) : 2 ≤ k ∧ k ≤ 12 ∧ 0 ≤ a ∧ a ≤ 9999 ∧ 0 ≤ b ∧ b ≤ 9999 := by
  cases h with
  | last => decide
  | all => decide
  | toLast ds h => have := h.val_small; omega
  | before ds h => have := h.val_small; omega
  | behind ds h => have := h.val_small; omega
  | upTo ds h => have := h.val_small; omega
  | page ds h => have := h.val_small; omega
  | «from» ds h => have := h.val_small; omega
  | fromLast ds h => have := h.val_small; omega
  | fromTo ds es h g => have := h.val_small; have := g.val_small; omega
  | range ds es h g => have := h.val_small; have := g.val_small; omega
theorem reach_calls {v : List UInt8} {k a b : Int} (h : Body v k a b) (aw : Bool) (n : Nat) (hn : n ≤ 1000) (w : World) :
    Calls Tryd.prog 15 #[tokV k a b aw, .int .i64 (n : Int)] w fun e w' => e = .returned (.tuple #[.int .i64 (reachOf k a b n).1, .int .i64 (reachOf k a b n).2]) ∧ Below w.heap.size w w' := by
  have hb := h.bounds
  have wa : wrap64 ((n : Int) - a) = n - a := by unfold wrap64; omega
  have wb : wrap64 ((n : Int) - b) = n - b := by unfold wrap64; omega
  refine spec_token_reach.calls 1 k a b aw n _ _ w ?_
  cases h <;> simp [spec_token_reach.f, spec_token_reach.j0, reachOf, wa, wb]
/-- A part that claims pages has its effect. -/
theorem Body.norm {v : List UInt8} {k a b : Int} (h : Body v k a b) (n : Nat) (hn : n ≤ 1000) (h1 : 1 ≤ (reachOf k a b n).1) (h2 : 1 ≤ (reachOf k a b n).2) :
    Norm n v (min (reachOf k a b n).2 n + 1 - (reachOf k a b n).1).toNat (reachOf k a b n).1 := by
  obtain ⟨m, hm, rfl⟩ := body_norm h n hn h1 h2
  exact hm
/-- What a part that is read says of its text: no even, no odd. -/
theorem Tok.effect {s : List UInt8} {k a b : Int} {aw : Bool} (h : Tok s k a b aw) (h0 : k ≠ 0) (h1 : k ≠ 1) : ∃ v, Body v k a b ∧ ∀ (n m : Nat) (p : Int), Norm n v m p → Eff n s (procN aw m p) := by
  cases h with
  | even => exact absurd rfl h0
  | odd => exact absurd rfl h1
  | plain h => exact ⟨_, h, fun n m p hN => hN.eff⟩
  | away x hx h => exact ⟨_, h, fun n m p hN => hN.away x hx⟩
theorem Run.snoc {n : Nat} {ts : List (List UInt8)} {M : Nat → List Int} {k : Nat} (h : Run n (ts.take k) M) (hk : k < ts.length) {F : List Int → List Int} (hF : Eff n (ts[k]'hk) F) :
    ∃ M', Run n (ts.take (k + 1)) M' ∧ M' (k + 1) = F (M k) := by
  refine ⟨fun i => if i ≤ k then M i else F (M k), ⟨by simpa using h.zero, fun i hi => ?_⟩, if_neg (by omega)⟩
  rw [List.length_take] at hi
  by_cases hik : i < k
  · obtain ⟨G, hG, he⟩ := h.step i (by rw [List.length_take]; omega)
    refine ⟨G, ?_, ?_⟩
    · rw [List.getElem_take] at hG ⊢
      exact hG
    · show (if i + 1 ≤ k then M (i + 1) else F (M k)) = G (if i ≤ k then M i else F (M k))
      rw [if_pos (by omega), if_pos (by omega), he]
  · obtain rfl : i = k := by omega
    refine ⟨F, ?_, ?_⟩
    · rw [List.getElem_take]
      exact hF
    · show (if i + 1 ≤ i then M (i + 1) else F (M i)) = F (if i ≤ i then M i else F (M i))
      rw [if_neg (by omega), if_pos (Nat.le_refl _)]
end Go.Proofs.YthfihamhkhnckaaDoor
