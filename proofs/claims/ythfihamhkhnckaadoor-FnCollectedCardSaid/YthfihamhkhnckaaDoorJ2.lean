/-
FnCollected: a part's forms, its reach, its effect: plain. Conditions: at most 1000 pages; a reach that begins and ends at page 1 or above.
-/
import Derived.Test.YthfihamhkhnckaaDoorK12
namespace Go.Proofs.YthfihamhkhnckaaDoor

/-- The forms of a part without its sign: text, kind, first and second number. -/
inductive Body : List UInt8 → Int → Int → Int → Prop
  | last : Body [108] 10 0 0
  | all : Body [45, 108] 6 0 0
  | toLast (ds : List UInt8) (h : Num ds) : Body (45 :: 108 :: 45 :: ds) 7 (val ds : Nat) 0
  | before (ds : List UInt8) (h : Num ds) : Body (108 :: 45 :: ds) 11 (val ds : Nat) 0
  | behind (ds : List UInt8) (h : Num ds) : Body (108 :: 45 :: (ds ++ [45])) 12 (val ds : Nat) 0
  | upTo (ds : List UInt8) (h : Num ds) : Body (45 :: ds) 5 (val ds : Nat) 0
  | page (ds : List UInt8) (h : Num ds) : Body ds 2 (val ds : Nat) 0
  | «from» (ds : List UInt8) (h : Num ds) : Body (ds ++ [45]) 3 (val ds : Nat) 0
  | fromLast (ds : List UInt8) (h : Num ds) : Body (ds ++ [45, 108]) 8 (val ds : Nat) 0
  | fromTo (ds es : List UInt8) (h : Num ds) (h2 : Num es) : Body (ds ++ 45 :: 108 :: 45 :: es) 9 (val ds : Nat) (val es : Nat)
  | range (ds es : List UInt8) (h : Num ds) (h2 : Num es) : Body (ds ++ 45 :: es) 4 (val ds : Nat) (val es : Nat)
/-- The first and the last page that a part is of. -/
def reachOf (k a b n : Int) : Int × Int :=
  if k = 2 then (a, a) else if k = 3 then (a, n) else if k = 8 then (a, n) else if k = 4 then (a, b) else if k = 5 then (1, a) else if k = 6 then (1, n) else if k = 7 then (1, n - a)
  else if k = 9 then (a, n - b) else if k = 10 then (n, n) else if k = 11 then (n - a, n - a) else (n - a, n)
theorem body_norm {v : List UInt8} {k a b : Int} (h : Body v k a b) (n : Nat) (hn : n ≤ 1000) (h1 : 1 ≤ (reachOf k a b n).1) (h2 : 1 ≤ (reachOf k a b n).2) :
    ∃ m : Nat, Norm n v m (reachOf k a b n).1 ∧ m = (min (reachOf k a b n).2 n + 1 - (reachOf k a b n).1).toNat := by
  cases h with
  | last => exact ⟨_, norm_last n hn, by simp [reachOf]⟩
  | all => exact ⟨_, norm_all n hn, by simp [reachOf]⟩
  | toLast ds h => exact ⟨_, norm_toLast n hn ds h, by simp [reachOf] at *; try omega⟩
  | before ds h => exact ⟨_, norm_before n hn ds h, by simp [reachOf] at *; split <;> omega⟩
  | behind ds h => exact ⟨_, norm_behind n hn ds h, by simp [reachOf] at *; split <;> omega⟩
  | upTo ds h => exact ⟨_, norm_to n hn ds h, by simp [reachOf] at *; try omega⟩
  | page ds h => exact ⟨_, normPage n hn _ h, by simp [reachOf] at *; split <;> omega⟩
  | «from» ds h => exact ⟨_, norm_from n hn ds h, by simp [reachOf] at *; try omega⟩
  | fromLast ds h => exact ⟨_, normFromLast n hn ds h, by simp [reachOf] at *; try omega⟩
  | fromTo ds es h g2 => exact ⟨_, normFromTo n hn ds es h g2, by simp [reachOf] at *; try omega⟩
  | range ds es h g2 => exact ⟨_, normRange n hn ds es h g2, by simp [reachOf] at *; try omega⟩
end Go.Proofs.YthfihamhkhnckaaDoor
