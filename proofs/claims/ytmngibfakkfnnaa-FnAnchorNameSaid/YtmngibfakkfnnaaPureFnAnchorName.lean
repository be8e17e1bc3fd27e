/-
The law FnAnchorName answers true at every input: the name that the program gives an anchor is the word in the law's list. Conditions: none.
-/
import Derived.Test.YtmngibfakkfnnaaPFnAnchorNamex1
import Derived.KernelRfl
namespace Go.Proofs.Ytmngibfakkfnnaa.Pure
open Go.RowKit Go.Proofs.Ytmngibfakkfnnaa.PFnAnchorName Go.Proofs.YtmngibfakkfnnaaW.PrintWords Go.Proofs.YtmngibfakkfnnaaW.PrintLast

theorem FnAnchorName : laws_FnAnchorName.Pure := by
  intro a h
  by_cases h0 : a < 0
  · unfold laws_FnAnchorName.f; simp [h0]
  · by_cases h1 : a ≥ 10
    · unfold laws_FnAnchorName.f; simp [h0, h1]
    · obtain rfl | rfl | rfl | rfl | rfl | rfl | rfl | rfl | rfl | rfl : a = 0 ∨ a = 1 ∨ a = 2 ∨ a = 3 ∨ a = 4 ∨ a = 5 ∨ a = 6 ∨ a = 7 ∨ a = 8 ∨ a = 9 := by omega
      · have h : laws_FnAnchorName.f 0 = some true := by kernel_rfl
        exact h
      · have h : laws_FnAnchorName.f 1 = some true := by kernel_rfl
        exact h
      · have h : laws_FnAnchorName.f 2 = some true := by kernel_rfl
        exact h
      · have h : laws_FnAnchorName.f 3 = some true := by kernel_rfl
        exact h
      · have h : laws_FnAnchorName.f 4 = some true := by kernel_rfl
        exact h
      · have h : laws_FnAnchorName.f 5 = some true := by kernel_rfl
        exact h
      · have h : laws_FnAnchorName.f 6 = some true := by kernel_rfl
        exact h
      · have h : laws_FnAnchorName.f 7 = some true := by kernel_rfl
        exact h
      · have h : laws_FnAnchorName.f 8 = some true := by kernel_rfl
        exact h
      · have h : laws_FnAnchorName.f 9 = some true := by kernel_rfl
        exact h

end Go.Proofs.Ytmngibfakkfnnaa.Pure
