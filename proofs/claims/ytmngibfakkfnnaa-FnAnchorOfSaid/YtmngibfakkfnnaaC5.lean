/-
The law FnAnchorOf: the law's own function walked, word by word. Conditions: none.
-/
import Derived.Test.YtmngibfakkfnnaaC5a
import Derived.Test.YtmngibfakkfnnaaC5b
import Derived.Test.YtmngibfakkfnnaaC5c
namespace Go.Proofs.Ytmngibfakkfnnaa
open Go.RowKit Go.ChangeShapes Go.Proofs.YtmngibfakkfnnaaW.PrintWords

theorem anchorOf_out (n : Int) (a b : Bool) (w : World) (h : n < 0 ∨ 9 ≤ n) :
    Calls Try.prog 8 #[.int .i64 n, .bool a, .bool b] w fun e w' => e = .returned (.bool true) ∧ Below w.heap.size w w' := by
  go_enter Try.func8, Try.ntmps8
  by_cases h0 : n < 0
  · go_wp2_with (go_at_call 23; go_in)
    go_ret
    exact ⟨rfl, by repeat (first | (with_reducible exact Below.refl _ _) | (with_reducible apply pw_below_drewN) | (with_reducible apply below_alloc) | (with_reducible apply below_drew1))⟩
  · have h1 : 9 ≤ n := by omega
    go_wp2_with (go_at_call 23; go_in)
    go_ret
    exact ⟨rfl, by repeat (first | (with_reducible exact Below.refl _ _) | (with_reducible apply pw_below_drewN) | (with_reducible apply below_alloc) | (with_reducible apply below_drew1))⟩
/-- The law's walk. -/
theorem anchorOf_walk (n : Int) (a b : Bool) (w : World) :
    Calls Try.prog 8 #[.int .i64 n, .bool a, .bool b] w fun e w' => e = .returned (.bool true) ∧ Below w.heap.size w w' := by
  by_cases h : n < 0 ∨ 9 ≤ n
  · exact anchorOf_out n a b w h
  · obtain rfl | rfl | rfl | rfl | rfl | rfl | rfl | rfl | rfl : n = 0 ∨ n = 1 ∨ n = 2 ∨ n = 3 ∨ n = 4 ∨ n = 5 ∨ n = 6 ∨ n = 7 ∨ n = 8 := by omega
    all_goals cases a <;> cases b
    · exact anchorOf_000 w
    · exact anchorOf_001 w
    · exact anchorOf_010 w
    · exact anchorOf_011 w
    · exact anchorOf_100 w
    · exact anchorOf_101 w
    · exact anchorOf_110 w
    · exact anchorOf_111 w
    · exact anchorOf_200 w
    · exact anchorOf_201 w
    · exact anchorOf_210 w
    · exact anchorOf_211 w
    · exact anchorOf_300 w
    · exact anchorOf_301 w
    · exact anchorOf_310 w
    · exact anchorOf_311 w
    · exact anchorOf_400 w
    · exact anchorOf_401 w
    · exact anchorOf_410 w
    · exact anchorOf_411 w
    · exact anchorOf_500 w
    · exact anchorOf_501 w
    · exact anchorOf_510 w
    · exact anchorOf_511 w
    · exact anchorOf_600 w
    · exact anchorOf_601 w
    · exact anchorOf_610 w
    · exact anchorOf_611 w
    · exact anchorOf_700 w
    · exact anchorOf_701 w
    · exact anchorOf_710 w
    · exact anchorOf_711 w
    · exact anchorOf_800 w
    · exact anchorOf_801 w
    · exact anchorOf_810 w
    · exact anchorOf_811 w
end Go.Proofs.Ytmngibfakkfnnaa
