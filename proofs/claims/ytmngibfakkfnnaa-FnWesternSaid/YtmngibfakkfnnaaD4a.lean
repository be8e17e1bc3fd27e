/-
The law FnWestern: the reference's table, looked into at each of its places. Conditions: none.
-/
import Derived.Test.YtmngibfakkfnnaaFm
namespace Go.Proofs.Ytmngibfakkfnnaa
open Go.RowKit Go.ChangeShapes

set_option maxHeartbeats 4000000 in
theorem spec_other (b : Int) (w : World) (h0 : 128 ≤ b) (h1 : b < 160) :
    Calls Try.prog 17 #[.int .u8 b] w fun e w' => (∃ r, e = .returned (.int .i32 r)) ∧ Below w.heap.size w w' := by
  obtain rfl | rfl | rfl | rfl | rfl | rfl | rfl | rfl | rfl | rfl | rfl | rfl | rfl | rfl | rfl | rfl | rfl | rfl | rfl | rfl | rfl | rfl | rfl | rfl | rfl | rfl | rfl | rfl | rfl | rfl | rfl | rfl : b = 128 ∨ b = 129 ∨ b = 130 ∨ b = 131 ∨ b = 132 ∨ b = 133 ∨ b = 134 ∨ b = 135 ∨ b = 136 ∨ b = 137 ∨ b = 138 ∨ b = 139 ∨ b = 140 ∨ b = 141 ∨ b = 142 ∨ b = 143 ∨ b = 144 ∨ b = 145 ∨ b = 146 ∨ b = 147 ∨ b = 148 ∨ b = 149 ∨ b = 150 ∨ b = 151 ∨ b = 152 ∨ b = 153 ∨ b = 154 ∨ b = 155 ∨ b = 156 ∨ b = 157 ∨ b = 158 ∨ b = 159 := by omega
  all_goals
    clear h0 h1
    go_enter Try.func17, Try.ntmps17
    go_wp2
    go_ret
    exact ⟨⟨_, rfl⟩, (Below.refl _ _).alloc (Nat.le_refl _) _⟩
end Go.Proofs.Ytmngibfakkfnnaa
