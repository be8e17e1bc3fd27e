/-
FnEffective: zzFits2 walked. No condition.
-/
import Derived.Test.YtooghncdhjdcpaaB30
namespace Go.Proofs.Ytooghncdhjdcpaa
open Go.RowKit Fl

/-- How long a list of boxes is, as a value. -/
def LenS (s : Value) (n : Nat) : Prop := (s = .slice none 0 0 ∧ n = 0) ∨ ∃ p cap, s = .slice (some p) n cap
theorem LenS.form {s : Value} {n : Nat} (h : LenS s n) : ∃ a cap, s = .slice a n cap := by
  rcases h with ⟨rfl, rfl⟩ | ⟨p, cap, rfl⟩
  · exact ⟨_, _, rfl⟩
  · exact ⟨_, _, rfl⟩
set_option maxRecDepth 100000 in
theorem fits2 {s0 s1 s2 s3 : Value} {n0 n1 n2 n3 : Nat} (h0 : LenS s0 n0) (h1 : LenS s1 n1) (h2 : LenS s2 n2) (h3 : LenS s3 n3) (w : World) :
    Calls Try.prog 47 #[.agg #[s0, s1, s2, s3]] w fun e w' => e = .returned (.bool (decide (n0 ≤ 2147483647 ∧ n1 ≤ 2147483647 ∧ n2 ≤ 2147483647 ∧ n3 ≤ 2147483647))) ∧ Below w.heap.size w w' := by
  obtain ⟨a0, c0, rfl⟩ := h0.form
  obtain ⟨a1, c1, rfl⟩ := h1.form
  obtain ⟨a2, c2, rfl⟩ := h2.form
  obtain ⟨a3, c3, rfl⟩ := h3.form
  clear h0 h1 h2 h3
  obtain ⟨b, hb⟩ : ∃ b, decide (n0 ≤ 2147483647 ∧ n1 ≤ 2147483647 ∧ n2 ≤ 2147483647 ∧ n3 ≤ 2147483647) = b := ⟨_, rfl⟩
  rw [hb]
  have HB := Lib.hid hb
  clear hb
  go_enter Try.func47, Try.ntmps47
  go_wp2_with fail
  go_loopw [6] (fun i wr => ∃ k : Nat, k ≤ 4 ∧ i = .int .i64 k ∧ Hid (Below w.heap.size w wr ∧ (1 ≤ k → n0 ≤ 2147483647) ∧ (2 ≤ k → n1 ≤ 2147483647) ∧ (3 ≤ k → n2 ≤ 2147483647) ∧ (4 ≤ k → n3 ≤ 2147483647))) (fun i _ => 4 - (intOf i).toNat)
  case atStart => exact ⟨0, Nat.zero_le _, rfl, Lib.hid ⟨below1 _ _, by omega, by omega, by omega, by omega⟩⟩
  case round =>
    obtain ⟨k, hk, rfl, hS⟩ := hrel
    have hk5 : k = 0 ∨ k = 1 ∨ k = 2 ∨ k = 3 ∨ k = 4 := by omega
    rcases hk5 with rfl | rfl | rfl | rfl | rfl
    · by_cases hn : n0 ≤ 2147483647
      · have d : decide ((2147483647 : Int) < (n0 : Int)) = false := by simp; omega
        have HN := Lib.hid hn
        clear hn
        go_wp2_with (refine wpList_index (by rfl) 69 (.tmp 5) (.tmp 6) (by rfl) _ (.int .i64 ((0 : Nat) : Int)) (.slice a0 n0 c0) (by rfl) (by rfl) (idx69 _ 0 _ (by decide) (by rfl) _) ?_)
        go_roundw
        case rel => exact ⟨0 + 1, by omega, by go_num, Lib.hid ⟨hS.out.1, fun _ => HN.out, by omega, by omega, by omega⟩⟩
        case measure => simp [intOf] <;> omega
      · have d : decide ((2147483647 : Int) < (n0 : Int)) = true := by simp; omega
        have e : b = false := by rw [← HB.out]; exact decide_eq_false (fun h => hn h.1)
        subst e
        clear hn
        go_wp2_with (refine wpList_index (by rfl) 69 (.tmp 5) (.tmp 6) (by rfl) _ (.int .i64 ((0 : Nat) : Int)) (.slice a0 n0 c0) (by rfl) (by rfl) (idx69 _ 0 _ (by decide) (by rfl) _) ?_)
        go_ret
        exact ⟨rfl, hS.out.1⟩
    · by_cases hn : n1 ≤ 2147483647
      · have d : decide ((2147483647 : Int) < (n1 : Int)) = false := by simp; omega
        have HN := Lib.hid hn
        clear hn
        go_wp2_with (refine wpList_index (by rfl) 69 (.tmp 5) (.tmp 6) (by rfl) _ (.int .i64 ((1 : Nat) : Int)) (.slice a1 n1 c1) (by rfl) (by rfl) (idx69 _ 1 _ (by decide) (by rfl) _) ?_)
        go_roundw
        case rel => exact ⟨1 + 1, by omega, by go_num, Lib.hid ⟨hS.out.1, fun _ => hS.out.2.1 (by omega), fun _ => HN.out, by omega, by omega⟩⟩
        case measure => simp [intOf] <;> omega
      · have d : decide ((2147483647 : Int) < (n1 : Int)) = true := by simp; omega
        have e : b = false := by rw [← HB.out]; exact decide_eq_false (fun h => hn h.2.1)
        subst e
        clear hn
        go_wp2_with (refine wpList_index (by rfl) 69 (.tmp 5) (.tmp 6) (by rfl) _ (.int .i64 ((1 : Nat) : Int)) (.slice a1 n1 c1) (by rfl) (by rfl) (idx69 _ 1 _ (by decide) (by rfl) _) ?_)
        go_ret
        exact ⟨rfl, hS.out.1⟩
    · by_cases hn : n2 ≤ 2147483647
      · have d : decide ((2147483647 : Int) < (n2 : Int)) = false := by simp; omega
        have HN := Lib.hid hn
        clear hn
        go_wp2_with (refine wpList_index (by rfl) 69 (.tmp 5) (.tmp 6) (by rfl) _ (.int .i64 ((2 : Nat) : Int)) (.slice a2 n2 c2) (by rfl) (by rfl) (idx69 _ 2 _ (by decide) (by rfl) _) ?_)
        go_roundw
        case rel => exact ⟨2 + 1, by omega, by go_num, Lib.hid ⟨hS.out.1, fun _ => hS.out.2.1 (by omega), fun _ => hS.out.2.2.1 (by omega), fun _ => HN.out, by omega⟩⟩
        case measure => simp [intOf] <;> omega
      · have d : decide ((2147483647 : Int) < (n2 : Int)) = true := by simp; omega
        have e : b = false := by rw [← HB.out]; exact decide_eq_false (fun h => hn h.2.2.1)
        subst e
        clear hn
        go_wp2_with (refine wpList_index (by rfl) 69 (.tmp 5) (.tmp 6) (by rfl) _ (.int .i64 ((2 : Nat) : Int)) (.slice a2 n2 c2) (by rfl) (by rfl) (idx69 _ 2 _ (by decide) (by rfl) _) ?_)
        go_ret
        exact ⟨rfl, hS.out.1⟩
    · by_cases hn : n3 ≤ 2147483647
      · have d : decide ((2147483647 : Int) < (n3 : Int)) = false := by simp; omega
        have HN := Lib.hid hn
        clear hn
        go_wp2_with (refine wpList_index (by rfl) 69 (.tmp 5) (.tmp 6) (by rfl) _ (.int .i64 ((3 : Nat) : Int)) (.slice a3 n3 c3) (by rfl) (by rfl) (idx69 _ 3 _ (by decide) (by rfl) _) ?_)
        go_roundw
        case rel => exact ⟨3 + 1, by omega, by go_num, Lib.hid ⟨hS.out.1, fun _ => hS.out.2.1 (by omega), fun _ => hS.out.2.2.1 (by omega), fun _ => hS.out.2.2.2.1 (by omega), fun _ => HN.out⟩⟩
        case measure => simp [intOf] <;> omega
      · have d : decide ((2147483647 : Int) < (n3 : Int)) = true := by simp; omega
        have e : b = false := by rw [← HB.out]; exact decide_eq_false (fun h => hn h.2.2.2)
        subst e
        clear hn
        go_wp2_with (refine wpList_index (by rfl) 69 (.tmp 5) (.tmp 6) (by rfl) _ (.int .i64 ((3 : Nat) : Int)) (.slice a3 n3 c3) (by rfl) (by rfl) (idx69 _ 3 _ (by decide) (by rfl) _) ?_)
        go_ret
        exact ⟨rfl, hS.out.1⟩
    · have e : b = true := by rw [← HB.out]; exact decide_eq_true ⟨hS.out.2.1 (by omega), hS.out.2.2.1 (by omega), hS.out.2.2.2.1 (by omega), hS.out.2.2.2.2 (by omega)⟩
      subst e
      go_wp2_with fail
      go_ret
      exact ⟨rfl, hS.out.1⟩
end Go.Proofs.Ytooghncdhjdcpaa
