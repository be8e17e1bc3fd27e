/-
The laws FnOriginOf and FnAnchorOf: names of corners and anchors read. Conditions: none but a text that lies in memory.
-/
import Derived.Test.YtmngibfakkfnnaaC1
import Derived.BigQuiet
namespace Go.Proofs.Ytmngibfakkfnnaa
open Go.RowKit Go.ChangeShapes Go.Proofs.YtmngibfakkfnnaaW.PrintWords

def lowered (s : ByteArray) : ByteArray := ⟨(s.data.toList.map small).toArray⟩
theorem lowered_eq (s : ByteArray) : (⟨(s.data.toList.map small).toArray⟩ : ByteArray) = lowered s := rfl

theorem origin_ok_ll (s : ByteArray) (w : World) (hn : s.size ≤ 140737488351232) (h : lowered s = ⟨#[108, 108]⟩) :
    Calls Try.prog 11 #[.string s] w fun e w' => e = .returned (.tuple #[.int .i64 0, .bool true]) ∧ Below w.heap.size w w' := by
  have H := hid (lower_calls s w hn)
  rw [lowered_eq, h] at H
  go_enter Try.func11, Try.ntmps11
  go_wp2_with (first | (go_at_call 42; refine H.out.mono ?_; rintro e w' ⟨rfl, hb⟩) | (go_at_call 28; go_in))
  go_quiet (fail)
  go_wp2
  exact bodyPost_ret (v := .tuple #[_, _]) (by simp [results, Try.results11, go_sem]) rfl ⟨rfl, by repeat (first | (with_reducible exact hb) | (with_reducible apply pw_below_drewN) | (with_reducible apply below_alloc) | (with_reducible apply below_drew1))⟩

theorem origin_ok_lowerleft (s : ByteArray) (w : World) (hn : s.size ≤ 140737488351232) (h : lowered s = ⟨#[108, 111, 119, 101, 114, 108, 101, 102, 116]⟩) :
    Calls Try.prog 11 #[.string s] w fun e w' => e = .returned (.tuple #[.int .i64 0, .bool true]) ∧ Below w.heap.size w w' := by
  have H := hid (lower_calls s w hn)
  rw [lowered_eq, h] at H
  go_enter Try.func11, Try.ntmps11
  go_wp2_with (first | (go_at_call 42; refine H.out.mono ?_; rintro e w' ⟨rfl, hb⟩) | (go_at_call 28; go_in))
  go_quiet (fail)
  go_wp2
  exact bodyPost_ret (v := .tuple #[_, _]) (by simp [results, Try.results11, go_sem]) rfl ⟨rfl, by repeat (first | (with_reducible exact hb) | (with_reducible apply pw_below_drewN) | (with_reducible apply below_alloc) | (with_reducible apply below_drew1))⟩

theorem origin_ok_lr (s : ByteArray) (w : World) (hn : s.size ≤ 140737488351232) (h : lowered s = ⟨#[108, 114]⟩) :
    Calls Try.prog 11 #[.string s] w fun e w' => e = .returned (.tuple #[.int .i64 1, .bool true]) ∧ Below w.heap.size w w' := by
  have H := hid (lower_calls s w hn)
  rw [lowered_eq, h] at H
  go_enter Try.func11, Try.ntmps11
  go_wp2_with (first | (go_at_call 42; refine H.out.mono ?_; rintro e w' ⟨rfl, hb⟩) | (go_at_call 28; go_in))
  go_quiet (fail)
  go_wp2
  exact bodyPost_ret (v := .tuple #[_, _]) (by simp [results, Try.results11, go_sem]) rfl ⟨rfl, by repeat (first | (with_reducible exact hb) | (with_reducible apply pw_below_drewN) | (with_reducible apply below_alloc) | (with_reducible apply below_drew1))⟩

theorem origin_ok_lowerright (s : ByteArray) (w : World) (hn : s.size ≤ 140737488351232) (h : lowered s = ⟨#[108, 111, 119, 101, 114, 114, 105, 103, 104, 116]⟩) :
    Calls Try.prog 11 #[.string s] w fun e w' => e = .returned (.tuple #[.int .i64 1, .bool true]) ∧ Below w.heap.size w w' := by
  have H := hid (lower_calls s w hn)
  rw [lowered_eq, h] at H
  go_enter Try.func11, Try.ntmps11
  go_wp2_with (first | (go_at_call 42; refine H.out.mono ?_; rintro e w' ⟨rfl, hb⟩) | (go_at_call 28; go_in))
  go_quiet (fail)
  go_wp2
  exact bodyPost_ret (v := .tuple #[_, _]) (by simp [results, Try.results11, go_sem]) rfl ⟨rfl, by repeat (first | (with_reducible exact hb) | (with_reducible apply pw_below_drewN) | (with_reducible apply below_alloc) | (with_reducible apply below_drew1))⟩

theorem origin_ok_ul (s : ByteArray) (w : World) (hn : s.size ≤ 140737488351232) (h : lowered s = ⟨#[117, 108]⟩) :
    Calls Try.prog 11 #[.string s] w fun e w' => e = .returned (.tuple #[.int .i64 2, .bool true]) ∧ Below w.heap.size w w' := by
  have H := hid (lower_calls s w hn)
  rw [lowered_eq, h] at H
  go_enter Try.func11, Try.ntmps11
  go_wp2_with (first | (go_at_call 42; refine H.out.mono ?_; rintro e w' ⟨rfl, hb⟩) | (go_at_call 28; go_in))
  go_quiet (fail)
  go_wp2
  exact bodyPost_ret (v := .tuple #[_, _]) (by simp [results, Try.results11, go_sem]) rfl ⟨rfl, by repeat (first | (with_reducible exact hb) | (with_reducible apply pw_below_drewN) | (with_reducible apply below_alloc) | (with_reducible apply below_drew1))⟩

theorem origin_ok_upperleft (s : ByteArray) (w : World) (hn : s.size ≤ 140737488351232) (h : lowered s = ⟨#[117, 112, 112, 101, 114, 108, 101, 102, 116]⟩) :
    Calls Try.prog 11 #[.string s] w fun e w' => e = .returned (.tuple #[.int .i64 2, .bool true]) ∧ Below w.heap.size w w' := by
  have H := hid (lower_calls s w hn)
  rw [lowered_eq, h] at H
  go_enter Try.func11, Try.ntmps11
  go_wp2_with (first | (go_at_call 42; refine H.out.mono ?_; rintro e w' ⟨rfl, hb⟩) | (go_at_call 28; go_in))
  go_quiet (fail)
  go_wp2
  exact bodyPost_ret (v := .tuple #[_, _]) (by simp [results, Try.results11, go_sem]) rfl ⟨rfl, by repeat (first | (with_reducible exact hb) | (with_reducible apply pw_below_drewN) | (with_reducible apply below_alloc) | (with_reducible apply below_drew1))⟩

theorem origin_ok_ur (s : ByteArray) (w : World) (hn : s.size ≤ 140737488351232) (h : lowered s = ⟨#[117, 114]⟩) :
    Calls Try.prog 11 #[.string s] w fun e w' => e = .returned (.tuple #[.int .i64 3, .bool true]) ∧ Below w.heap.size w w' := by
  have H := hid (lower_calls s w hn)
  rw [lowered_eq, h] at H
  go_enter Try.func11, Try.ntmps11
  go_wp2_with (first | (go_at_call 42; refine H.out.mono ?_; rintro e w' ⟨rfl, hb⟩) | (go_at_call 28; go_in))
  go_quiet (fail)
  go_wp2
  exact bodyPost_ret (v := .tuple #[_, _]) (by simp [results, Try.results11, go_sem]) rfl ⟨rfl, by repeat (first | (with_reducible exact hb) | (with_reducible apply pw_below_drewN) | (with_reducible apply below_alloc) | (with_reducible apply below_drew1))⟩

theorem origin_ok_upperright (s : ByteArray) (w : World) (hn : s.size ≤ 140737488351232) (h : lowered s = ⟨#[117, 112, 112, 101, 114, 114, 105, 103, 104, 116]⟩) :
    Calls Try.prog 11 #[.string s] w fun e w' => e = .returned (.tuple #[.int .i64 3, .bool true]) ∧ Below w.heap.size w w' := by
  have H := hid (lower_calls s w hn)
  rw [lowered_eq, h] at H
  go_enter Try.func11, Try.ntmps11
  go_wp2_with (first | (go_at_call 42; refine H.out.mono ?_; rintro e w' ⟨rfl, hb⟩) | (go_at_call 28; go_in))
  go_quiet (fail)
  go_wp2
  exact bodyPost_ret (v := .tuple #[_, _]) (by simp [results, Try.results11, go_sem]) rfl ⟨rfl, by repeat (first | (with_reducible exact hb) | (with_reducible apply pw_below_drewN) | (with_reducible apply below_alloc) | (with_reducible apply below_drew1))⟩

theorem origin_bad (s t : ByteArray) (w : World) (hn : s.size ≤ 140737488351232) (h : lowered s = t) (h0 : (t.toList == [108, 108]) = false) (h1 : (t.toList == [108, 111, 119, 101, 114, 108, 101, 102, 116]) = false) (h2 : (t.toList == [108, 114]) = false) (h3 : (t.toList == [108, 111, 119, 101, 114, 114, 105, 103, 104, 116]) = false) (h4 : (t.toList == [117, 108]) = false) (h5 : (t.toList == [117, 112, 112, 101, 114, 108, 101, 102, 116]) = false) (h6 : (t.toList == [117, 114]) = false) (h7 : (t.toList == [117, 112, 112, 101, 114, 114, 105, 103, 104, 116]) = false) :
    Calls Try.prog 11 #[.string s] w fun e w' => e = .returned (.tuple #[.int .i64 0, .bool false]) ∧ Below w.heap.size w w' := by
  have H := hid (lower_calls s w hn)
  rw [lowered_eq, h] at H
  go_enter Try.func11, Try.ntmps11
  go_wp2_with (first | (go_at_call 42; refine H.out.mono ?_; rintro e w' ⟨rfl, hb⟩) | (go_at_call 28; go_in) | (go_at_call 43; go_in))
  go_quiet (fail)
  go_wp2
  exact bodyPost_ret (v := .tuple #[_, _]) (by simp [results, Try.results11, go_sem]) rfl ⟨rfl, by repeat (first | (with_reducible exact hb) | (with_reducible apply pw_below_drewN) | (with_reducible apply below_alloc) | (with_reducible apply below_drew1))⟩
end Go.Proofs.Ytmngibfakkfnnaa
