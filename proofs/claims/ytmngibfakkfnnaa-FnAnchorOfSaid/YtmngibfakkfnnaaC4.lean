/-
The law FnAnchorOf: names of anchors and of positions read. Conditions: none but a text that lies in memory.
-/
import Derived.Test.YtmngibfakkfnnaaC2
namespace Go.Proofs.Ytmngibfakkfnnaa
open Go.RowKit Go.ChangeShapes Go.Proofs.YtmngibfakkfnnaaW.PrintWords

theorem anchor_ok_tl (s : ByteArray) (w : World) (hn : s.size ≤ 140737488351232) (h : lowered s = ⟨#[116, 108]⟩) :
    Calls Try.prog 25 #[.string s] w fun e w' => e = .returned (.tuple #[.int .i64 0, .bool true]) ∧ Below w.heap.size w w' := by
  have H := hid (lower_calls s w hn)
  rw [lowered_eq, h] at H
  go_enter Try.func25, Try.ntmps25
  go_wp2_with (first | (go_at_call 42; refine H.out.mono ?_; rintro e w' ⟨rfl, hb⟩) | (go_at_call 37; go_in))
  go_quiet (fail)
  go_wp2
  exact bodyPost_ret (v := .tuple #[_, _]) (by simp [results, Try.results25, go_sem]) rfl ⟨rfl, by repeat (first | (with_reducible exact hb) | (with_reducible exact Below.refl _ _) | (with_reducible apply pw_below_drewN) | (with_reducible apply below_alloc) | (with_reducible apply below_drew1))⟩
theorem position_ok_tl (w : World) :
    Calls Try.prog 24 #[.string ⟨#[116, 108]⟩] w fun e w' => e = .returned (.tuple #[.int .i64 0, .bool true]) ∧ Below w.heap.size w w' := by
  go_enter Try.func24, Try.ntmps24
  go_wp2_with (go_at_call 36; go_in)
  go_quiet (fail)
  go_wp2
  exact bodyPost_ret (v := .tuple #[_, _]) (by simp [results, Try.results24, go_sem]) rfl ⟨rfl, by repeat (first | (with_reducible exact hb) | (with_reducible exact Below.refl _ _) | (with_reducible apply pw_below_drewN) | (with_reducible apply below_alloc) | (with_reducible apply below_drew1))⟩

theorem anchor_ok_topleft (s : ByteArray) (w : World) (hn : s.size ≤ 140737488351232) (h : lowered s = ⟨#[116, 111, 112, 108, 101, 102, 116]⟩) :
    Calls Try.prog 25 #[.string s] w fun e w' => e = .returned (.tuple #[.int .i64 0, .bool true]) ∧ Below w.heap.size w w' := by
  have H := hid (lower_calls s w hn)
  rw [lowered_eq, h] at H
  go_enter Try.func25, Try.ntmps25
  go_wp2_with (first | (go_at_call 42; refine H.out.mono ?_; rintro e w' ⟨rfl, hb⟩) | (go_at_call 37; go_in))
  go_quiet (fail)
  go_wp2
  exact bodyPost_ret (v := .tuple #[_, _]) (by simp [results, Try.results25, go_sem]) rfl ⟨rfl, by repeat (first | (with_reducible exact hb) | (with_reducible exact Below.refl _ _) | (with_reducible apply pw_below_drewN) | (with_reducible apply below_alloc) | (with_reducible apply below_drew1))⟩
theorem position_ok_topleft (w : World) :
    Calls Try.prog 24 #[.string ⟨#[116, 111, 112, 108, 101, 102, 116]⟩] w fun e w' => e = .returned (.tuple #[.int .i64 0, .bool true]) ∧ Below w.heap.size w w' := by
  go_enter Try.func24, Try.ntmps24
  go_wp2_with (go_at_call 36; go_in)
  go_quiet (fail)
  go_wp2
  exact bodyPost_ret (v := .tuple #[_, _]) (by simp [results, Try.results24, go_sem]) rfl ⟨rfl, by repeat (first | (with_reducible exact hb) | (with_reducible exact Below.refl _ _) | (with_reducible apply pw_below_drewN) | (with_reducible apply below_alloc) | (with_reducible apply below_drew1))⟩

theorem anchor_ok_tc (s : ByteArray) (w : World) (hn : s.size ≤ 140737488351232) (h : lowered s = ⟨#[116, 99]⟩) :
    Calls Try.prog 25 #[.string s] w fun e w' => e = .returned (.tuple #[.int .i64 1, .bool true]) ∧ Below w.heap.size w w' := by
  have H := hid (lower_calls s w hn)
  rw [lowered_eq, h] at H
  go_enter Try.func25, Try.ntmps25
  go_wp2_with (first | (go_at_call 42; refine H.out.mono ?_; rintro e w' ⟨rfl, hb⟩) | (go_at_call 37; go_in))
  go_quiet (fail)
  go_wp2
  exact bodyPost_ret (v := .tuple #[_, _]) (by simp [results, Try.results25, go_sem]) rfl ⟨rfl, by repeat (first | (with_reducible exact hb) | (with_reducible exact Below.refl _ _) | (with_reducible apply pw_below_drewN) | (with_reducible apply below_alloc) | (with_reducible apply below_drew1))⟩
theorem position_ok_tc (w : World) :
    Calls Try.prog 24 #[.string ⟨#[116, 99]⟩] w fun e w' => e = .returned (.tuple #[.int .i64 1, .bool true]) ∧ Below w.heap.size w w' := by
  go_enter Try.func24, Try.ntmps24
  go_wp2_with (go_at_call 36; go_in)
  go_quiet (fail)
  go_wp2
  exact bodyPost_ret (v := .tuple #[_, _]) (by simp [results, Try.results24, go_sem]) rfl ⟨rfl, by repeat (first | (with_reducible exact hb) | (with_reducible exact Below.refl _ _) | (with_reducible apply pw_below_drewN) | (with_reducible apply below_alloc) | (with_reducible apply below_drew1))⟩

theorem anchor_ok_topcenter (s : ByteArray) (w : World) (hn : s.size ≤ 140737488351232) (h : lowered s = ⟨#[116, 111, 112, 99, 101, 110, 116, 101, 114]⟩) :
    Calls Try.prog 25 #[.string s] w fun e w' => e = .returned (.tuple #[.int .i64 1, .bool true]) ∧ Below w.heap.size w w' := by
  have H := hid (lower_calls s w hn)
  rw [lowered_eq, h] at H
  go_enter Try.func25, Try.ntmps25
  go_wp2_with (first | (go_at_call 42; refine H.out.mono ?_; rintro e w' ⟨rfl, hb⟩) | (go_at_call 37; go_in))
  go_quiet (fail)
  go_wp2
  exact bodyPost_ret (v := .tuple #[_, _]) (by simp [results, Try.results25, go_sem]) rfl ⟨rfl, by repeat (first | (with_reducible exact hb) | (with_reducible exact Below.refl _ _) | (with_reducible apply pw_below_drewN) | (with_reducible apply below_alloc) | (with_reducible apply below_drew1))⟩
theorem position_ok_topcenter (w : World) :
    Calls Try.prog 24 #[.string ⟨#[116, 111, 112, 99, 101, 110, 116, 101, 114]⟩] w fun e w' => e = .returned (.tuple #[.int .i64 1, .bool true]) ∧ Below w.heap.size w w' := by
  go_enter Try.func24, Try.ntmps24
  go_wp2_with (go_at_call 36; go_in)
  go_quiet (fail)
  go_wp2
  exact bodyPost_ret (v := .tuple #[_, _]) (by simp [results, Try.results24, go_sem]) rfl ⟨rfl, by repeat (first | (with_reducible exact hb) | (with_reducible exact Below.refl _ _) | (with_reducible apply pw_below_drewN) | (with_reducible apply below_alloc) | (with_reducible apply below_drew1))⟩

theorem anchor_ok_tr (s : ByteArray) (w : World) (hn : s.size ≤ 140737488351232) (h : lowered s = ⟨#[116, 114]⟩) :
    Calls Try.prog 25 #[.string s] w fun e w' => e = .returned (.tuple #[.int .i64 2, .bool true]) ∧ Below w.heap.size w w' := by
  have H := hid (lower_calls s w hn)
  rw [lowered_eq, h] at H
  go_enter Try.func25, Try.ntmps25
  go_wp2_with (first | (go_at_call 42; refine H.out.mono ?_; rintro e w' ⟨rfl, hb⟩) | (go_at_call 37; go_in))
  go_quiet (fail)
  go_wp2
  exact bodyPost_ret (v := .tuple #[_, _]) (by simp [results, Try.results25, go_sem]) rfl ⟨rfl, by repeat (first | (with_reducible exact hb) | (with_reducible exact Below.refl _ _) | (with_reducible apply pw_below_drewN) | (with_reducible apply below_alloc) | (with_reducible apply below_drew1))⟩
theorem position_ok_tr (w : World) :
    Calls Try.prog 24 #[.string ⟨#[116, 114]⟩] w fun e w' => e = .returned (.tuple #[.int .i64 2, .bool true]) ∧ Below w.heap.size w w' := by
  go_enter Try.func24, Try.ntmps24
  go_wp2_with (go_at_call 36; go_in)
  go_quiet (fail)
  go_wp2
  exact bodyPost_ret (v := .tuple #[_, _]) (by simp [results, Try.results24, go_sem]) rfl ⟨rfl, by repeat (first | (with_reducible exact hb) | (with_reducible exact Below.refl _ _) | (with_reducible apply pw_below_drewN) | (with_reducible apply below_alloc) | (with_reducible apply below_drew1))⟩

theorem anchor_ok_topright (s : ByteArray) (w : World) (hn : s.size ≤ 140737488351232) (h : lowered s = ⟨#[116, 111, 112, 114, 105, 103, 104, 116]⟩) :
    Calls Try.prog 25 #[.string s] w fun e w' => e = .returned (.tuple #[.int .i64 2, .bool true]) ∧ Below w.heap.size w w' := by
  have H := hid (lower_calls s w hn)
  rw [lowered_eq, h] at H
  go_enter Try.func25, Try.ntmps25
  go_wp2_with (first | (go_at_call 42; refine H.out.mono ?_; rintro e w' ⟨rfl, hb⟩) | (go_at_call 37; go_in))
  go_quiet (fail)
  go_wp2
  exact bodyPost_ret (v := .tuple #[_, _]) (by simp [results, Try.results25, go_sem]) rfl ⟨rfl, by repeat (first | (with_reducible exact hb) | (with_reducible exact Below.refl _ _) | (with_reducible apply pw_below_drewN) | (with_reducible apply below_alloc) | (with_reducible apply below_drew1))⟩
theorem position_ok_topright (w : World) :
    Calls Try.prog 24 #[.string ⟨#[116, 111, 112, 114, 105, 103, 104, 116]⟩] w fun e w' => e = .returned (.tuple #[.int .i64 2, .bool true]) ∧ Below w.heap.size w w' := by
  go_enter Try.func24, Try.ntmps24
  go_wp2_with (go_at_call 36; go_in)
  go_quiet (fail)
  go_wp2
  exact bodyPost_ret (v := .tuple #[_, _]) (by simp [results, Try.results24, go_sem]) rfl ⟨rfl, by repeat (first | (with_reducible exact hb) | (with_reducible exact Below.refl _ _) | (with_reducible apply pw_below_drewN) | (with_reducible apply below_alloc) | (with_reducible apply below_drew1))⟩

theorem anchor_ok_l (s : ByteArray) (w : World) (hn : s.size ≤ 140737488351232) (h : lowered s = ⟨#[108]⟩) :
    Calls Try.prog 25 #[.string s] w fun e w' => e = .returned (.tuple #[.int .i64 3, .bool true]) ∧ Below w.heap.size w w' := by
  have H := hid (lower_calls s w hn)
  rw [lowered_eq, h] at H
  go_enter Try.func25, Try.ntmps25
  go_wp2_with (first | (go_at_call 42; refine H.out.mono ?_; rintro e w' ⟨rfl, hb⟩) | (go_at_call 37; go_in))
  go_quiet (fail)
  go_wp2
  exact bodyPost_ret (v := .tuple #[_, _]) (by simp [results, Try.results25, go_sem]) rfl ⟨rfl, by repeat (first | (with_reducible exact hb) | (with_reducible exact Below.refl _ _) | (with_reducible apply pw_below_drewN) | (with_reducible apply below_alloc) | (with_reducible apply below_drew1))⟩
theorem position_ok_l (w : World) :
    Calls Try.prog 24 #[.string ⟨#[108]⟩] w fun e w' => e = .returned (.tuple #[.int .i64 3, .bool true]) ∧ Below w.heap.size w w' := by
  go_enter Try.func24, Try.ntmps24
  go_wp2_with (go_at_call 36; go_in)
  go_quiet (fail)
  go_wp2
  exact bodyPost_ret (v := .tuple #[_, _]) (by simp [results, Try.results24, go_sem]) rfl ⟨rfl, by repeat (first | (with_reducible exact hb) | (with_reducible exact Below.refl _ _) | (with_reducible apply pw_below_drewN) | (with_reducible apply below_alloc) | (with_reducible apply below_drew1))⟩

theorem anchor_ok_left (s : ByteArray) (w : World) (hn : s.size ≤ 140737488351232) (h : lowered s = ⟨#[108, 101, 102, 116]⟩) :
    Calls Try.prog 25 #[.string s] w fun e w' => e = .returned (.tuple #[.int .i64 3, .bool true]) ∧ Below w.heap.size w w' := by
  have H := hid (lower_calls s w hn)
  rw [lowered_eq, h] at H
  go_enter Try.func25, Try.ntmps25
  go_wp2_with (first | (go_at_call 42; refine H.out.mono ?_; rintro e w' ⟨rfl, hb⟩) | (go_at_call 37; go_in))
  go_quiet (fail)
  go_wp2
  exact bodyPost_ret (v := .tuple #[_, _]) (by simp [results, Try.results25, go_sem]) rfl ⟨rfl, by repeat (first | (with_reducible exact hb) | (with_reducible exact Below.refl _ _) | (with_reducible apply pw_below_drewN) | (with_reducible apply below_alloc) | (with_reducible apply below_drew1))⟩
theorem position_ok_left (w : World) :
    Calls Try.prog 24 #[.string ⟨#[108, 101, 102, 116]⟩] w fun e w' => e = .returned (.tuple #[.int .i64 3, .bool true]) ∧ Below w.heap.size w w' := by
  go_enter Try.func24, Try.ntmps24
  go_wp2_with (go_at_call 36; go_in)
  go_quiet (fail)
  go_wp2
  exact bodyPost_ret (v := .tuple #[_, _]) (by simp [results, Try.results24, go_sem]) rfl ⟨rfl, by repeat (first | (with_reducible exact hb) | (with_reducible exact Below.refl _ _) | (with_reducible apply pw_below_drewN) | (with_reducible apply below_alloc) | (with_reducible apply below_drew1))⟩

theorem anchor_ok_c (s : ByteArray) (w : World) (hn : s.size ≤ 140737488351232) (h : lowered s = ⟨#[99]⟩) :
    Calls Try.prog 25 #[.string s] w fun e w' => e = .returned (.tuple #[.int .i64 4, .bool true]) ∧ Below w.heap.size w w' := by
  have H := hid (lower_calls s w hn)
  rw [lowered_eq, h] at H
  go_enter Try.func25, Try.ntmps25
  go_wp2_with (first | (go_at_call 42; refine H.out.mono ?_; rintro e w' ⟨rfl, hb⟩) | (go_at_call 37; go_in))
  go_quiet (fail)
  go_wp2
  exact bodyPost_ret (v := .tuple #[_, _]) (by simp [results, Try.results25, go_sem]) rfl ⟨rfl, by repeat (first | (with_reducible exact hb) | (with_reducible exact Below.refl _ _) | (with_reducible apply pw_below_drewN) | (with_reducible apply below_alloc) | (with_reducible apply below_drew1))⟩
theorem position_ok_c (w : World) :
    Calls Try.prog 24 #[.string ⟨#[99]⟩] w fun e w' => e = .returned (.tuple #[.int .i64 4, .bool true]) ∧ Below w.heap.size w w' := by
  go_enter Try.func24, Try.ntmps24
  go_wp2_with (go_at_call 36; go_in)
  go_quiet (fail)
  go_wp2
  exact bodyPost_ret (v := .tuple #[_, _]) (by simp [results, Try.results24, go_sem]) rfl ⟨rfl, by repeat (first | (with_reducible exact hb) | (with_reducible exact Below.refl _ _) | (with_reducible apply pw_below_drewN) | (with_reducible apply below_alloc) | (with_reducible apply below_drew1))⟩

theorem anchor_ok_center (s : ByteArray) (w : World) (hn : s.size ≤ 140737488351232) (h : lowered s = ⟨#[99, 101, 110, 116, 101, 114]⟩) :
    Calls Try.prog 25 #[.string s] w fun e w' => e = .returned (.tuple #[.int .i64 4, .bool true]) ∧ Below w.heap.size w w' := by
  have H := hid (lower_calls s w hn)
  rw [lowered_eq, h] at H
  go_enter Try.func25, Try.ntmps25
  go_wp2_with (first | (go_at_call 42; refine H.out.mono ?_; rintro e w' ⟨rfl, hb⟩) | (go_at_call 37; go_in))
  go_quiet (fail)
  go_wp2
  exact bodyPost_ret (v := .tuple #[_, _]) (by simp [results, Try.results25, go_sem]) rfl ⟨rfl, by repeat (first | (with_reducible exact hb) | (with_reducible exact Below.refl _ _) | (with_reducible apply pw_below_drewN) | (with_reducible apply below_alloc) | (with_reducible apply below_drew1))⟩
theorem position_ok_center (w : World) :
    Calls Try.prog 24 #[.string ⟨#[99, 101, 110, 116, 101, 114]⟩] w fun e w' => e = .returned (.tuple #[.int .i64 4, .bool true]) ∧ Below w.heap.size w w' := by
  go_enter Try.func24, Try.ntmps24
  go_wp2_with (go_at_call 36; go_in)
  go_quiet (fail)
  go_wp2
  exact bodyPost_ret (v := .tuple #[_, _]) (by simp [results, Try.results24, go_sem]) rfl ⟨rfl, by repeat (first | (with_reducible exact hb) | (with_reducible exact Below.refl _ _) | (with_reducible apply pw_below_drewN) | (with_reducible apply below_alloc) | (with_reducible apply below_drew1))⟩

theorem anchor_ok_r (s : ByteArray) (w : World) (hn : s.size ≤ 140737488351232) (h : lowered s = ⟨#[114]⟩) :
    Calls Try.prog 25 #[.string s] w fun e w' => e = .returned (.tuple #[.int .i64 5, .bool true]) ∧ Below w.heap.size w w' := by
  have H := hid (lower_calls s w hn)
  rw [lowered_eq, h] at H
  go_enter Try.func25, Try.ntmps25
  go_wp2_with (first | (go_at_call 42; refine H.out.mono ?_; rintro e w' ⟨rfl, hb⟩) | (go_at_call 37; go_in))
  go_quiet (fail)
  go_wp2
  exact bodyPost_ret (v := .tuple #[_, _]) (by simp [results, Try.results25, go_sem]) rfl ⟨rfl, by repeat (first | (with_reducible exact hb) | (with_reducible exact Below.refl _ _) | (with_reducible apply pw_below_drewN) | (with_reducible apply below_alloc) | (with_reducible apply below_drew1))⟩
theorem position_ok_r (w : World) :
    Calls Try.prog 24 #[.string ⟨#[114]⟩] w fun e w' => e = .returned (.tuple #[.int .i64 5, .bool true]) ∧ Below w.heap.size w w' := by
  go_enter Try.func24, Try.ntmps24
  go_wp2_with (go_at_call 36; go_in)
  go_quiet (fail)
  go_wp2
  exact bodyPost_ret (v := .tuple #[_, _]) (by simp [results, Try.results24, go_sem]) rfl ⟨rfl, by repeat (first | (with_reducible exact hb) | (with_reducible exact Below.refl _ _) | (with_reducible apply pw_below_drewN) | (with_reducible apply below_alloc) | (with_reducible apply below_drew1))⟩

theorem anchor_ok_right (s : ByteArray) (w : World) (hn : s.size ≤ 140737488351232) (h : lowered s = ⟨#[114, 105, 103, 104, 116]⟩) :
    Calls Try.prog 25 #[.string s] w fun e w' => e = .returned (.tuple #[.int .i64 5, .bool true]) ∧ Below w.heap.size w w' := by
  have H := hid (lower_calls s w hn)
  rw [lowered_eq, h] at H
  go_enter Try.func25, Try.ntmps25
  go_wp2_with (first | (go_at_call 42; refine H.out.mono ?_; rintro e w' ⟨rfl, hb⟩) | (go_at_call 37; go_in))
  go_quiet (fail)
  go_wp2
  exact bodyPost_ret (v := .tuple #[_, _]) (by simp [results, Try.results25, go_sem]) rfl ⟨rfl, by repeat (first | (with_reducible exact hb) | (with_reducible exact Below.refl _ _) | (with_reducible apply pw_below_drewN) | (with_reducible apply below_alloc) | (with_reducible apply below_drew1))⟩
theorem position_ok_right (w : World) :
    Calls Try.prog 24 #[.string ⟨#[114, 105, 103, 104, 116]⟩] w fun e w' => e = .returned (.tuple #[.int .i64 5, .bool true]) ∧ Below w.heap.size w w' := by
  go_enter Try.func24, Try.ntmps24
  go_wp2_with (go_at_call 36; go_in)
  go_quiet (fail)
  go_wp2
  exact bodyPost_ret (v := .tuple #[_, _]) (by simp [results, Try.results24, go_sem]) rfl ⟨rfl, by repeat (first | (with_reducible exact hb) | (with_reducible exact Below.refl _ _) | (with_reducible apply pw_below_drewN) | (with_reducible apply below_alloc) | (with_reducible apply below_drew1))⟩

theorem anchor_ok_bl (s : ByteArray) (w : World) (hn : s.size ≤ 140737488351232) (h : lowered s = ⟨#[98, 108]⟩) :
    Calls Try.prog 25 #[.string s] w fun e w' => e = .returned (.tuple #[.int .i64 6, .bool true]) ∧ Below w.heap.size w w' := by
  have H := hid (lower_calls s w hn)
  rw [lowered_eq, h] at H
  go_enter Try.func25, Try.ntmps25
  go_wp2_with (first | (go_at_call 42; refine H.out.mono ?_; rintro e w' ⟨rfl, hb⟩) | (go_at_call 37; go_in))
  go_quiet (fail)
  go_wp2
  exact bodyPost_ret (v := .tuple #[_, _]) (by simp [results, Try.results25, go_sem]) rfl ⟨rfl, by repeat (first | (with_reducible exact hb) | (with_reducible exact Below.refl _ _) | (with_reducible apply pw_below_drewN) | (with_reducible apply below_alloc) | (with_reducible apply below_drew1))⟩
theorem position_ok_bl (w : World) :
    Calls Try.prog 24 #[.string ⟨#[98, 108]⟩] w fun e w' => e = .returned (.tuple #[.int .i64 6, .bool true]) ∧ Below w.heap.size w w' := by
  go_enter Try.func24, Try.ntmps24
  go_wp2_with (go_at_call 36; go_in)
  go_quiet (fail)
  go_wp2
  exact bodyPost_ret (v := .tuple #[_, _]) (by simp [results, Try.results24, go_sem]) rfl ⟨rfl, by repeat (first | (with_reducible exact hb) | (with_reducible exact Below.refl _ _) | (with_reducible apply pw_below_drewN) | (with_reducible apply below_alloc) | (with_reducible apply below_drew1))⟩

theorem anchor_ok_bottomleft (s : ByteArray) (w : World) (hn : s.size ≤ 140737488351232) (h : lowered s = ⟨#[98, 111, 116, 116, 111, 109, 108, 101, 102, 116]⟩) :
    Calls Try.prog 25 #[.string s] w fun e w' => e = .returned (.tuple #[.int .i64 6, .bool true]) ∧ Below w.heap.size w w' := by
  have H := hid (lower_calls s w hn)
  rw [lowered_eq, h] at H
  go_enter Try.func25, Try.ntmps25
  go_wp2_with (first | (go_at_call 42; refine H.out.mono ?_; rintro e w' ⟨rfl, hb⟩) | (go_at_call 37; go_in))
  go_quiet (fail)
  go_wp2
  exact bodyPost_ret (v := .tuple #[_, _]) (by simp [results, Try.results25, go_sem]) rfl ⟨rfl, by repeat (first | (with_reducible exact hb) | (with_reducible exact Below.refl _ _) | (with_reducible apply pw_below_drewN) | (with_reducible apply below_alloc) | (with_reducible apply below_drew1))⟩
theorem position_ok_bottomleft (w : World) :
    Calls Try.prog 24 #[.string ⟨#[98, 111, 116, 116, 111, 109, 108, 101, 102, 116]⟩] w fun e w' => e = .returned (.tuple #[.int .i64 6, .bool true]) ∧ Below w.heap.size w w' := by
  go_enter Try.func24, Try.ntmps24
  go_wp2_with (go_at_call 36; go_in)
  go_quiet (fail)
  go_wp2
  exact bodyPost_ret (v := .tuple #[_, _]) (by simp [results, Try.results24, go_sem]) rfl ⟨rfl, by repeat (first | (with_reducible exact hb) | (with_reducible exact Below.refl _ _) | (with_reducible apply pw_below_drewN) | (with_reducible apply below_alloc) | (with_reducible apply below_drew1))⟩

theorem anchor_ok_bc (s : ByteArray) (w : World) (hn : s.size ≤ 140737488351232) (h : lowered s = ⟨#[98, 99]⟩) :
    Calls Try.prog 25 #[.string s] w fun e w' => e = .returned (.tuple #[.int .i64 7, .bool true]) ∧ Below w.heap.size w w' := by
  have H := hid (lower_calls s w hn)
  rw [lowered_eq, h] at H
  go_enter Try.func25, Try.ntmps25
  go_wp2_with (first | (go_at_call 42; refine H.out.mono ?_; rintro e w' ⟨rfl, hb⟩) | (go_at_call 37; go_in))
  go_quiet (fail)
  go_wp2
  exact bodyPost_ret (v := .tuple #[_, _]) (by simp [results, Try.results25, go_sem]) rfl ⟨rfl, by repeat (first | (with_reducible exact hb) | (with_reducible exact Below.refl _ _) | (with_reducible apply pw_below_drewN) | (with_reducible apply below_alloc) | (with_reducible apply below_drew1))⟩
theorem position_ok_bc (w : World) :
    Calls Try.prog 24 #[.string ⟨#[98, 99]⟩] w fun e w' => e = .returned (.tuple #[.int .i64 7, .bool true]) ∧ Below w.heap.size w w' := by
  go_enter Try.func24, Try.ntmps24
  go_wp2_with (go_at_call 36; go_in)
  go_quiet (fail)
  go_wp2
  exact bodyPost_ret (v := .tuple #[_, _]) (by simp [results, Try.results24, go_sem]) rfl ⟨rfl, by repeat (first | (with_reducible exact hb) | (with_reducible exact Below.refl _ _) | (with_reducible apply pw_below_drewN) | (with_reducible apply below_alloc) | (with_reducible apply below_drew1))⟩

theorem anchor_ok_bottomcenter (s : ByteArray) (w : World) (hn : s.size ≤ 140737488351232) (h : lowered s = ⟨#[98, 111, 116, 116, 111, 109, 99, 101, 110, 116, 101, 114]⟩) :
    Calls Try.prog 25 #[.string s] w fun e w' => e = .returned (.tuple #[.int .i64 7, .bool true]) ∧ Below w.heap.size w w' := by
  have H := hid (lower_calls s w hn)
  rw [lowered_eq, h] at H
  go_enter Try.func25, Try.ntmps25
  go_wp2_with (first | (go_at_call 42; refine H.out.mono ?_; rintro e w' ⟨rfl, hb⟩) | (go_at_call 37; go_in))
  go_quiet (fail)
  go_wp2
  exact bodyPost_ret (v := .tuple #[_, _]) (by simp [results, Try.results25, go_sem]) rfl ⟨rfl, by repeat (first | (with_reducible exact hb) | (with_reducible exact Below.refl _ _) | (with_reducible apply pw_below_drewN) | (with_reducible apply below_alloc) | (with_reducible apply below_drew1))⟩
theorem position_ok_bottomcenter (w : World) :
    Calls Try.prog 24 #[.string ⟨#[98, 111, 116, 116, 111, 109, 99, 101, 110, 116, 101, 114]⟩] w fun e w' => e = .returned (.tuple #[.int .i64 7, .bool true]) ∧ Below w.heap.size w w' := by
  go_enter Try.func24, Try.ntmps24
  go_wp2_with (go_at_call 36; go_in)
  go_quiet (fail)
  go_wp2
  exact bodyPost_ret (v := .tuple #[_, _]) (by simp [results, Try.results24, go_sem]) rfl ⟨rfl, by repeat (first | (with_reducible exact hb) | (with_reducible exact Below.refl _ _) | (with_reducible apply pw_below_drewN) | (with_reducible apply below_alloc) | (with_reducible apply below_drew1))⟩

theorem anchor_ok_br (s : ByteArray) (w : World) (hn : s.size ≤ 140737488351232) (h : lowered s = ⟨#[98, 114]⟩) :
    Calls Try.prog 25 #[.string s] w fun e w' => e = .returned (.tuple #[.int .i64 8, .bool true]) ∧ Below w.heap.size w w' := by
  have H := hid (lower_calls s w hn)
  rw [lowered_eq, h] at H
  go_enter Try.func25, Try.ntmps25
  go_wp2_with (first | (go_at_call 42; refine H.out.mono ?_; rintro e w' ⟨rfl, hb⟩) | (go_at_call 37; go_in))
  go_quiet (fail)
  go_wp2
  exact bodyPost_ret (v := .tuple #[_, _]) (by simp [results, Try.results25, go_sem]) rfl ⟨rfl, by repeat (first | (with_reducible exact hb) | (with_reducible exact Below.refl _ _) | (with_reducible apply pw_below_drewN) | (with_reducible apply below_alloc) | (with_reducible apply below_drew1))⟩
theorem position_ok_br (w : World) :
    Calls Try.prog 24 #[.string ⟨#[98, 114]⟩] w fun e w' => e = .returned (.tuple #[.int .i64 8, .bool true]) ∧ Below w.heap.size w w' := by
  go_enter Try.func24, Try.ntmps24
  go_wp2_with (go_at_call 36; go_in)
  go_quiet (fail)
  go_wp2
  exact bodyPost_ret (v := .tuple #[_, _]) (by simp [results, Try.results24, go_sem]) rfl ⟨rfl, by repeat (first | (with_reducible exact hb) | (with_reducible exact Below.refl _ _) | (with_reducible apply pw_below_drewN) | (with_reducible apply below_alloc) | (with_reducible apply below_drew1))⟩

theorem anchor_ok_bottomright (s : ByteArray) (w : World) (hn : s.size ≤ 140737488351232) (h : lowered s = ⟨#[98, 111, 116, 116, 111, 109, 114, 105, 103, 104, 116]⟩) :
    Calls Try.prog 25 #[.string s] w fun e w' => e = .returned (.tuple #[.int .i64 8, .bool true]) ∧ Below w.heap.size w w' := by
  have H := hid (lower_calls s w hn)
  rw [lowered_eq, h] at H
  go_enter Try.func25, Try.ntmps25
  go_wp2_with (first | (go_at_call 42; refine H.out.mono ?_; rintro e w' ⟨rfl, hb⟩) | (go_at_call 37; go_in))
  go_quiet (fail)
  go_wp2
  exact bodyPost_ret (v := .tuple #[_, _]) (by simp [results, Try.results25, go_sem]) rfl ⟨rfl, by repeat (first | (with_reducible exact hb) | (with_reducible exact Below.refl _ _) | (with_reducible apply pw_below_drewN) | (with_reducible apply below_alloc) | (with_reducible apply below_drew1))⟩
theorem position_ok_bottomright (w : World) :
    Calls Try.prog 24 #[.string ⟨#[98, 111, 116, 116, 111, 109, 114, 105, 103, 104, 116]⟩] w fun e w' => e = .returned (.tuple #[.int .i64 8, .bool true]) ∧ Below w.heap.size w w' := by
  go_enter Try.func24, Try.ntmps24
  go_wp2_with (go_at_call 36; go_in)
  go_quiet (fail)
  go_wp2
  exact bodyPost_ret (v := .tuple #[_, _]) (by simp [results, Try.results24, go_sem]) rfl ⟨rfl, by repeat (first | (with_reducible exact hb) | (with_reducible exact Below.refl _ _) | (with_reducible apply pw_below_drewN) | (with_reducible apply below_alloc) | (with_reducible apply below_drew1))⟩

theorem position_ok_full (w : World) :
    Calls Try.prog 24 #[.string ⟨#[102, 117, 108, 108]⟩] w fun e w' => e = .returned (.tuple #[.int .i64 9, .bool true]) ∧ Below w.heap.size w w' := by
  go_enter Try.func24, Try.ntmps24
  go_wp2_with (go_at_call 36; go_in)
  go_quiet (fail)
  go_wp2
  exact bodyPost_ret (v := .tuple #[_, _]) (by simp [results, Try.results24, go_sem]) rfl ⟨rfl, by repeat (first | (with_reducible exact hb) | (with_reducible exact Below.refl _ _) | (with_reducible apply pw_below_drewN) | (with_reducible apply below_alloc) | (with_reducible apply below_drew1))⟩

theorem anchor_bad (s t : ByteArray) (w : World) (hn : s.size ≤ 140737488351232) (h : lowered s = t) (h0 : (t.toList == [116, 108]) = false) (h1 : (t.toList == [116, 111, 112, 108, 101, 102, 116]) = false) (h2 : (t.toList == [116, 99]) = false) (h3 : (t.toList == [116, 111, 112, 99, 101, 110, 116, 101, 114]) = false) (h4 : (t.toList == [116, 114]) = false) (h5 : (t.toList == [116, 111, 112, 114, 105, 103, 104, 116]) = false) (h6 : (t.toList == [108]) = false) (h7 : (t.toList == [108, 101, 102, 116]) = false) (h8 : (t.toList == [99]) = false) (h9 : (t.toList == [99, 101, 110, 116, 101, 114]) = false) (h10 : (t.toList == [114]) = false) (h11 : (t.toList == [114, 105, 103, 104, 116]) = false) (h12 : (t.toList == [98, 108]) = false) (h13 : (t.toList == [98, 111, 116, 116, 111, 109, 108, 101, 102, 116]) = false) (h14 : (t.toList == [98, 99]) = false) (h15 : (t.toList == [98, 111, 116, 116, 111, 109, 99, 101, 110, 116, 101, 114]) = false) (h16 : (t.toList == [98, 114]) = false) (h17 : (t.toList == [98, 111, 116, 116, 111, 109, 114, 105, 103, 104, 116]) = false) :
    Calls Try.prog 25 #[.string s] w fun e w' => e = .returned (.tuple #[.int .i64 0, .bool false]) ∧ Below w.heap.size w w' := by
  have H := hid (lower_calls s w hn)
  rw [lowered_eq, h] at H
  go_enter Try.func25, Try.ntmps25
  go_wp2_with (first | (go_at_call 42; refine H.out.mono ?_; rintro e w' ⟨rfl, hb⟩) | (go_at_call 37; go_in) | (go_at_call 43; go_in))
  go_quiet (fail)
  go_wp2
  exact bodyPost_ret (v := .tuple #[_, _]) (by simp [results, Try.results25, go_sem]) rfl ⟨rfl, by repeat (first | (with_reducible exact hb) | (with_reducible exact Below.refl _ _) | (with_reducible apply pw_below_drewN) | (with_reducible apply below_alloc) | (with_reducible apply below_drew1))⟩
end Go.Proofs.Ytmngibfakkfnnaa
