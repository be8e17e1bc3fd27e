/-
Texts that begin and end with small letters are trimmed to themselves: the walks. Condition: the first and the last byte are small letters.
-/
import Derived.Test.YtppailjlfinafaaDoorZ1
import Derived.Laws.RangeString
namespace Go.Proofs.YtppailjlfinafaaDoor
open Go.RowKit Go.ChangeShapes Go.Proofs.YtppailjlfinafaaDoorW.PrintWords

theorem space_calls (x : Int) (h0 : 97 ≤ x) (h1 : x ≤ 122) (w : World) : Calls Tryd.prog 14 #[.int .i32 x] w fun e w' => e = .returned (.bool false) ∧ w = w' := by
  have a1 : (x == 9) = false := by simp; omega
  have a2 : (x == 10) = false := by simp; omega
  have a3 : (x == 11) = false := by simp; omega
  have a4 : (x == 12) = false := by simp; omega
  have a5 : (x == 13) = false := by simp; omega
  have a6 : (x == 32) = false := by simp; omega
  have a7 : (x == 133) = false := by simp; omega
  have a8 : (x == 160) = false := by simp; omega
  have a9 : (x == 5760) = false := by simp; omega
  have b1 : (x == 8232) = false := by simp; omega
  have b2 : (x == 8233) = false := by simp; omega
  have b3 : (x == 8239) = false := by simp; omega
  have b4 : (x == 8287) = false := by simp; omega
  have b5 : (x == 12288) = false := by simp; omega
  go_enter Tryd.func14, Tryd.ntmps14
  go_wp2_with fail
  go_ret
  exact ⟨by simp, rfl⟩
theorem decode_last (S : ByteArray) (n : Nat) (x : Int) (hsz : S.size = n + 1) (hx : ((S[n]'(by omega)).toNat : Int) = x) (_h0 : 0 ≤ x) (h1 : x < 128) (hn : n ≤ 1000000) (w : World) :
    Calls Tryd.prog 22 #[.string S] w fun e w' => e = .returned (.tuple #[.int .i32 x, .int .i64 1]) ∧ w = w' := by
  go_enter Tryd.func22, Tryd.ntmps22
  go_wp2_with fail
  go_ret2
  exact ⟨rfl, rfl⟩
theorem decode_first (S : ByteArray) (n : Nat) (x : Int) (hsz : S.size = n + 1) (hx : ((S[0]'(by omega)).toNat : Int) = x) (_h0 : 0 ≤ x) (h1 : x < 128) (hn : n ≤ 1000000) (w : World) :
    Calls Tryd.prog 19 #[.string S] w fun e w' => e = .returned (.tuple #[.int .i32 x, .int .i64 1]) ∧ w = w' := by
  have hemp : S.toList.isEmpty = false := by
    have : S.data.size = n + 1 := hsz
    rw [ByteArray.toList_eq, List.isEmpty_eq_false_iff]
    intro h
    have := congrArg List.length h
    simp only [Array.length_toList, List.length_nil] at this
    omega
  go_enter Tryd.func19, Tryd.ntmps19
  go_wp2_with fail
  go_ret2
  exact ⟨rfl, rfl⟩
set_option maxHeartbeats 1000000 in
theorem left_calls (S : ByteArray) (n : Nat) (x : Int) (hsz : S.size = n + 1) (hx : ((S[0]'(by omega)).toNat : Int) = x) (h0 : 97 ≤ x) (h1 : x ≤ 122) (hn : n ≤ 1000000) (w : World) :
    Calls Tryd.prog 13 #[.string S, .func (.func 14) #[] #[]] w fun e w' => e = .returned (.string S) ∧ Below w.heap.size w w' := by
  have hfull : S.extract 0 (n + 1) = S := by
    have := ByteArray.extract_zero_size (b := S)
    rw [hsz] at this; exact this
  have hidx : Calls Tryd.prog 20 #[.string S, .func (.func 14) #[] #[], .bool false] w fun e w' => e = .returned (.int .i64 0) ∧ Below w.heap.size w w' := by
    have hnx0 := Lib.run_next_ascii_at (P := Tryd.prog) (w.iter S 0) w.heap.size S 0
    have hnx := fun ty => hnx0 ty (World.iter_heap w S 0) (by omega) (by omega)
    clear hnx0
    rw [hx] at hnx
    have hb2 := Lib.below_iterAt ((Below.refl _ w).alloc (Nat.le_refl _) (.stringIter S 0)) (k := w.heap.size) (Nat.le_refl _) S (0 + 1)
    have hb2 : Below w.heap.size w ((w.iter S 0).iterAt w.heap.size S (0 + 1)) := hb2
    clear hx
    go_enter Tryd.func20, Tryd.ntmps20
    go_wp2_with fail
    refine wp_loop_rounds 1 ?_
    rw [rounds_succ]
    go_wp2_with (go_at_call 14; refine (space_calls x h0 h1 _).mono ?_; rintro e w1 ⟨rfl, rfl⟩)
    go_ret
    exact ⟨rfl, hb2⟩
  have HI := Lib.hid hidx
  clear hidx hx
  go_enter Tryd.func13, Tryd.ntmps13
  go_wp2_with (go_at_call 20; refine HI.out.mono ?_; rintro e w1 ⟨rfl, hb⟩)
  go_ret
  exact ⟨by first | rfl | rw [hfull], hb⟩
set_option maxHeartbeats 1000000 in
theorem right_calls (S : ByteArray) (n : Nat) (x : Int) (hsz : S.size = n + 1) (hx : ((S[n]'(by omega)).toNat : Int) = x) (h0 : 97 ≤ x) (h1 : x ≤ 122) (hn : n ≤ 1000000) (w : World) :
    Calls Tryd.prog 12 #[.string S, .func (.func 14) #[] #[]] w fun e w' => e = .returned (.string S) ∧ w = w' := by
  have hfull : S.extract 0 (n + 1) = S := by
    have := ByteArray.extract_zero_size (b := S)
    rw [hsz] at this; exact this
  have hidx : Calls Tryd.prog 18 #[.string S, .func (.func 14) #[] #[], .bool false] w fun e w' => e = .returned (.int .i64 n) ∧ w = w' := by
    have HD := Lib.hid (decode_last S n x hsz hx (by omega) (by omega) hn w)
    clear hx
    go_enter Tryd.func18, Tryd.ntmps18
    go_wp2_with fail
    refine wp_loop_rounds 1 ?_
    rw [rounds_succ]
    go_wp2_with (first | (go_at_call 22; refine HD.out.mono ?_; rintro e w1 ⟨rfl, rfl⟩) | (go_at_call 14; refine (space_calls x h0 h1 _).mono ?_; rintro e w1 ⟨rfl, rfl⟩))
    go_ret
    exact ⟨rfl, rfl⟩
  have HI := Lib.hid hidx
  have hone : S.extract n (n + 1) = ⟨#[S[n]'(by omega)]⟩ := by
    apply ByteArray.ext
    apply Array.ext
    · simp; have : S.data.size = n + 1 := hsz; omega
    · intro i h1 h2
      simp at h2
      subst h2
      simp; rfl
  have HD := Lib.hid (decode_first (S.extract n (n + 1)) 0 x (by rw [hone]; rfl) (by simp only [hone]; exact hx) (by omega) (by omega) (by omega) w)
  clear hidx hx hone
  generalize hT : S.extract n (n + 1) = T at HD
  go_enter Tryd.func12, Tryd.ntmps12
  go_wp2_with (first | (go_at_call 18; refine HI.out.mono ?_; rintro e w1 ⟨rfl, rfl⟩) | (go_at_call 19; refine HD.out.mono ?_; rintro e w1 ⟨rfl, rfl⟩))
  go_ret
  exact ⟨by first | rfl | rw [hfull], rfl⟩
def letter (x : UInt8) : Prop := 97 ≤ x.toNat ∧ x.toNat ≤ 122
/-- A text that begins and ends with letters is trimmed to itself. -/
theorem trim_calls (l : List UInt8) (x y : UInt8) (n : Nat) (hl : l.length = n + 1) (hx : l[0]? = some x) (hy : l[n]? = some y) (lx : letter x) (ly : letter y) (hn : n ≤ 1000000) (w : World) :
    Calls Tryd.prog 9 #[.string (bs l)] w fun e w' => e = .returned (.string (bs l)) ∧ Below w.heap.size w w' := by
  have hsz : (bs l).size = n + 1 := by rw [bs_size, hl]
  have gx : (((bs l)[0]'(by omega)).toNat : Int) = (x.toNat : Int) := by
    have : l[0]'(by omega) = x := by rw [List.getElem?_eq_getElem (by omega)] at hx; exact Option.some.inj hx
    rw [← this]; rfl
  have gy : (((bs l)[n]'(by omega)).toNat : Int) = (y.toNat : Int) := by
    have : l[n]'(by omega) = y := by rw [List.getElem?_eq_getElem (by omega)] at hy; exact Option.some.inj hy
    rw [← this]; rfl
  have HL := Lib.hid (left_calls (bs l) n _ hsz gx (by have := lx.1; omega) (by have := lx.2; omega) hn w)
  have HR := Lib.hid (fun W => right_calls (bs l) n _ hsz gy (by have := ly.1; omega) (by have := ly.2; omega) hn W)
  clear gx gy hsz
  generalize bs l = S at HL HR
  go_enter Tryd.func9, Tryd.ntmps9
  go_wp2_with (first | (go_at_call 13; refine HL.out.mono ?_; rintro e w1 ⟨rfl, hb⟩) | (go_at_call 12; refine (HR.out _).mono ?_; rintro e w2 ⟨rfl, rfl⟩))
  go_ret
  exact ⟨rfl, hb⟩
end Go.Proofs.YtppailjlfinafaaDoor
