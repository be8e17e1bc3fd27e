/-
The law FnLines: one line cut off a text: plain part and walk. Conditions: bytes that lie in memory.
-/
import Derived.Test.YtmngibfakkfnnaaFm
import Derived.Laws.StandIn
import Derived.Lib.BytesEntry
import Derived.BigQuiet
import Derived.Deep.AppendLies
namespace Go.Proofs.Ytmngibfakkfnnaa
open Go.RowKit Go.ChangeShapes Go.Proofs.YtmngibfakkfnnaaW.PrintWords

theorem hidg {p : Prop} (h : p) : Hid p := h
/-- Numbers that are bytes. -/
def byted (L : List Int) : Prop := ∀ x ∈ L, 0 ≤ x ∧ x < 256
/-- The first place of a number, or -1. -/
def idx (c : Int) : List Int → Int
  | [] => -1
  | x :: r => if x = c then 0 else if idx c r < 0 then -1 else idx c r + 1
theorem idx_bounds (c : Int) (L : List Int) : -1 ≤ idx c L ∧ idx c L < L.length := by
  induction L with
  | nil => simp [idx]
  | cons x r ih =>
    simp only [idx, List.length_cons]
    split
    · omega
    · split <;> omega
theorem idx_lib (c : Nat) (hc : c < 256) (L : List Int) (h : byted L) : Lib.indexByte (Lib.bytesOf L) (UInt8.ofNat c) = idx (c : Int) L := by
  induction L with
  | nil => rfl
  | cons x r ih =>
    have ih := ih (fun y hy => h y (List.mem_cons_of_mem _ hy))
    obtain ⟨x0, x1⟩ := h x (by simp)
    have he : UInt8.ofNat x.toNat = UInt8.ofNat c ↔ x = (c : Int) := by
      constructor
      · intro h
        have := congrArg UInt8.toNat h
        rw [UInt8.toNat_ofNat', UInt8.toNat_ofNat'] at this
        omega
      · rintro rfl; simp
    simp only [Lib.bytesOf, List.map_cons] at ih ⊢
    simp only [Lib.indexByte, idx]
    rw [ih]
    by_cases e : x = (c : Int)
    · simp [e]
    · have : ¬ UInt8.ofNat x.toNat = UInt8.ofNat c := fun h => e (he.1 h)
      simp [e, this]
      try (have := idx_bounds (c : Int) r; split <;> split <;> omega)

/-- The row at ⟨B, o⟩ reads xs. -/
def RowAt (w : World) (B o : Nat) (xs : List Int) : Prop := ∀ i, i < xs.length → w.cell? ⟨B, o + i, none⟩ = some (.int .u8 (xs.getD i 0))

theorem indexByte_calls (B o c : Nat) (xs : List Int) (cv : Nat) (hcv : cv < 256) (w : World) (hx : byted xs) (hr : RowAt w B o xs) :
    Calls Try.prog 49 #[.slice (some ⟨B, o, none⟩) xs.length c, .int .u8 (cv : Int)] w fun e w' => e = .returned (.int .i64 (idx (cv : Int) xs)) ∧ w' = w := by
  have hd : ∀ W : World, W = w → (callFunc 52 #[.slice (some ⟨B, o, none⟩) xs.length c, .int .u8 (cv : Int)]).run Try.prog W = .ok (.value (.int .i64 (idx (cv : Int) xs))) W := by
    rintro W rfl
    rw [run_callFunc_extern Try.func52 (by kernel_rfl) (by kernel_rfl) (by kernel_rfl) (e := Extern.BytealgIndexByte.indexByte) (by kernel_rfl), Lib.run_indexByteSlice W B o xs.length c xs rfl hr (cv : Int)]
    have e : ((cv : Int)).toNat.toUInt8 = UInt8.ofNat cv := by simp
    rw [e, idx_lib cv hcv xs hx]
    rfl
  have hd' := hd w rfl
  clear hd
  go_enter Try.func49, Try.ntmps49
  go_wp2
  go_ret
  exact ⟨rfl, rfl⟩
/-- How far the program goes on, and how long the line is. -/
def nextLine (xs : List Int) : Int × Int :=
  if 0 ≤ idx 13 xs then
    if 0 ≤ idx 10 xs then
      if idx 13 xs < idx 10 xs then (if idx 13 xs + 1 = idx 10 xs then (idx 13 xs + 2, idx 13 xs) else (idx 13 xs + 1, idx 13 xs))
      else (idx 10 xs + 1, idx 10 xs)
    else (idx 13 xs + 1, idx 13 xs)
  else if 0 ≤ idx 10 xs then (idx 10 xs + 1, idx 10 xs)
  else (xs.length, xs.length)

set_option maxHeartbeats 1000000 in
theorem lines_calls (B o c : Nat) (xs : List Int) (w : World) (hx : byted xs) (hr : RowAt w B o xs) (h0 : 0 < xs.length) (hc : xs.length ≤ c) (hn : xs.length ≤ 10000) :
    Calls Try.prog 41 #[.slice (some ⟨B, o, none⟩) xs.length c, .bool true] w fun e w' => e = .returned (.tuple #[.int .i64 (nextLine xs).1, .slice (some ⟨B, o, none⟩) (nextLine xs).2.toNat c, .nilIface]) ∧ Drawn0 w w' := by
  have H1 : Hid (∀ W, W = w → Calls Try.prog 49 #[.slice (some ⟨B, o, none⟩) xs.length c, .int .u8 13] W fun e w' => e = .returned (.int .i64 (idx 13 xs)) ∧ w' = W) := hidg fun W h => by subst h; exact indexByte_calls B o c xs 13 (by decide) W hx hr
  have H2 : Hid (∀ W, W = w → Calls Try.prog 49 #[.slice (some ⟨B, o, none⟩) xs.length c, .int .u8 10] W fun e w' => e = .returned (.int .i64 (idx 10 xs)) ∧ w' = W) := hidg fun W h => by subst h; exact indexByte_calls B o c xs 10 (by decide) W hx hr
  obtain ⟨a0, a1⟩ := idx_bounds 13 xs
  obtain ⟨b0, b1⟩ := idx_bounds 10 xs
  have hNL : Hid (nextLine xs = nextLine xs) := hidg rfl
  unfold nextLine at hNL ⊢
  generalize hna : idx 13 xs = a at *
  generalize hnb : idx 10 xs = b at *
  generalize xs.length = n at *
  have hne : ((n : Int) == 0) = false := by simpa using (show ¬ ((n : Int) = 0) by omega)
  have hnc : (n : Int) ≤ (c : Int) := by omega
  by_cases ha : 0 ≤ a
  · have ha' : a ≤ (c : Int) := by omega
    by_cases hb : 0 ≤ b
    · have hb' : b ≤ (c : Int) := by omega
      by_cases hab : a < b
      · by_cases hab1 : a + 1 = b
        · have hq : (a + 1 == b) = true := by simpa using hab1
          rw [if_pos ha, if_pos hb, if_pos hab, if_pos hab1]
          go_enter Try.func41, Try.ntmps41
          go_wp2_with (first
            | (go_at_call 49; with_reducible refine (H1.out _ rfl).mono ?_; rintro e w1 ⟨rfl, rfl⟩)
            | (go_at_call 49; with_reducible refine (H2.out _ rfl).mono ?_; rintro e w1 ⟨rfl, rfl⟩))
          go_quiet (fail)
          go_wp2
          exact bodyPost_ret (v := .tuple #[_, _, _]) (by simp [results, Try.results41, go_sem]) rfl ⟨rfl, ⟨_, rfl⟩⟩
        · have hq : (a + 1 == b) = false := by simpa using hab1
          rw [if_pos ha, if_pos hb, if_pos hab, if_neg hab1]
          go_enter Try.func41, Try.ntmps41
          go_wp2_with (first
            | (go_at_call 49; with_reducible refine (H1.out _ rfl).mono ?_; rintro e w1 ⟨rfl, rfl⟩)
            | (go_at_call 49; with_reducible refine (H2.out _ rfl).mono ?_; rintro e w1 ⟨rfl, rfl⟩))
          go_quiet (fail)
          go_wp2
          exact bodyPost_ret (v := .tuple #[_, _, _]) (by simp [results, Try.results41, go_sem]) rfl ⟨rfl, ⟨_, rfl⟩⟩
      · rw [if_pos ha, if_pos hb, if_neg hab]
        go_enter Try.func41, Try.ntmps41
        go_wp2_with (first
          | (go_at_call 49; with_reducible refine (H1.out _ rfl).mono ?_; rintro e w1 ⟨rfl, rfl⟩)
          | (go_at_call 49; with_reducible refine (H2.out _ rfl).mono ?_; rintro e w1 ⟨rfl, rfl⟩))
        go_quiet (fail)
        go_wp2
        exact bodyPost_ret (v := .tuple #[_, _, _]) (by simp [results, Try.results41, go_sem]) rfl ⟨rfl, ⟨_, rfl⟩⟩
    · rw [if_pos ha, if_neg hb]
      go_enter Try.func41, Try.ntmps41
      go_wp2_with (first
        | (go_at_call 49; with_reducible refine (H1.out _ rfl).mono ?_; rintro e w1 ⟨rfl, rfl⟩)
        | (go_at_call 49; with_reducible refine (H2.out _ rfl).mono ?_; rintro e w1 ⟨rfl, rfl⟩))
      go_quiet (fail)
      go_wp2
      exact bodyPost_ret (v := .tuple #[_, _, _]) (by simp [results, Try.results41, go_sem]) rfl ⟨rfl, ⟨_, rfl⟩⟩
  · by_cases hb : 0 ≤ b
    · have hb' : b ≤ (c : Int) := by omega
      rw [if_neg ha, if_pos hb]
      go_enter Try.func41, Try.ntmps41
      go_wp2_with (first
        | (go_at_call 49; with_reducible refine (H1.out _ rfl).mono ?_; rintro e w1 ⟨rfl, rfl⟩)
        | (go_at_call 49; with_reducible refine (H2.out _ rfl).mono ?_; rintro e w1 ⟨rfl, rfl⟩))
      go_quiet (fail)
      go_wp2
      exact bodyPost_ret (v := .tuple #[_, _, _]) (by simp [results, Try.results41, go_sem]) rfl ⟨rfl, ⟨_, rfl⟩⟩
    · rw [if_neg ha, if_neg hb]
      go_enter Try.func41, Try.ntmps41
      go_wp2_with (first
        | (go_at_call 49; with_reducible refine (H1.out _ rfl).mono ?_; rintro e w1 ⟨rfl, rfl⟩)
        | (go_at_call 49; with_reducible refine (H2.out _ rfl).mono ?_; rintro e w1 ⟨rfl, rfl⟩))
      exact bodyPost_ret (v := .tuple #[_, _, _]) (by simp [results, Try.results41, go_sem]) rfl ⟨rfl, ⟨0, rfl⟩⟩
theorem lines_nil (A : Option Addr) (c : Nat) (w : World) :
    Calls Try.prog 41 #[.slice A 0 c, .bool true] w fun e w' => e = .returned (.tuple #[.int .i64 0, .slice none 0 0, .nilIface]) ∧ w' = w := by
  go_enter Try.func41, Try.ntmps41
  go_wp2
  exact bodyPost_ret (v := .tuple #[_, _, _]) (by simp [results, Try.results41, go_sem]) rfl ⟨rfl, rfl⟩

theorem nextLine_bounds (xs : List Int) (h : 0 < xs.length) : 1 ≤ (nextLine xs).1 ∧ (nextLine xs).1 ≤ xs.length ∧ 0 ≤ (nextLine xs).2 ∧ (nextLine xs).2 ≤ xs.length := by
  have a := idx_bounds 13 xs
  have b := idx_bounds 10 xs
  unfold nextLine
  repeat' split
  all_goals simp only; omega
/-- The lines of a text. -/
def linesF : Nat → List Int → List (List Int)
  | 0, _ => []
  | _ + 1, [] => []
  | k + 1, x :: L => (x :: L).take (nextLine (x :: L)).2.toNat :: linesF k ((x :: L).drop (nextLine (x :: L)).1.toNat)
theorem linesF_fuel : ∀ (n k : Nat) (L : List Int), L.length ≤ n → L.length ≤ k → linesF k L = linesF L.length L := by
  intro n
  induction n with
  | zero =>
    intro k L h _
    have : L = [] := List.length_eq_zero_iff.1 (by omega)
    subst this
    cases k <;> rfl
  | succ n ih =>
    intro k L h hk
    cases L with
    | nil => cases k <;> rfl
    | cons x L =>
      obtain ⟨b1, b2, _, _⟩ := nextLine_bounds (x :: L) (by simp)
      obtain ⟨k, rfl⟩ : ∃ m, k = m + 1 := ⟨k - 1, by simp at hk; omega⟩
      simp only [List.length_cons] at h hk b2 ⊢
      simp only [linesF]
      have hl : ((x :: L).drop (nextLine (x :: L)).1.toNat).length ≤ L.length := by rw [List.length_drop, List.length_cons]; omega
      rw [ih k _ (by omega) (by omega), ih L.length _ (by omega) hl]
theorem linesF_step (D : List Int) (pos : Nat) (h : pos < D.length) :
    linesF (D.length - pos) (D.drop pos) = (D.drop pos).take (nextLine (D.drop pos)).2.toNat :: linesF (D.length - (pos + (nextLine (D.drop pos)).1.toNat)) (D.drop (pos + (nextLine (D.drop pos)).1.toNat)) := by
  have hlen : (D.drop pos).length = D.length - pos := List.length_drop
  obtain ⟨b1, b2, _, _⟩ := nextLine_bounds (D.drop pos) (by omega)
  rw [← hlen]
  have hd : D.drop (pos + (nextLine (D.drop pos)).1.toNat) = (D.drop pos).drop (nextLine (D.drop pos)).1.toNat := by rw [List.drop_drop]
  rw [hd]
  generalize hX : D.drop pos = X at *
  cases X with
  | nil => simp at hlen; omega
  | cons x L =>
    simp only [List.length_cons] at b2 hlen ⊢
    simp only [linesF]
    have hl : ((x :: L).drop (nextLine (x :: L)).1.toNat).length = D.length - (pos + (nextLine (x :: L)).1.toNat) := by rw [List.length_drop, List.length_cons]; omega
    rw [linesF_fuel L.length L.length _ (by rw [List.length_drop, List.length_cons]; omega) (by rw [List.length_drop, List.length_cons]; omega), hl]
end Go.Proofs.Ytmngibfakkfnnaa
