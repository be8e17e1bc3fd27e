/-
FnCollected: even and odd pages; a token with its sign: the walks. Conditions: what it comes to.
-/
import Derived.Test.YthfihamhkhnckaaDoorK6
namespace Go.Proofs.YthfihamhkhnckaaDoor
open Go.RowKit Go.ChangeShapes Go.Proofs.YthfihamhkhnckaaDoorW.PrintWords

set_option maxHeartbeats 1000000

/-- Every second page put to a collection. -/
def evN : Nat → Int → List Int → List Int
  | 0, _, l => l
  | k + 1, a, l => evN k a l ++ [a + 2 * (k : Int)]
theorem evN_length (k : Nat) (a : Int) (l : List Int) : (evN k a l).length = l.length + k := by
  induction k with
  | zero => rfl
  | succ k ih => simp only [evN, List.length_append, ih, List.length_singleton]; omega

set_option maxRecDepth 100000 in
theorem even_calls (l : List Int) (n : Nat) (hn : n ≤ 1000) (hl : l.length ≤ 900000) (B c : Nat) (w : World) (H : Cp B c l w) (hBw : B ≤ w.heap.size) :
    Calls Tryd.prog 35 #[.pointer (some ⟨c, 0, none⟩), .int .i64 (n : Int)] w fun e w' => e = .returned (.tuple #[]) ∧ Cp B c (evN (n / 2) 2 l) w' ∧ Below B w w' := by
  have HC := Lib.hid H
  clear H
  go_enter Tryd.func35, Tryd.ntmps35
  go_wp2_with fail
  go_loopw [4] (fun v wr => ∃ k : Nat, v = .int .i64 (2 + 2 * (k : Int)) ∧ k ≤ n / 2 ∧ Hid (Cp B c (evN k 2 l) wr) ∧ Hid (Below B w wr)) (fun v _ => n + 2 - (intOf v).toNat)
  case atStart => exact ⟨0, by simp, by omega, HC, Lib.hid (Below.refl _ _)⟩
  case round =>
    obtain ⟨k, rfl, hk, hC, hb⟩ := hrel
    have hsz := hb.out.size
    have hel := evN_length k 2 l
    by_cases hlt : k < n / 2
    · have hle : 2 + 2 * (k : Int) ≤ (n : Int) := by omega
      have hp0 : 0 ≤ 2 + 2 * (k : Int) := by omega
      have hle2 : (2 + 2 * (k : Int)).toNat ≤ n := by omega
      obtain ⟨hc, v, hbk, ho⟩ := hC.out
      have hevs : evN (k + 1) 2 l = evN k 2 l ++ [2 + 2 * (k : Int)] := rfl
      have hlen : (evN k 2 l).length ≤ 950000 := by omega
      clear hC hel
      generalize evN k 2 l = l' at *
      generalize hp : 2 + 2 * (k : Int) = p at *
      have c1 := blk_cell hbk 0
      obtain ⟨A, cv, rfl⟩ := own_slice ho
      have Ho := Lib.hid ho
      have Hb := Lib.hid hbk
      have HP2 := Lib.hid hp
      clear ho hbk hp
      go_wp2_with (at_builtin; refine print_append_num (w0 := wr) B rfl (.tmp 13) (.tmp 15) 24 3 .i64 8 rfl Tryd.underlying24 info_int (by decide) _ l' p rfl rfl Ho.out (Below.refl _ _) (by omega) (by omega) ?_; intro v1 w1 ho3 hb3 hg _
                   have hb2 := blk_grown Hb.out hg (fun h => by obtain ⟨cs, h2⟩ := own_typed Ho.out c h.symm; exact blk_ne Hb.out h2 (by decide) rfl)
                   have c2 := blk_cell hb2 0
                   have f2 := blk_frozen hb2 0
                   have HF := Lib.hid (Cp.put hc hb2 ho3)
                   have HB2 := fun u => Lib.hid (hb.out.trans (hb3.setCell (p := ⟨c, 0, none⟩) hc u))
                   obtain ⟨A2, cv2, rfl⟩ := own_slice ho3
                   clear hb2 hb3 hg ho3)
      exact ⟨⟨k + 1, by have := HP2.out; simp; omega, by omega, by rw [hevs]; exact Lib.hid (by simpa using HF.out), HB2 _⟩, by have := HP2.out; simp [intOf]; omega⟩
    · have hke : k = n / 2 := by omega
      have hgt : ¬ (2 + 2 * (k : Int) ≤ (n : Int)) := by omega
      go_wp2_with fail
      go_end0
      exact ⟨rfl, by rw [← hke]; exact hC.out, hb.out⟩

set_option maxRecDepth 100000 in
theorem odd_calls (l : List Int) (n : Nat) (hn : n ≤ 1000) (hl : l.length ≤ 900000) (B c : Nat) (w : World) (H : Cp B c l w) (hBw : B ≤ w.heap.size) :
    Calls Tryd.prog 36 #[.pointer (some ⟨c, 0, none⟩), .int .i64 (n : Int)] w fun e w' => e = .returned (.tuple #[]) ∧ Cp B c (evN ((n + 1) / 2) 1 l) w' ∧ Below B w w' := by
  have HC := Lib.hid H
  clear H
  go_enter Tryd.func36, Tryd.ntmps36
  go_wp2_with fail
  go_loopw [4] (fun v wr => ∃ k : Nat, v = .int .i64 (1 + 2 * (k : Int)) ∧ k ≤ (n + 1) / 2 ∧ Hid (Cp B c (evN k 1 l) wr) ∧ Hid (Below B w wr)) (fun v _ => n + 2 - (intOf v).toNat)
  case atStart => exact ⟨0, by simp, by omega, HC, Lib.hid (Below.refl _ _)⟩
  case round =>
    obtain ⟨k, rfl, hk, hC, hb⟩ := hrel
    have hsz := hb.out.size
    have hel := evN_length k 1 l
    by_cases hlt : k < (n + 1) / 2
    · have hle : 1 + 2 * (k : Int) ≤ (n : Int) := by omega
      have hp0 : 0 ≤ 1 + 2 * (k : Int) := by omega
      have hle2 : (1 + 2 * (k : Int)).toNat ≤ n := by omega
      obtain ⟨hc, v, hbk, ho⟩ := hC.out
      have hevs : evN (k + 1) 1 l = evN k 1 l ++ [1 + 2 * (k : Int)] := rfl
      have hlen : (evN k 1 l).length ≤ 950000 := by omega
      clear hC hel
      generalize evN k 1 l = l' at *
      generalize hp : 1 + 2 * (k : Int) = p at *
      have c1 := blk_cell hbk 0
      obtain ⟨A, cv, rfl⟩ := own_slice ho
      have Ho := Lib.hid ho
      have Hb := Lib.hid hbk
      have HP2 := Lib.hid hp
      clear ho hbk hp
      go_wp2_with (at_builtin; refine print_append_num (w0 := wr) B rfl (.tmp 13) (.tmp 15) 24 3 .i64 8 rfl Tryd.underlying24 info_int (by decide) _ l' p rfl rfl Ho.out (Below.refl _ _) (by omega) (by omega) ?_; intro v1 w1 ho3 hb3 hg _
                   have hb2 := blk_grown Hb.out hg (fun h => by obtain ⟨cs, h2⟩ := own_typed Ho.out c h.symm; exact blk_ne Hb.out h2 (by decide) rfl)
                   have c2 := blk_cell hb2 0
                   have f2 := blk_frozen hb2 0
                   have HF := Lib.hid (Cp.put hc hb2 ho3)
                   have HB2 := fun u => Lib.hid (hb.out.trans (hb3.setCell (p := ⟨c, 0, none⟩) hc u))
                   obtain ⟨A2, cv2, rfl⟩ := own_slice ho3
                   clear hb2 hb3 hg ho3)
      exact ⟨⟨k + 1, by have := HP2.out; simp; omega, by omega, by rw [hevs]; exact Lib.hid (by simpa using HF.out), HB2 _⟩, by have := HP2.out; simp [intOf]; omega⟩
    · have hke : k = (n + 1) / 2 := by omega
      have hgt : ¬ (1 + 2 * (k : Int) ≤ (n : Int)) := by omega
      go_wp2_with fail
      go_end0
      exact ⟨rfl, by rw [← hke]; exact hC.out, hb.out⟩

set_option maxRecDepth 100000 in
theorem handle_even (i : Int) (l : List Int) (n : Nat) (hn : n ≤ 1000) (hl : l.length ≤ 900000) (B c : Nat) (w : World) (H : Cp B c l w) (hBw : B ≤ w.heap.size) :
    Calls Tryd.prog 31 #[.int .i64 (n : Int), .int .i64 i, .string (bs [101, 118, 101, 110]), .pointer (some ⟨c, 0, none⟩)] w (Done B c (evN (n / 2) 2 l) w) := by
  have e0 : ((bs [101, 118, 101, 110]).toList == []) = false := by rw [bs_toList]; rfl
  have e1 : ((bs [101, 118, 101, 110]).toList == [101, 118, 101, 110]) = true := by rw [bs_toList]; rfl
  have e2 : ((bs [101, 118, 101, 110]).toList == [111, 100, 100]) = false := by rw [bs_toList]; rfl
  generalize bs [101, 118, 101, 110] = S at *
  have HF := Lib.hid (even_calls l n hn hl B c w H hBw)
  clear H
  go_enter Tryd.func31, Tryd.ntmps31
  go_wp2_with (go_at_call 35; refine HF.out.mono ?_; rintro e w9 ⟨rfl, h1, h2⟩)
  exact bodyPost_ret (v := .nilIface) (by simp [results, Tryd.results31, go_sem]) rfl ⟨rfl, h1, h2⟩

set_option maxRecDepth 100000 in
theorem handle_odd (i : Int) (l : List Int) (n : Nat) (hn : n ≤ 1000) (hl : l.length ≤ 900000) (B c : Nat) (w : World) (H : Cp B c l w) (hBw : B ≤ w.heap.size) :
    Calls Tryd.prog 31 #[.int .i64 (n : Int), .int .i64 i, .string (bs [111, 100, 100]), .pointer (some ⟨c, 0, none⟩)] w (Done B c (evN ((n + 1) / 2) 1 l) w) := by
  have e0 : ((bs [111, 100, 100]).toList == []) = false := by rw [bs_toList]; rfl
  have e1 : ((bs [111, 100, 100]).toList == [101, 118, 101, 110]) = false := by rw [bs_toList]; rfl
  have e2 : ((bs [111, 100, 100]).toList == [111, 100, 100]) = true := by rw [bs_toList]; rfl
  generalize bs [111, 100, 100] = S at *
  have HF := Lib.hid (odd_calls l n hn hl B c w H hBw)
  clear H
  go_enter Tryd.func31, Tryd.ntmps31
  go_wp2_with (go_at_call 36; refine HF.out.mono ?_; rintro e w9 ⟨rfl, h1, h2⟩)
  exact bodyPost_ret (v := .nilIface) (by simp [results, Tryd.results31, go_sem]) rfl ⟨rfl, h1, h2⟩

theorem negation_no (x : Int) (h1 : (x == 33) = false) (h2 : (x == 110) = false) (w : World) : Calls Tryd.prog 37 #[.int .u8 x] w fun e w' => e = .returned (.bool false) ∧ w = w' := by
  go_enter Tryd.func37, Tryd.ntmps37
  go_wp2_with fail
  go_ret
  exact ⟨rfl, rfl⟩
theorem negation_yes (x : Int) (h : x = 33 ∨ x = 110) (w : World) : Calls Tryd.prog 37 #[.int .u8 x] w fun e w' => e = .returned (.bool true) ∧ w = w' := by
  rcases h with rfl | rfl
  · go_enter Tryd.func37, Tryd.ntmps37
    go_wp2_with fail
    go_ret
    exact ⟨rfl, rfl⟩
  · go_enter Tryd.func37, Tryd.ntmps37
    go_wp2_with fail
    go_ret
    exact ⟨rfl, rfl⟩

theorem handle_plain (x : UInt8) (r : List UInt8) (hx : x ≠ 33 ∧ x ≠ 110) (hn : (x :: r) ≠ [101, 118, 101, 110] ∧ (x :: r) ≠ [111, 100, 100]) (n : Nat) (i : Int) (B c : Nat) (w : World) (L : List Int)
    (HF : Calls Tryd.prog 38 #[.int .i64 (n : Int), .int .i64 i, .string (bs (x :: r)), .string (bs (x :: r)), .bool false, .pointer (some ⟨c, 0, none⟩)] w (Done B c L w)) :
    Calls Tryd.prog 31 #[.int .i64 (n : Int), .int .i64 i, .string (bs (x :: r)), .pointer (some ⟨c, 0, none⟩)] w (Done B c L w) := by
  have e0 : ((bs (x :: r)).toList == []) = false := by rw [bs_toList]; rfl
  have e1 : ((bs (x :: r)).toList == [101, 118, 101, 110]) = false := by rw [bs_toList]; exact beq_eq_false_iff_ne.2 hn.1
  have e2 : ((bs (x :: r)).toList == [111, 100, 100]) = false := by rw [bs_toList]; exact beq_eq_false_iff_ne.2 hn.2
  obtain ⟨S, hS⟩ : ∃ S, S = bs (x :: r) := ⟨_, rfl⟩
  have hsz : S.size = r.length + 1 := by rw [hS, bs_size]; rfl
  obtain ⟨x0, hx0, g0, g1⟩ : ∃ x0 : Int, ((S[0]'(by omega)).toNat : Int) = x0 ∧ (x0 == 33) = false ∧ (x0 == 110) = false := by
    subst hS
    refine ⟨(x.toNat : Int), rfl, ?_, ?_⟩
    · rw [beq_eq_false_iff_ne]; intro e; exact hx.1 (UInt8.toNat_inj.1 (Int.ofNat.inj e))
    · rw [beq_eq_false_iff_ne]; intro e; exact hx.2 (UInt8.toNat_inj.1 (Int.ofNat.inj e))
  rw [← hS] at HF e0 e1 e2 ⊢
  have HN := Lib.hid (fun W => negation_no x0 g0 g1 W)
  have HF := Lib.hid HF
  clear hS hx hn
  go_enter Tryd.func31, Tryd.ntmps31
  go_wp2_with (first | (go_at_call 37; refine (HN.out _).mono ?_; rintro e w8 ⟨rfl, rfl⟩) | (go_at_call 38; refine HF.out.mono ?_; rintro e w9 ⟨rfl, h1, h2⟩))
  exact bodyPost_ret (v := .nilIface) (by simp [results, Tryd.results31, go_sem]) rfl ⟨rfl, h1, h2⟩
theorem handle_away (x : UInt8) (r : List UInt8) (hr : r ≠ []) (hx : x = 33 ∨ x = 110) (n : Nat) (i : Int) (B c : Nat) (w : World) (L : List Int)
    (HF : Calls Tryd.prog 38 #[.int .i64 (n : Int), .int .i64 i, .string (bs (x :: r)), .string (bs r), .bool true, .pointer (some ⟨c, 0, none⟩)] w (Done B c L w)) :
    Calls Tryd.prog 31 #[.int .i64 (n : Int), .int .i64 i, .string (bs (x :: r)), .pointer (some ⟨c, 0, none⟩)] w (Done B c L w) := by
  have hne : (x ≠ 101 ∧ x ≠ 111) := by rcases hx with rfl | rfl <;> decide
  have e0 : ((bs (x :: r)).toList == []) = false := by rw [bs_toList]; rfl
  have e1 : ((bs (x :: r)).toList == [101, 118, 101, 110]) = false := by rw [bs_toList]; exact beq_eq_false_iff_ne.2 (fun h => hne.1 (by injection h))
  have e2 : ((bs (x :: r)).toList == [111, 100, 100]) = false := by rw [bs_toList]; exact beq_eq_false_iff_ne.2 (fun h => hne.2 (by injection h))
  have e3 : ((bs r).toList == []) = false := by rw [bs_toList]; exact beq_eq_false_iff_ne.2 hr
  obtain ⟨S, hS⟩ : ∃ S, S = bs (x :: r) := ⟨_, rfl⟩
  have hsz : S.size = r.length + 1 := by rw [hS, bs_size]; rfl
  obtain ⟨x0, hx0, g0⟩ : ∃ x0 : Int, ((S[0]'(by omega)).toNat : Int) = x0 ∧ (x0 = 33 ∨ x0 = 110) := by
    subst hS
    exact ⟨(x.toNat : Int), rfl, by rcases hx with rfl | rfl <;> simp⟩
  have hxx := bs_extract (x :: r) 1 (r.length + 1)
  rw [List.take_of_length_le (by simp)] at hxx
  have hx' : S.extract 1 (r.length + 1) = bs r := by rw [hS]; exact hxx
  rw [← hS] at HF e0 e1 e2 ⊢
  have HN := Lib.hid (fun W => negation_yes x0 g0 W)
  have HF := Lib.hid HF
  clear hS hx hne hxx g0 hr
  generalize bs r = T at *
  go_enter Tryd.func31, Tryd.ntmps31
  go_wp2_with (first | (go_at_call 37; refine (HN.out _).mono ?_; rintro e w8 ⟨rfl, rfl⟩) | (go_at_call 38; refine HF.out.mono ?_; rintro e w9 ⟨rfl, h1, h2⟩))
  exact bodyPost_ret (v := .nilIface) (by simp [results, Tryd.results31, go_sem]) rfl ⟨rfl, h1, h2⟩

end Go.Proofs.YthfihamhkhnckaaDoor
