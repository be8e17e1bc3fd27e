/-
FnCollected, FnSelected, FnRemaining: the specification reads a part: walks and plain laws. Conditions: as each theorem says.
-/
import Derived.Test.YthfihamhkhnckaaDoorG1
import Derived.Test.YthfihamhkhnckaaDoorPFnCollectedx1
import Derived.Test.YthfihamhkhnckaaDoorG4
import Derived.Deep.CutBlock
import Derived.Laws.Pointers

namespace Go.Proofs.YthfihamhkhnckaaDoor
open Go.RowKit Go.ChangeShapes Go.Proofs.YthfihamhkhnckaaDoorW.PrintWords Go.Proofs.YthfihamhkhnckaaDoor.PFnCollected

theorem bt_bs (l : List UInt8) (k : Nat) (h : k < l.length) : bt (bs l) (k : Int) = ((l[k]'h).toNat : Int) := by
  have hs := bs_size l
  unfold bt
  rw [dif_pos (by rw [Int.toNat_natCast]; omega)]
  rfl
theorem wr64 (x : Int) (h0 : 0 ≤ x) (h1 : x < 4611686018427387904) : wrap64 x = x := by unfold wrap64; omega
theorem valFrom_snoc (p : List UInt8) (c : UInt8) : ∀ a, valFrom a (p ++ [c]) = 10 * valFrom a p + (c.toNat - 48) := by
  induction p with
  | nil => intro a; rfl
  | cons x p ih => intro a; exact ih _
/-- What reading digits at a place comes to. -/
def DigitsOk (s a : List UInt8) (n e : Int) (is : Bool) : Prop :=
  ∃ e' : Nat, e = e' ∧ a.length ≤ e' ∧ e' ≤ s.length ∧ (is = true → ∃ q r, s = a ++ (q ++ r) ∧ Num q ∧ n = (val q : Nat) ∧ e' = a.length + q.length)
theorem digits_l0 (s a : List UInt8) (hs : s.length ≤ 2147483647) : ∀ (r p : List UInt8), s = a ++ (p ++ r) → (∀ c ∈ p, dig c) → p.length ≤ 4 →
    ∃ k n e is, spec_digitsAt.l0 k (bs s) (a.length : Int) (val p : Nat) ((a.length + p.length : Nat) : Int) = some (n, e, is) ∧ DigitsOk s a n e is := by
  have stop : ∀ (r p : List UInt8), s = a ++ (p ++ r) → (∀ c ∈ p, dig c) → p.length ≤ 4 → ∃ n e is, spec_digitsAt.j1 1 (bs s) (a.length : Int) (val p : Nat) ((a.length + p.length : Nat) : Int) false = some (n, e, is) ∧ DigitsOk s a n e is := by
    intro r p hsp hd hl
    have hlen : s.length = a.length + (p.length + r.length) := by rw [hsp]; simp
    have hsz := bs_size s
    simp only [spec_digitsAt.j1]
    rw [if_neg (by simp)]
    by_cases hp : p = []
    · subst hp
      rw [if_neg (by simp)]
      exact ⟨_, _, _, rfl, a.length, by simp, by omega, by omega, fun h => by cases h⟩
    · have hpl : 0 < p.length := List.length_pos_iff.2 hp
      rw [if_pos (by omega), if_pos (by omega), if_pos (by omega)]
      refine ⟨_, _, _, rfl, a.length + p.length, rfl, by omega, by omega, fun h => ⟨p, r, hsp, ⟨hp, hl, hd, ?_⟩, rfl, rfl⟩⟩
      intro hh
      rw [bt_bs s a.length (by omega)] at h
      have : s[a.length]'(by omega) = 48 := by
        have h1 : s[a.length]? = p.head? := by rw [hsp, List.getElem?_append_right (Nat.le_refl _)]; cases p with
          | nil => exact absurd rfl hp
          | cons x p => simp
        rw [hh, List.getElem?_eq_getElem (by omega)] at h1
        exact Option.some.inj h1
      rw [this] at h
      exact absurd h (by decide)
  intro r
  induction r with
  | nil =>
    intro p hsp hd hl
    obtain ⟨n, e, is, h1, h2⟩ := stop [] p hsp hd hl
    have hlen : s.length = a.length + p.length := by rw [hsp]; simp
    have hsz := bs_size s
    refine ⟨2, n, e, is, ?_, h2⟩
    rw [spec_digitsAt.l0, if_neg (by omega)]
    exact h1
  | cons c r ih =>
    intro p hsp hd hl
    have hlen : s.length = a.length + (p.length + (r.length + 1)) := by rw [hsp]; simp
    have hsz := bs_size s
    have hb : bt (bs s) ((a.length + p.length : Nat) : Int) = (c.toNat : Int) := by
      rw [bt_bs s _ (by omega)]
      have : s[a.length + p.length]? = some c := by rw [hsp, ← List.append_assoc, List.getElem?_append_right (by simp)]; simp
      rw [List.getElem?_eq_getElem (by omega)] at this
      rw [Option.some.inj this]
    by_cases hc : dig c
    · have hc1 := hc.1
      have hc2 := hc.2
      by_cases h4 : p.length = 4
      · refine ⟨2, 0, a.length, false, ?_, a.length, rfl, by omega, by omega, fun h => by cases h⟩
        rw [spec_digitsAt.l0, if_pos (by omega), if_pos (by omega), hb, if_pos (by omega), decide_eq_true (by omega)]
        rw [spec_digitsAt.j1, if_pos rfl, if_pos (by omega), if_pos (by omega), wr64 (((a.length + p.length : Nat) : Int) + 1) (by omega) (by omega), wr64 (((a.length + p.length : Nat) : Int) + 1 - (a.length : Int)) (by omega) (by omega), if_pos (by omega)]
      · have hval := valFrom_snoc p c 0
        have hv : val p ≤ 9999 := (valFrom_small p 0 0 hd (by omega) (.inl ⟨rfl, rfl⟩)).le
        have hval' : val (p ++ [c]) = 10 * val p + (c.toNat - 48) := hval
        obtain ⟨k, n, e, is, h1, h2⟩ := ih (p ++ [c]) (by rw [hsp]; simp) (by intro x hx; simp at hx; rcases hx with hx | rfl; exact hd x hx; exact hc) (by simp; omega)
        refine ⟨k + 2, n, e, is, ?_, h2⟩
        rw [spec_digitsAt.l0, if_pos (by omega), if_pos (by omega), hb, if_pos (by omega), decide_eq_true (by omega)]
        have hl2 : (((a.length + p.length : Nat) : Int) + 1) = ((a.length + (p ++ [c]).length : Nat) : Int) := by rw [List.length_append, List.length_singleton]; omega
        generalize val (p ++ [c]) = v2 at *
        generalize val p = v1 at *
        have hv2 : 10 * (v1 : Int) + ((c.toNat : Int) - 48) % 256 = (v2 : Int) := by omega
        rw [spec_digitsAt.j1, if_pos rfl, if_pos (by omega), if_pos (by omega), hb]
        rw [wr64 (((a.length + p.length : Nat) : Int) + 1) (by omega) (by omega), wr64 (10 * (v1 : Int)) (by omega) (by omega), hv2, wr64 (v2 : Int) (by omega) (by omega), wr64 (((a.length + p.length : Nat) : Int) + 1 - (a.length : Int)) (by omega) (by omega), if_neg (by omega), hl2]
        exact h1
    · obtain ⟨n, e, is, h1, h2⟩ := stop (c :: r) p hsp hd hl
      refine ⟨2, n, e, is, ?_, h2⟩
      rw [spec_digitsAt.l0, if_pos (by omega), if_pos (by omega), hb]
      by_cases h48 : 48 ≤ c.toNat
      · rw [if_pos (by omega), decide_eq_false (fun h => hc ⟨h48, by omega⟩)]
        exact h1
      · rw [if_neg (by omega)]
        exact h1
theorem digits_calls (a t : List UInt8) (hs : (a ++ t).length ≤ 2147483647) (w : World) :
    Calls Tryd.prog 25 #[.string (bs (a ++ t)), .int .i64 (a.length : Int)] w fun e w' => ∃ n m is, e = .returned (.tuple #[.int .i64 n, .int .i64 m, .bool is]) ∧ DigitsOk (a ++ t) a n m is ∧ Below w.heap.size w w' := by
  obtain ⟨k, n, m, is, h1, h2⟩ := digits_l0 (a ++ t) a hs t [] rfl (by simp) (by simp)
  refine (spec_digitsAt.calls k (bs (a ++ t)) (a.length : Int) n m is w h1).mono ?_
  rintro e w' ⟨rfl, hd⟩
  exact ⟨n, m, is, rfl, h2, hd.below⟩
end Go.Proofs.YthfihamhkhnckaaDoor

namespace Go.Proofs.YthfihamhkhnckaaDoor
open Go.RowKit Go.ChangeShapes Go.Proofs.YthfihamhkhnckaaDoorW.PrintWords


abbrev tokV (k a b : Int) (aw : Bool) : Value := .agg #[.int .i64 k, .int .i64 a, .int .i64 b, .bool aw]
abbrev tokO (k a b : Int) (aw : Bool) : Obj := .cells #[.int .i64 k, .int .i64 a, .int .i64 b, .bool aw] 34 (0, 0)
/-- A part with its sign R has the body S, letters. -/
def Sgn (R S : ByteArray) (aw : Bool) : Prop :=
  (R.toList == [101, 118, 101, 110]) = false ∧ (R.toList == [111, 100, 100]) = false ∧
    (R.toList.isEmpty = true ∧ aw = false ∧ R = S ∨
      ∃ hr : 0 < R.size, R.toList.isEmpty = false ∧
        ((((R[0]'hr).toNat : Int) = 33 ∧ aw = true ∧ R.extract 1 R.size = S) ∨ (((R[0]'hr).toNat : Int) = 110 ∧ aw = true ∧ R.extract 1 R.size = S) ∨
          (∃ x : Int, ((R[0]'hr).toNat : Int) = x ∧ (x == 33) = false ∧ (x == 110) = false ∧ aw = false ∧ R = S)))
/-- The two blocks that reading a part makes. -/
structure Fr (w : World) (k a b : Int) (aw : Bool) (wc : World) : Prop where
  res : wc.heap[w.heap.size]? = some (tokO 0 0 0 false)
  tok : wc.heap[w.heap.size + 1]? = some (tokO k a b aw)
  below : Below w.heap.size w wc
theorem Fr.of (w : World) (aw : Bool) : Fr w 0 0 0 aw ((w.alloc (tokO 0 0 0 false)).alloc (tokO 0 0 0 aw)) :=
  ⟨blk_alloc (blk_new w _) _, by have := blk_new (w.alloc (tokO 0 0 0 false)) (tokO 0 0 0 aw); rwa [World.size_alloc] at this, below_alloc (below_alloc (Below.refl _ w) _) _⟩
theorem Fr.step {w w1 w2 : World} {k a b : Int} {aw : Bool} (h : Fr w k a b aw w1) (hB : Below w1.heap.size w1 w2) : Fr w k a b aw w2 :=
  ⟨blk_below h.res hB, blk_below h.tok hB, below_step h.below hB⟩
theorem Fr.facts {w wc : World} {k a b : Int} {aw : Bool} (h : Fr w k a b aw wc) :
    wc.cell? ⟨w.heap.size + 1, 0, none⟩ = some (.int .i64 k) ∧ wc.cell? ⟨w.heap.size + 1, 1, none⟩ = some (.int .i64 a) ∧ wc.cell? ⟨w.heap.size + 1, 2, none⟩ = some (.int .i64 b) ∧ wc.cell? ⟨w.heap.size + 1, 3, none⟩ = some (.bool aw) ∧
    wc.frozen? ⟨w.heap.size + 1, 0, none⟩ = false ∧ wc.frozen? ⟨w.heap.size + 1, 1, none⟩ = false ∧ wc.frozen? ⟨w.heap.size + 1, 2, none⟩ = false ∧ wc.frozen? ⟨w.heap.size + 1, 3, none⟩ = false ∧
    wc.cell? ⟨w.heap.size, 0, none⟩ = some (.int .i64 0) ∧ wc.cell? ⟨w.heap.size, 1, none⟩ = some (.int .i64 0) ∧ wc.cell? ⟨w.heap.size, 2, none⟩ = some (.int .i64 0) ∧ wc.cell? ⟨w.heap.size, 3, none⟩ = some (.bool false) ∧
    wc.frozen? ⟨w.heap.size, 0, none⟩ = false ∧ wc.frozen? ⟨w.heap.size, 1, none⟩ = false ∧ wc.frozen? ⟨w.heap.size, 2, none⟩ = false ∧ wc.frozen? ⟨w.heap.size, 3, none⟩ = false ∧ w.heap.size ≠ w.heap.size + 1 ∧ w.heap.size + 1 ≠ w.heap.size :=
  ⟨(blk_cell h.tok 0).trans rfl, (blk_cell h.tok 1).trans rfl, (blk_cell h.tok 2).trans rfl, (blk_cell h.tok 3).trans rfl, blk_frozen h.tok 0, blk_frozen h.tok 1, blk_frozen h.tok 2, blk_frozen h.tok 3,
    (blk_cell h.res 0).trans rfl, (blk_cell h.res 1).trans rfl, (blk_cell h.res 2).trans rfl, (blk_cell h.res 3).trans rfl, blk_frozen h.res 0, blk_frozen h.res 1, blk_frozen h.res 2, blk_frozen h.res 3, by omega, by omega⟩
theorem Fr.put {w w1 : World} {aw : Bool} (h : Fr w 0 0 0 aw w1) (n : Int) : Fr w 2 n 0 aw ((w1.setCell ⟨w.heap.size + 1, 0, none⟩ (.int .i64 2)).setCell ⟨w.heap.size + 1, 1, none⟩ (.int .i64 n)) :=
  ⟨blk_far (blk_far h.res (by show w.heap.size ≠ w.heap.size + 1; omega) _) (by show w.heap.size ≠ w.heap.size + 1; omega) _,
    blk_put (cs := #[.int .i64 2, .int .i64 0, .int .i64 0, .bool aw]) (blk_put (cs := #[.int .i64 0, .int .i64 0, .int .i64 0, .bool aw]) h.tok 0 _ rfl) 1 _ rfl,
    below_set (below_set h.below (Nat.le_succ _)) (Nat.le_succ _)⟩
/-- Digits that reach a text's end. -/
theorem DigitsOk.whole {a t : List UInt8} {n m : Int} (h : DigitsOk (a ++ t) a n m true) (hm : m = ((a ++ t).length : Nat)) : Num t ∧ n = (val t : Nat) := by
  obtain ⟨e', rfl, h1, h2, h3⟩ := h
  obtain ⟨q, r, h4, h5, h6, h7⟩ := h3 rfl
  have h8 := List.append_cancel_left h4
  have : (a ++ t).length = a.length + (q.length + r.length) := by rw [h4]; simp
  have hr : r = [] := List.eq_nil_of_length_eq_zero (by omega)
  rw [hr, List.append_nil] at h8
  rw [h8]
  exact ⟨h5, h6⟩
theorem bs_self (S : ByteArray) : bs S.toList = S := by rw [ByteArray.toList_eq]; cases S with | mk d => cases d; rfl
/-- Digits read at place j of letters. -/
def Dg (S : ByteArray) (j : Nat) (n m : Int) (is : Bool) : Prop := DigitsOk S.toList (S.toList.take j) n m is
theorem size_toList (S : ByteArray) : S.toList.length = S.size := by rw [ByteArray.toList_eq]; cases S with | mk d => cases d; rfl
theorem Dg.at_place {S : ByteArray} {j : Nat} {n m : Int} (h : Dg S j n m true) : ∃ M : Nat, m = (M : Int) ∧ M ≤ S.size := by
  obtain ⟨e', rfl, _, h2, _⟩ := h
  exact ⟨e', rfl, by rw [← size_toList]; exact h2⟩
theorem digits_at (S : ByteArray) (j : Nat) (hj : j ≤ S.size) (hs : S.size ≤ 2147483647) (w : World) :
    Calls Tryd.prog 25 #[.string S, .int .i64 (j : Int)] w fun e w' => ∃ n m is, e = .returned (.tuple #[.int .i64 n, .int .i64 m, .bool is]) ∧ Dg S j n m is ∧ Below w.heap.size w w' := by
  have h1 := size_toList S
  have h := digits_calls (S.toList.take j) (S.toList.drop j) (by rw [List.take_append_drop]; omega) w
  rwa [List.take_append_drop, bs_self, List.length_take, h1, Nat.min_eq_left hj] at h
end Go.Proofs.YthfihamhkhnckaaDoor

namespace Go.Proofs.YthfihamhkhnckaaDoor
open Go.RowKit Go.ChangeShapes Go.Proofs.YthfihamhkhnckaaDoorW.PrintWords

set_option maxRecDepth 100000 in
set_option maxHeartbeats 8000000 in
theorem tok_l (R S : ByteArray) (aw : Bool) (hsg : Sgn R S aw) (e1 : (S.toList == [108]) = true) (w : World) :
    Calls Tryd.prog 14 #[.string R] w fun e w' => e = .returned (.tuple #[tokV 10 0 0 aw, .bool true]) ∧ Below w.heap.size w w' := by
  obtain ⟨he0, he1, hh⟩ := hsg
  go_enter Tryd.func14, Tryd.ntmps14
  go_upto_region 7 with fail
  go_cut [43] from 24 to 43 (fun s wc => s = .bool aw ∧ wc = (w.alloc (tokO 0 0 0 false)).alloc (tokO 0 0 0 false))
  case first =>
    rcases hh with ⟨h1, rfl, rfl⟩ | ⟨hr, h1, ⟨h2, rfl, h3⟩ | ⟨h2, rfl, h3⟩ | ⟨x, h2, h3, h4, rfl, rfl⟩⟩
    · go_wp2_with fail
      go_meet
      exact ⟨rfl, rfl⟩
    · go_wp2_with fail
      go_meet
      exact ⟨rfl, rfl⟩
    · go_wp2_with fail
      go_meet
      exact ⟨rfl, rfl⟩
    · go_wp2_with fail
      go_meet
      exact ⟨rfl, rfl⟩
  obtain ⟨rfl, rfl⟩ := hcut
  go_upto_if 43 with fail
  go_cut [0] from 24 to 46 (fun s wc => s = .string S ∧ Fr w 0 0 0 aw wc)
  case first =>
    rcases hh with ⟨h1, rfl, rfl⟩ | ⟨hr, h1, ⟨h2, rfl, h3⟩ | ⟨h2, rfl, h3⟩ | ⟨x, h2, h3, h4, rfl, rfl⟩⟩
    · go_wp2_with fail
      go_meet
      exact ⟨rfl, Fr.of w false⟩
    · go_wp2_with fail
      go_meet
      exact ⟨rfl, Fr.of w true⟩
    · go_wp2_with fail
      go_meet
      exact ⟨rfl, Fr.of w true⟩
    · go_wp2_with fail
      go_meet
      exact ⟨rfl, Fr.of w false⟩
  clear he0 he1 hh
  obtain ⟨rfl, hF0⟩ := hcut
  have HF := Lib.hid hF0
  clear hF0
  obtain ⟨c0, c1, c2, c3, f0, f1, f2, f3, d0, d1, d2, d3, g0, g1, g2, g3, hne, hne2⟩ := HF.out.facts
  go_wp2_with fail
  refine bodyPost_ret (results_ct rfl _ _ w.heap.size 34 #[.int .i64 10, .int .i64 0, .int .i64 0, .bool aw] (0, 0) _ rfl (by refine blk_put (cs := #[.int .i64 10, .int .i64 0, .int .i64 0, .bool false]) ?_ 3 _ rfl; refine blk_put (cs := #[.int .i64 10, .int .i64 0, .int .i64 0, .bool false]) ?_ 2 _ rfl; refine blk_put (cs := #[.int .i64 10, .int .i64 0, .int .i64 0, .bool false]) ?_ 1 _ rfl; refine blk_put (cs := #[.int .i64 0, .int .i64 0, .int .i64 0, .bool false]) ?_ 0 _ rfl; refine blk_far ?_ hne _; exact HF.out.res) Tryd.underlying34 rfl (by kernel_rfl)) rfl ?_
  exact ⟨rfl, (below_set (below_set (below_set (below_set (below_set HF.out.below (Nat.le_succ _)) (Nat.le_refl _)) (Nat.le_refl _)) (Nat.le_refl _)) (Nat.le_refl _))⟩

set_option maxRecDepth 100000 in
set_option maxHeartbeats 8000000 in
theorem tok_all (R S : ByteArray) (aw : Bool) (hsg : Sgn R S aw) (e1 : (S.toList == [108]) = false) (e2 : (S.toList == [45, 108]) = true) (w : World) :
    Calls Tryd.prog 14 #[.string R] w fun e w' => e = .returned (.tuple #[tokV 6 0 0 aw, .bool true]) ∧ Below w.heap.size w w' := by
  obtain ⟨he0, he1, hh⟩ := hsg
  go_enter Tryd.func14, Tryd.ntmps14
  go_upto_region 7 with fail
  go_cut [43] from 24 to 43 (fun s wc => s = .bool aw ∧ wc = (w.alloc (tokO 0 0 0 false)).alloc (tokO 0 0 0 false))
  case first =>
    rcases hh with ⟨h1, rfl, rfl⟩ | ⟨hr, h1, ⟨h2, rfl, h3⟩ | ⟨h2, rfl, h3⟩ | ⟨x, h2, h3, h4, rfl, rfl⟩⟩
    · go_wp2_with fail
      go_meet
      exact ⟨rfl, rfl⟩
    · go_wp2_with fail
      go_meet
      exact ⟨rfl, rfl⟩
    · go_wp2_with fail
      go_meet
      exact ⟨rfl, rfl⟩
    · go_wp2_with fail
      go_meet
      exact ⟨rfl, rfl⟩
  obtain ⟨rfl, rfl⟩ := hcut
  go_upto_if 43 with fail
  go_cut [0] from 24 to 46 (fun s wc => s = .string S ∧ Fr w 0 0 0 aw wc)
  case first =>
    rcases hh with ⟨h1, rfl, rfl⟩ | ⟨hr, h1, ⟨h2, rfl, h3⟩ | ⟨h2, rfl, h3⟩ | ⟨x, h2, h3, h4, rfl, rfl⟩⟩
    · go_wp2_with fail
      go_meet
      exact ⟨rfl, Fr.of w false⟩
    · go_wp2_with fail
      go_meet
      exact ⟨rfl, Fr.of w true⟩
    · go_wp2_with fail
      go_meet
      exact ⟨rfl, Fr.of w true⟩
    · go_wp2_with fail
      go_meet
      exact ⟨rfl, Fr.of w false⟩
  clear he0 he1 hh
  obtain ⟨rfl, hF0⟩ := hcut
  have HF := Lib.hid hF0
  clear hF0
  obtain ⟨c0, c1, c2, c3, f0, f1, f2, f3, d0, d1, d2, d3, g0, g1, g2, g3, hne, hne2⟩ := HF.out.facts
  go_wp2_with fail
  refine bodyPost_ret (results_ct rfl _ _ w.heap.size 34 #[.int .i64 6, .int .i64 0, .int .i64 0, .bool aw] (0, 0) _ rfl (by refine blk_put (cs := #[.int .i64 6, .int .i64 0, .int .i64 0, .bool false]) ?_ 3 _ rfl; refine blk_put (cs := #[.int .i64 6, .int .i64 0, .int .i64 0, .bool false]) ?_ 2 _ rfl; refine blk_put (cs := #[.int .i64 6, .int .i64 0, .int .i64 0, .bool false]) ?_ 1 _ rfl; refine blk_put (cs := #[.int .i64 0, .int .i64 0, .int .i64 0, .bool false]) ?_ 0 _ rfl; refine blk_far ?_ hne _; exact HF.out.res) Tryd.underlying34 rfl (by kernel_rfl)) rfl ?_
  exact ⟨rfl, (below_set (below_set (below_set (below_set (below_set HF.out.below (Nat.le_succ _)) (Nat.le_refl _)) (Nat.le_refl _)) (Nat.le_refl _)) (Nat.le_refl _))⟩

set_option maxRecDepth 100000 in
set_option maxHeartbeats 8000000 in
theorem tok_toLast (R S : ByteArray) (aw : Bool) (hsg : Sgn R S aw) (e1 : (S.toList == [108]) = false) (e2 : (S.toList == [45, 108]) = false) (hsz : 3 < S.size) (e3 : ((S.extract 0 3).toList == [45, 108, 45]) = true) (K : Int → Int → Bool → Prop) (hD : ∀ w, Calls Tryd.prog 25 #[.string S, .int .i64 3] w fun e w' => ∃ n m is, e = .returned (.tuple #[.int .i64 n, .int .i64 m, .bool is]) ∧ K n m is ∧ Below w.heap.size w w') (w : World) :
    Calls Tryd.prog 14 #[.string R] w fun e w' => ∃ n m is ok, e = .returned (.tuple #[tokV 7 n 0 aw, .bool ok]) ∧ K n m is ∧ (ok = true → is = true ∧ m = (S.size : Nat)) ∧ Below w.heap.size w w' := by
  obtain ⟨he0, he1, hh⟩ := hsg
  go_enter Tryd.func14, Tryd.ntmps14
  go_upto_region 7 with fail
  go_cut [43] from 24 to 43 (fun s wc => s = .bool aw ∧ wc = (w.alloc (tokO 0 0 0 false)).alloc (tokO 0 0 0 false))
  case first =>
    rcases hh with ⟨h1, rfl, rfl⟩ | ⟨hr, h1, ⟨h2, rfl, h3⟩ | ⟨h2, rfl, h3⟩ | ⟨x, h2, h3, h4, rfl, rfl⟩⟩
    · go_wp2_with fail
      go_meet
      exact ⟨rfl, rfl⟩
    · go_wp2_with fail
      go_meet
      exact ⟨rfl, rfl⟩
    · go_wp2_with fail
      go_meet
      exact ⟨rfl, rfl⟩
    · go_wp2_with fail
      go_meet
      exact ⟨rfl, rfl⟩
  obtain ⟨rfl, rfl⟩ := hcut
  go_upto_if 43 with fail
  go_cut [0] from 24 to 46 (fun s wc => s = .string S ∧ Fr w 0 0 0 aw wc)
  case first =>
    rcases hh with ⟨h1, rfl, rfl⟩ | ⟨hr, h1, ⟨h2, rfl, h3⟩ | ⟨h2, rfl, h3⟩ | ⟨x, h2, h3, h4, rfl, rfl⟩⟩
    · go_wp2_with fail
      go_meet
      exact ⟨rfl, Fr.of w false⟩
    · go_wp2_with fail
      go_meet
      exact ⟨rfl, Fr.of w true⟩
    · go_wp2_with fail
      go_meet
      exact ⟨rfl, Fr.of w true⟩
    · go_wp2_with fail
      go_meet
      exact ⟨rfl, Fr.of w false⟩
  clear he0 he1 hh
  obtain ⟨rfl, hF0⟩ := hcut
  have HF := Lib.hid hF0
  clear hF0
  have HD := Lib.hid hD
  clear hD
  have z1 : decide (3 < (S.size : Int)) = true := decide_eq_true (by omega)
  have z2 : decide (3 < S.size) = true := decide_eq_true hsz
  go_wp2_with (first | (go_at_call 25; with_reducible refine (HD.out _).mono ?_; rintro e w1 ⟨n, m, is, rfl, hK, hB⟩; have HF1 := Lib.hid (HF.out.step hB); have HK := Lib.hid hK; obtain ⟨c0, c1, c2, c3, f0, f1, f2, f3, d0, d1, d2, d3, g0, g1, g2, g3, hne, hne2⟩ := HF1.out.facts; clear hK hB HF))
  · refine bodyPost_ret (results_ct rfl _ _ w.heap.size 34 #[.int .i64 7, .int .i64 n, .int .i64 0, .bool aw] (0, 0) _ rfl (by refine blk_put (cs := #[.int .i64 7, .int .i64 n, .int .i64 0, .bool false]) ?_ 3 _ rfl; refine blk_put (cs := #[.int .i64 7, .int .i64 n, .int .i64 0, .bool false]) ?_ 2 _ rfl; refine blk_put (cs := #[.int .i64 7, .int .i64 0, .int .i64 0, .bool false]) ?_ 1 _ rfl; refine blk_put (cs := #[.int .i64 0, .int .i64 0, .int .i64 0, .bool false]) ?_ 0 _ rfl; refine blk_far ?_ hne _; refine blk_far ?_ hne _; exact HF1.out.res) Tryd.underlying34 rfl (by kernel_rfl)) rfl ?_
    exact ⟨n, m, _, (m == (S.size : Int)), rfl, HK.out, fun h => ⟨by assumption, eq_of_beq h⟩, (below_set (below_set (below_set (below_set (below_set (below_set HF1.out.below (Nat.le_succ _)) (Nat.le_succ _)) (Nat.le_refl _)) (Nat.le_refl _)) (Nat.le_refl _)) (Nat.le_refl _))⟩
  · refine bodyPost_ret (results_ct rfl _ _ w.heap.size 34 #[.int .i64 7, .int .i64 n, .int .i64 0, .bool aw] (0, 0) _ rfl (by refine blk_put (cs := #[.int .i64 7, .int .i64 n, .int .i64 0, .bool false]) ?_ 3 _ rfl; refine blk_put (cs := #[.int .i64 7, .int .i64 n, .int .i64 0, .bool false]) ?_ 2 _ rfl; refine blk_put (cs := #[.int .i64 7, .int .i64 0, .int .i64 0, .bool false]) ?_ 1 _ rfl; refine blk_put (cs := #[.int .i64 0, .int .i64 0, .int .i64 0, .bool false]) ?_ 0 _ rfl; refine blk_far ?_ hne _; refine blk_far ?_ hne _; exact HF1.out.res) Tryd.underlying34 rfl (by kernel_rfl)) rfl ?_
    exact ⟨n, m, _, false, rfl, HK.out, (fun h => by cases h), (below_set (below_set (below_set (below_set (below_set (below_set HF1.out.below (Nat.le_succ _)) (Nat.le_succ _)) (Nat.le_refl _)) (Nat.le_refl _)) (Nat.le_refl _)) (Nat.le_refl _))⟩
end Go.Proofs.YthfihamhkhnckaaDoor

namespace Go.Proofs.YthfihamhkhnckaaDoor
open Go.RowKit Go.ChangeShapes Go.Proofs.YthfihamhkhnckaaDoorW.PrintWords

set_option maxRecDepth 100000 in
set_option maxHeartbeats 8000000 in
theorem tok_before (R S : ByteArray) (aw : Bool) (hsg : Sgn R S aw) (e1 : (S.toList == [108]) = false) (e2 : (S.toList == [45, 108]) = false) (n3 : 3 < S.size → ((S.extract 0 3).toList == [45, 108, 45]) = false) (N : Nat) (hN : S.size = N + 1) (hmx : N ≤ 2147483647) (hsz : 2 < S.size) (e3 : ((S.extract 0 2).toList == [108, 45]) = true) (K : Int → Int → Bool → Prop) (hD : ∀ w, Calls Tryd.prog 25 #[.string S, .int .i64 2] w fun e w' => ∃ n m is, e = .returned (.tuple #[.int .i64 n, .int .i64 m, .bool is]) ∧ K n m is ∧ Below w.heap.size w w') (w : World) :
    Calls Tryd.prog 14 #[.string R] w fun e w' => ∃ k n m is ok, e = .returned (.tuple #[tokV k n 0 aw, .bool ok]) ∧ K n m is ∧ (ok = true → is = true ∧ (k = 11 ∧ m = (N : Int) + 1 ∨ k = 12 ∧ m = (N : Int) ∧ ((S[N]'(by omega)).toNat : Int) = 45)) ∧ Below w.heap.size w w' := by
  obtain ⟨he0, he1, hh⟩ := hsg
  go_enter Tryd.func14, Tryd.ntmps14
  go_upto_region 7 with fail
  go_cut [43] from 24 to 43 (fun s wc => s = .bool aw ∧ wc = (w.alloc (tokO 0 0 0 false)).alloc (tokO 0 0 0 false))
  case first =>
    rcases hh with ⟨h1, rfl, rfl⟩ | ⟨hr, h1, ⟨h2, rfl, h3⟩ | ⟨h2, rfl, h3⟩ | ⟨x, h2, h3, h4, rfl, rfl⟩⟩
    · go_wp2_with fail
      go_meet
      exact ⟨rfl, rfl⟩
    · go_wp2_with fail
      go_meet
      exact ⟨rfl, rfl⟩
    · go_wp2_with fail
      go_meet
      exact ⟨rfl, rfl⟩
    · go_wp2_with fail
      go_meet
      exact ⟨rfl, rfl⟩
  obtain ⟨rfl, rfl⟩ := hcut
  go_upto_if 43 with fail
  go_cut [0] from 24 to 46 (fun s wc => s = .string S ∧ Fr w 0 0 0 aw wc)
  case first =>
    rcases hh with ⟨h1, rfl, rfl⟩ | ⟨hr, h1, ⟨h2, rfl, h3⟩ | ⟨h2, rfl, h3⟩ | ⟨x, h2, h3, h4, rfl, rfl⟩⟩
    · go_wp2_with fail
      go_meet
      exact ⟨rfl, Fr.of w false⟩
    · go_wp2_with fail
      go_meet
      exact ⟨rfl, Fr.of w true⟩
    · go_wp2_with fail
      go_meet
      exact ⟨rfl, Fr.of w true⟩
    · go_wp2_with fail
      go_meet
      exact ⟨rfl, Fr.of w false⟩
  clear he0 he1 hh
  obtain ⟨rfl, hF0⟩ := hcut
  have HF := Lib.hid hF0
  clear hF0
  go_upto_region 16 with fail
  go_cut [57] from 24 to 65 (fun s wc => s = .bool false ∧ Fr w 0 0 0 aw wc)
  case first =>
    by_cases hsz : 3 < S.size
    · have z1 : decide (3 < (S.size : Int)) = true := decide_eq_true (by omega)
      have z2 : decide (3 < S.size) = true := decide_eq_true hsz
      have z3 := n3 hsz
      go_wp2_with fail
      go_meet
      exact ⟨rfl, HF.out⟩
    · have z1 : decide (3 < (S.size : Int)) = false := decide_eq_false (by omega)
      have z2 : decide (3 < S.size) = false := decide_eq_false hsz
      go_wp2_with fail
      go_meet
      exact ⟨rfl, HF.out⟩
  clear HF
  obtain ⟨rfl, hF0⟩ := hcut
  have HF := Lib.hid hF0
  clear hF0
  have HD := Lib.hid hD
  clear hD
  have z1 : decide (2 < (S.size : Int)) = true := decide_eq_true (by omega)
  have z2 : decide (2 < S.size) = true := decide_eq_true hsz
  go_upto_region 23 with (first | (go_at_call 25; with_reducible refine (HD.out _).mono ?_; rintro e w1 ⟨n, m, is, rfl, hK, hB⟩; have HF1 := Lib.hid (HF.out.step hB); have HK := Lib.hid hK; obtain ⟨c0, c1, c2, c3, f0, f1, f2, f3, d0, d1, d2, d3, g0, g1, g2, g3, hne, hne2⟩ := HF1.out.facts; clear hK hB HF))
  cases is with
  | false =>
    go_wp2_with fail
    refine bodyPost_ret (results_ct rfl _ _ w.heap.size 34 #[.int .i64 11, .int .i64 n, .int .i64 0, .bool aw] (0, 0) _ rfl (by refine blk_put (cs := #[.int .i64 11, .int .i64 n, .int .i64 0, .bool false]) ?_ 3 _ rfl; refine blk_put (cs := #[.int .i64 11, .int .i64 n, .int .i64 0, .bool false]) ?_ 2 _ rfl; refine blk_put (cs := #[.int .i64 11, .int .i64 0, .int .i64 0, .bool false]) ?_ 1 _ rfl; refine blk_put (cs := #[.int .i64 0, .int .i64 0, .int .i64 0, .bool false]) ?_ 0 _ rfl; refine blk_far ?_ hne _; refine blk_far ?_ hne _; exact HF1.out.res) Tryd.underlying34 rfl (by kernel_rfl)) rfl ?_
    exact ⟨11, n, m, false, false, rfl, HK.out, (fun h => by cases h), (below_set (below_set (below_set (below_set (below_set (below_set HF1.out.below (Nat.le_succ _)) (Nat.le_succ _)) (Nat.le_refl _)) (Nat.le_refl _)) (Nat.le_refl _)) (Nat.le_refl _))⟩
  | true =>
    by_cases hm : m = (N : Int)
    · subst hm
      obtain ⟨y, hy⟩ : ∃ y : Int, ((S[N]'(by omega)).toNat : Int) = y := ⟨_, rfl⟩
      by_cases hy45 : y = 45
      · subst hy45
        go_wp2_with fail
        refine bodyPost_ret (results_ct rfl _ _ w.heap.size 34 #[.int .i64 12, .int .i64 n, .int .i64 0, .bool aw] (0, 0) _ rfl (by refine blk_put (cs := #[.int .i64 12, .int .i64 n, .int .i64 0, .bool false]) ?_ 3 _ rfl; refine blk_put (cs := #[.int .i64 12, .int .i64 n, .int .i64 0, .bool false]) ?_ 2 _ rfl; refine blk_put (cs := #[.int .i64 12, .int .i64 0, .int .i64 0, .bool false]) ?_ 1 _ rfl; refine blk_put (cs := #[.int .i64 0, .int .i64 0, .int .i64 0, .bool false]) ?_ 0 _ rfl; refine blk_far ?_ hne _; refine blk_far ?_ hne _; refine blk_far ?_ hne _; exact HF1.out.res) Tryd.underlying34 rfl (by kernel_rfl)) rfl ?_
        exact ⟨12, n, N, true, _, rfl, HK.out, (fun _ => ⟨rfl, .inr ⟨rfl, rfl, hy⟩⟩), (below_set (below_set (below_set (below_set (below_set (below_set (below_set HF1.out.below (Nat.le_succ _)) (Nat.le_succ _)) (Nat.le_succ _)) (Nat.le_refl _)) (Nat.le_refl _)) (Nat.le_refl _)) (Nat.le_refl _))⟩
      · have e4 : (y == 45) = false := beq_eq_false_iff_ne.2 hy45
        go_wp2_with fail
        refine bodyPost_ret (results_ct rfl _ _ w.heap.size 34 #[.int .i64 11, .int .i64 n, .int .i64 0, .bool aw] (0, 0) _ rfl (by refine blk_put (cs := #[.int .i64 11, .int .i64 n, .int .i64 0, .bool false]) ?_ 3 _ rfl; refine blk_put (cs := #[.int .i64 11, .int .i64 n, .int .i64 0, .bool false]) ?_ 2 _ rfl; refine blk_put (cs := #[.int .i64 11, .int .i64 0, .int .i64 0, .bool false]) ?_ 1 _ rfl; refine blk_put (cs := #[.int .i64 0, .int .i64 0, .int .i64 0, .bool false]) ?_ 0 _ rfl; refine blk_far ?_ hne _; refine blk_far ?_ hne _; exact HF1.out.res) Tryd.underlying34 rfl (by kernel_rfl)) rfl ?_
        exact ⟨11, n, N, true, _, rfl, HK.out, (fun h => ⟨rfl, .inl ⟨rfl, by simpa using h⟩⟩), (below_set (below_set (below_set (below_set (below_set (below_set HF1.out.below (Nat.le_succ _)) (Nat.le_succ _)) (Nat.le_refl _)) (Nat.le_refl _)) (Nat.le_refl _)) (Nat.le_refl _))⟩
    · have e4 : (m == (N : Int)) = false := beq_eq_false_iff_ne.2 hm
      go_wp2_with fail
      refine bodyPost_ret (results_ct rfl _ _ w.heap.size 34 #[.int .i64 11, .int .i64 n, .int .i64 0, .bool aw] (0, 0) _ rfl (by refine blk_put (cs := #[.int .i64 11, .int .i64 n, .int .i64 0, .bool false]) ?_ 3 _ rfl; refine blk_put (cs := #[.int .i64 11, .int .i64 n, .int .i64 0, .bool false]) ?_ 2 _ rfl; refine blk_put (cs := #[.int .i64 11, .int .i64 0, .int .i64 0, .bool false]) ?_ 1 _ rfl; refine blk_put (cs := #[.int .i64 0, .int .i64 0, .int .i64 0, .bool false]) ?_ 0 _ rfl; refine blk_far ?_ hne _; refine blk_far ?_ hne _; exact HF1.out.res) Tryd.underlying34 rfl (by kernel_rfl)) rfl ?_
      exact ⟨11, n, m, true, _, rfl, HK.out, (fun h => ⟨rfl, .inl ⟨rfl, by simpa using h⟩⟩), (below_set (below_set (below_set (below_set (below_set (below_set HF1.out.below (Nat.le_succ _)) (Nat.le_succ _)) (Nat.le_refl _)) (Nat.le_refl _)) (Nat.le_refl _)) (Nat.le_refl _))⟩
end Go.Proofs.YthfihamhkhnckaaDoor

namespace Go.Proofs.YthfihamhkhnckaaDoor
open Go.RowKit Go.ChangeShapes Go.Proofs.YthfihamhkhnckaaDoorW.PrintWords

set_option maxRecDepth 100000 in
set_option maxHeartbeats 8000000 in
theorem tok_upTo (R S : ByteArray) (aw : Bool) (hsg : Sgn R S aw) (e1 : (S.toList == [108]) = false) (e2 : (S.toList == [45, 108]) = false) (n3 : 3 < S.size → ((S.extract 0 3).toList == [45, 108, 45]) = false) (n2 : 2 < S.size → ((S.extract 0 2).toList == [108, 45]) = false) (hsz : 1 < S.size) (e3 : ((S[0]'(by omega)).toNat : Int) = 45) (K : Int → Int → Bool → Prop) (hD : ∀ w, Calls Tryd.prog 25 #[.string S, .int .i64 1] w fun e w' => ∃ n m is, e = .returned (.tuple #[.int .i64 n, .int .i64 m, .bool is]) ∧ K n m is ∧ Below w.heap.size w w') (w : World) :
    Calls Tryd.prog 14 #[.string R] w fun e w' => ∃ n m is ok, e = .returned (.tuple #[tokV 5 n 0 aw, .bool ok]) ∧ K n m is ∧ (ok = true → is = true ∧ m = (S.size : Nat)) ∧ Below w.heap.size w w' := by
  obtain ⟨he0, he1, hh⟩ := hsg
  go_enter Tryd.func14, Tryd.ntmps14
  go_upto_region 7 with fail
  go_cut [43] from 24 to 43 (fun s wc => s = .bool aw ∧ wc = (w.alloc (tokO 0 0 0 false)).alloc (tokO 0 0 0 false))
  case first =>
    rcases hh with ⟨h1, rfl, rfl⟩ | ⟨hr, h1, ⟨h2, rfl, h3⟩ | ⟨h2, rfl, h3⟩ | ⟨x, h2, h3, h4, rfl, rfl⟩⟩
    · go_wp2_with fail
      go_meet
      exact ⟨rfl, rfl⟩
    · go_wp2_with fail
      go_meet
      exact ⟨rfl, rfl⟩
    · go_wp2_with fail
      go_meet
      exact ⟨rfl, rfl⟩
    · go_wp2_with fail
      go_meet
      exact ⟨rfl, rfl⟩
  obtain ⟨rfl, rfl⟩ := hcut
  go_upto_if 43 with fail
  go_cut [0] from 24 to 46 (fun s wc => s = .string S ∧ Fr w 0 0 0 aw wc)
  case first =>
    rcases hh with ⟨h1, rfl, rfl⟩ | ⟨hr, h1, ⟨h2, rfl, h3⟩ | ⟨h2, rfl, h3⟩ | ⟨x, h2, h3, h4, rfl, rfl⟩⟩
    · go_wp2_with fail
      go_meet
      exact ⟨rfl, Fr.of w false⟩
    · go_wp2_with fail
      go_meet
      exact ⟨rfl, Fr.of w true⟩
    · go_wp2_with fail
      go_meet
      exact ⟨rfl, Fr.of w true⟩
    · go_wp2_with fail
      go_meet
      exact ⟨rfl, Fr.of w false⟩
  clear he0 he1 hh
  obtain ⟨rfl, hF0⟩ := hcut
  have HF := Lib.hid hF0
  clear hF0
  go_upto_region 16 with fail
  go_cut [57] from 24 to 65 (fun s wc => s = .bool false ∧ Fr w 0 0 0 aw wc)
  case first =>
    by_cases hsz : 3 < S.size
    · have z1 : decide (3 < (S.size : Int)) = true := decide_eq_true (by omega)
      have z2 : decide (3 < S.size) = true := decide_eq_true hsz
      have z3 := n3 hsz
      go_wp2_with fail
      go_meet
      exact ⟨rfl, HF.out⟩
    · have z1 : decide (3 < (S.size : Int)) = false := decide_eq_false (by omega)
      have z2 : decide (3 < S.size) = false := decide_eq_false hsz
      go_wp2_with fail
      go_meet
      exact ⟨rfl, HF.out⟩
  clear HF
  obtain ⟨rfl, hF0⟩ := hcut
  have HF := Lib.hid hF0
  clear hF0
  go_upto_region 20 with fail
  go_cut [83] from 24 to 91 (fun s wc => s = .bool false ∧ Fr w 0 0 0 aw wc)
  case first =>
    by_cases hsz : 2 < S.size
    · have z1 : decide (2 < (S.size : Int)) = true := decide_eq_true (by omega)
      have z2 : decide (2 < S.size) = true := decide_eq_true hsz
      have z3 := n2 hsz
      go_wp2_with fail
      go_meet
      exact ⟨rfl, HF.out⟩
    · have z1 : decide (2 < (S.size : Int)) = false := decide_eq_false (by omega)
      have z2 : decide (2 < S.size) = false := decide_eq_false hsz
      go_wp2_with fail
      go_meet
      exact ⟨rfl, HF.out⟩
  clear HF
  obtain ⟨rfl, hF0⟩ := hcut
  have HF := Lib.hid hF0
  clear hF0
  have HD := Lib.hid hD
  clear hD
  have z1 : decide (1 < (S.size : Int)) = true := decide_eq_true (by omega)
  have z2 : decide (1 < S.size) = true := decide_eq_true hsz
  go_wp2_with (first | (go_at_call 25; with_reducible refine (HD.out _).mono ?_; rintro e w1 ⟨n, m, is, rfl, hK, hB⟩; have HF1 := Lib.hid (HF.out.step hB); have HK := Lib.hid hK; obtain ⟨c0, c1, c2, c3, f0, f1, f2, f3, d0, d1, d2, d3, g0, g1, g2, g3, hne, hne2⟩ := HF1.out.facts; clear hK hB HF))
  · refine bodyPost_ret (results_ct rfl _ _ w.heap.size 34 #[.int .i64 5, .int .i64 n, .int .i64 0, .bool aw] (0, 0) _ rfl (by refine blk_put (cs := #[.int .i64 5, .int .i64 n, .int .i64 0, .bool false]) ?_ 3 _ rfl; refine blk_put (cs := #[.int .i64 5, .int .i64 n, .int .i64 0, .bool false]) ?_ 2 _ rfl; refine blk_put (cs := #[.int .i64 5, .int .i64 0, .int .i64 0, .bool false]) ?_ 1 _ rfl; refine blk_put (cs := #[.int .i64 0, .int .i64 0, .int .i64 0, .bool false]) ?_ 0 _ rfl; refine blk_far ?_ hne _; refine blk_far ?_ hne _; exact HF1.out.res) Tryd.underlying34 rfl (by kernel_rfl)) rfl ?_
    exact ⟨n, m, _, (m == (S.size : Int)), rfl, HK.out, fun h => ⟨by assumption, eq_of_beq h⟩, (below_set (below_set (below_set (below_set (below_set (below_set HF1.out.below (Nat.le_succ _)) (Nat.le_succ _)) (Nat.le_refl _)) (Nat.le_refl _)) (Nat.le_refl _)) (Nat.le_refl _))⟩
  · refine bodyPost_ret (results_ct rfl _ _ w.heap.size 34 #[.int .i64 5, .int .i64 n, .int .i64 0, .bool aw] (0, 0) _ rfl (by refine blk_put (cs := #[.int .i64 5, .int .i64 n, .int .i64 0, .bool false]) ?_ 3 _ rfl; refine blk_put (cs := #[.int .i64 5, .int .i64 n, .int .i64 0, .bool false]) ?_ 2 _ rfl; refine blk_put (cs := #[.int .i64 5, .int .i64 0, .int .i64 0, .bool false]) ?_ 1 _ rfl; refine blk_put (cs := #[.int .i64 0, .int .i64 0, .int .i64 0, .bool false]) ?_ 0 _ rfl; refine blk_far ?_ hne _; refine blk_far ?_ hne _; exact HF1.out.res) Tryd.underlying34 rfl (by kernel_rfl)) rfl ?_
    exact ⟨n, m, _, false, rfl, HK.out, (fun h => by cases h), (below_set (below_set (below_set (below_set (below_set (below_set HF1.out.below (Nat.le_succ _)) (Nat.le_succ _)) (Nat.le_refl _)) (Nat.le_refl _)) (Nat.le_refl _)) (Nat.le_refl _))⟩
end Go.Proofs.YthfihamhkhnckaaDoor

namespace Go.Proofs.YthfihamhkhnckaaDoor
open Go.RowKit Go.ChangeShapes Go.Proofs.YthfihamhkhnckaaDoorW.PrintWords

set_option maxRecDepth 100000 in
set_option maxHeartbeats 8000000 in
theorem tok_digits (R S : ByteArray) (aw : Bool) (hsg : Sgn R S aw) (e1 : (S.toList == [108]) = false) (e2 : (S.toList == [45, 108]) = false) (n3 : 3 < S.size → ((S.extract 0 3).toList == [45, 108, 45]) = false) (n2 : 2 < S.size → ((S.extract 0 2).toList == [108, 45]) = false) (n1 : ∀ h : 1 < S.size, (((S[0]'(by omega)).toNat : Int) == 45) = false) (hmx : S.size ≤ 2147483647) (w : World) :
    Calls Tryd.prog 14 #[.string R] w fun e w' => ∃ k n b ok, e = .returned (.tuple #[tokV k n b aw, .bool ok]) ∧ (ok = true → ∃ M : Nat, Dg S 0 n M true ∧ (k = 2 ∧ b = 0 ∧ (S.extract M S.size).toList = [] ∨ k = 3 ∧ b = 0 ∧ (S.extract M S.size).toList = [45] ∨ k = 8 ∧ b = 0 ∧ (S.extract M S.size).toList = [45, 108] ∨ k = 9 ∧ ((S.extract M S.size).extract 0 3).toList = [45, 108, 45] ∧ 3 < (S.extract M S.size).size ∧ Dg (S.extract M S.size) 3 b (S.extract M S.size).size true ∨ k = 4 ∧ (∃ h : 0 < (S.extract M S.size).size, (((S.extract M S.size)[0]'h).toNat : Int) = 45) ∧ Dg (S.extract M S.size) 1 b (S.extract M S.size).size true)) ∧ Below w.heap.size w w' := by
  obtain ⟨he0, he1, hh⟩ := hsg
  go_enter Tryd.func14, Tryd.ntmps14
  go_upto_region 7 with fail
  go_cut [43] from 24 to 43 (fun s wc => s = .bool aw ∧ wc = (w.alloc (tokO 0 0 0 false)).alloc (tokO 0 0 0 false))
  case first =>
    rcases hh with ⟨h1, rfl, rfl⟩ | ⟨hr, h1, ⟨h2, rfl, h3⟩ | ⟨h2, rfl, h3⟩ | ⟨x, h2, h3, h4, rfl, rfl⟩⟩
    · go_wp2_with fail
      go_meet
      exact ⟨rfl, rfl⟩
    · go_wp2_with fail
      go_meet
      exact ⟨rfl, rfl⟩
    · go_wp2_with fail
      go_meet
      exact ⟨rfl, rfl⟩
    · go_wp2_with fail
      go_meet
      exact ⟨rfl, rfl⟩
  obtain ⟨rfl, rfl⟩ := hcut
  go_upto_if 43 with fail
  go_cut [0] from 24 to 46 (fun s wc => s = .string S ∧ Fr w 0 0 0 aw wc)
  case first =>
    rcases hh with ⟨h1, rfl, rfl⟩ | ⟨hr, h1, ⟨h2, rfl, h3⟩ | ⟨h2, rfl, h3⟩ | ⟨x, h2, h3, h4, rfl, rfl⟩⟩
    · go_wp2_with fail
      go_meet
      exact ⟨rfl, Fr.of w false⟩
    · go_wp2_with fail
      go_meet
      exact ⟨rfl, Fr.of w true⟩
    · go_wp2_with fail
      go_meet
      exact ⟨rfl, Fr.of w true⟩
    · go_wp2_with fail
      go_meet
      exact ⟨rfl, Fr.of w false⟩
  clear he0 he1 hh
  obtain ⟨rfl, hF0⟩ := hcut
  have HF := Lib.hid hF0
  clear hF0
  go_upto_block 1 with fail
  go_cut [] from 24 to 134 (fun wc => Fr w 0 0 0 aw wc)
  case first =>
    have hcs : 3 < S.size ∨ S.size = 3 ∨ S.size = 2 ∨ S.size ≤ 1 := by omega
    rcases hcs with hcs | hcs | hcs | hcs
    · have y3 := n3 (by omega); have y2 := n2 (by omega); have y1 := n1 (by omega)
      have a3 : decide (3 < (S.size : Int)) = true := decide_eq_true (by omega)
      have b3 : decide (3 < S.size) = true := decide_eq_true (by omega)
      have a2 : decide (2 < (S.size : Int)) = true := decide_eq_true (by omega)
      have b2 : decide (2 < S.size) = true := decide_eq_true (by omega)
      have a1 : decide (1 < (S.size : Int)) = true := decide_eq_true (by omega)
      have b1 : decide (1 < S.size) = true := decide_eq_true (by omega)
      clear n1 n2 n3
      go_wp2_with fail
      go_meet
      exact HF.out
    · have y2 := n2 (by omega); have y1 := n1 (by omega)
      have a3 : decide (3 < (S.size : Int)) = false := decide_eq_false (by omega)
      have b3 : decide (3 < S.size) = false := decide_eq_false (by omega)
      have a2 : decide (2 < (S.size : Int)) = true := decide_eq_true (by omega)
      have b2 : decide (2 < S.size) = true := decide_eq_true (by omega)
      have a1 : decide (1 < (S.size : Int)) = true := decide_eq_true (by omega)
      have b1 : decide (1 < S.size) = true := decide_eq_true (by omega)
      clear n1 n2 n3
      go_wp2_with fail
      go_meet
      exact HF.out
    · have y1 := n1 (by omega)
      have a3 : decide (3 < (S.size : Int)) = false := decide_eq_false (by omega)
      have b3 : decide (3 < S.size) = false := decide_eq_false (by omega)
      have a2 : decide (2 < (S.size : Int)) = false := decide_eq_false (by omega)
      have b2 : decide (2 < S.size) = false := decide_eq_false (by omega)
      have a1 : decide (1 < (S.size : Int)) = true := decide_eq_true (by omega)
      have b1 : decide (1 < S.size) = true := decide_eq_true (by omega)
      clear n1 n2 n3
      go_wp2_with fail
      go_meet
      exact HF.out
    · skip
      have a3 : decide (3 < (S.size : Int)) = false := decide_eq_false (by omega)
      have b3 : decide (3 < S.size) = false := decide_eq_false (by omega)
      have a2 : decide (2 < (S.size : Int)) = false := decide_eq_false (by omega)
      have b2 : decide (2 < S.size) = false := decide_eq_false (by omega)
      have a1 : decide (1 < (S.size : Int)) = false := decide_eq_false (by omega)
      have b1 : decide (1 < S.size) = false := decide_eq_false (by omega)
      clear n1 n2 n3
      go_wp2_with fail
      go_meet
      exact HF.out
  have HF := Lib.hid hcut
  clear hcut n1 n2 n3 e1 e2
  have hD0 := digits_at S 0 (by omega) hmx
  rw [show ((0 : Nat) : Int) = 0 from rfl] at hD0
  have HD := Lib.hid hD0
  clear hD0
  go_upto_region 32 with (first | (go_at_call 25; with_reducible refine (HD.out _).mono ?_; rintro e w1 ⟨n, m, is, rfl, hK, hB⟩; have HF1 := Lib.hid (HF.out.step hB); have HK := Lib.hid hK; obtain ⟨c0, c1, c2, c3, f0, f1, f2, f3, d0, d1, d2, d3, g0, g1, g2, g3, hne, hne2⟩ := HF1.out.facts; clear hK hB HF))
  cases is with
  | false =>
    go_wp2_with fail
    refine bodyPost_ret (results_ct rfl _ _ w.heap.size 34 #[.int .i64 0, .int .i64 0, .int .i64 0, .bool aw] (0, 0) _ rfl (by refine blk_put (cs := #[.int .i64 0, .int .i64 0, .int .i64 0, .bool false]) ?_ 3 _ rfl; refine blk_put (cs := #[.int .i64 0, .int .i64 0, .int .i64 0, .bool false]) ?_ 2 _ rfl; refine blk_put (cs := #[.int .i64 0, .int .i64 0, .int .i64 0, .bool false]) ?_ 1 _ rfl; refine blk_put (cs := #[.int .i64 0, .int .i64 0, .int .i64 0, .bool false]) ?_ 0 _ rfl; exact HF1.out.res) Tryd.underlying34 rfl (by kernel_rfl)) rfl ?_
    exact ⟨0, 0, 0, false, rfl, (fun h => by cases h), (below_set (below_set (below_set (below_set HF1.out.below (Nat.le_refl _)) (Nat.le_refl _)) (Nat.le_refl _)) (Nat.le_refl _))⟩
  | true =>
    obtain ⟨M, rfl, hM⟩ := HK.out.at_place
    obtain ⟨T, hT⟩ : ∃ T, S.extract M S.size = T := ⟨_, rfl⟩
    have hTs : T.size ≤ 2147483647 := by rw [← hT, ByteArray.size_extract]; omega
    clear c0 c1 c2 c3 f0 f1 f2 f3 d0 d1 d2 d3 g0 g1 g2 g3 hne hne2
    have HG := Lib.hid (HF1.out.put n)
    obtain ⟨c0, c1, c2, c3, f0, f1, f2, f3, d0, d1, d2, d3, g0, g1, g2, g3, hne, hne2⟩ := HF1.out.facts
    go_upto_block 2 with fail
    clear c0 c1 c2 c3 f0 f1 f2 f3 d0 d1 d2 d3 g0 g1 g2 g3 hne hne2 HF1
    generalize (w1.setCell ⟨w.heap.size + 1, 0, none⟩ (.int .i64 2)).setCell ⟨w.heap.size + 1, 1, none⟩ (.int .i64 n) = W at *
    have HKK := Lib.hid (⟨M, HK.out⟩ : ∃ M : Nat, Dg S 0 n M true)
    have HT := Lib.hid hT
    clear hT
    by_cases t0 : T.toList = []
    · have t0' : T.toList.isEmpty = true := by rw [t0]; rfl
      obtain ⟨c0, c1, c2, c3, f0, f1, f2, f3, d0, d1, d2, d3, g0, g1, g2, g3, hne, hne2⟩ := HG.out.facts
      go_wp2_with fail
      refine bodyPost_ret (results_ct rfl _ _ w.heap.size 34 #[.int .i64 2, .int .i64 n, .int .i64 0, .bool aw] (0, 0) _ rfl (by refine blk_put (cs := #[.int .i64 2, .int .i64 n, .int .i64 0, .bool false]) ?_ 3 _ rfl; refine blk_put (cs := #[.int .i64 2, .int .i64 n, .int .i64 0, .bool false]) ?_ 2 _ rfl; refine blk_put (cs := #[.int .i64 2, .int .i64 0, .int .i64 0, .bool false]) ?_ 1 _ rfl; refine blk_put (cs := #[.int .i64 0, .int .i64 0, .int .i64 0, .bool false]) ?_ 0 _ rfl; exact HG.out.res) Tryd.underlying34 rfl (by kernel_rfl)) rfl ?_
      exact ⟨2, n, 0, true, rfl, (fun _ => ⟨M, HK.out, .inl ⟨rfl, rfl, by rw [HT.out]; exact t0⟩⟩), (below_set (below_set (below_set (below_set HG.out.below (Nat.le_refl _)) (Nat.le_refl _)) (Nat.le_refl _)) (Nat.le_refl _))⟩

    have t0' : T.toList.isEmpty = false := by cases h : T.toList with
      | nil => exact absurd h t0
      | cons x r => rfl
    have t0p : 0 < T.size := by rw [← size_toList]; exact List.length_pos_iff.2 t0
    by_cases t1 : T.toList = [45]
    · have t1' : (T.toList == [45]) = true := beq_iff_eq.2 t1
      obtain ⟨c0, c1, c2, c3, f0, f1, f2, f3, d0, d1, d2, d3, g0, g1, g2, g3, hne, hne2⟩ := HG.out.facts
      go_wp2_with fail
      refine bodyPost_ret (results_ct rfl _ _ w.heap.size 34 #[.int .i64 3, .int .i64 n, .int .i64 0, .bool aw] (0, 0) _ rfl (by refine blk_put (cs := #[.int .i64 3, .int .i64 n, .int .i64 0, .bool false]) ?_ 3 _ rfl; refine blk_put (cs := #[.int .i64 3, .int .i64 n, .int .i64 0, .bool false]) ?_ 2 _ rfl; refine blk_put (cs := #[.int .i64 3, .int .i64 0, .int .i64 0, .bool false]) ?_ 1 _ rfl; refine blk_put (cs := #[.int .i64 0, .int .i64 0, .int .i64 0, .bool false]) ?_ 0 _ rfl; refine blk_far ?_ hne _; exact HG.out.res) Tryd.underlying34 rfl (by kernel_rfl)) rfl ?_
      exact ⟨3, n, 0, true, rfl, (fun _ => ⟨M, HK.out, .inr (.inl ⟨rfl, rfl, by rw [HT.out]; exact t1⟩)⟩), (below_set (below_set (below_set (below_set (below_set HG.out.below (Nat.le_succ _)) (Nat.le_refl _)) (Nat.le_refl _)) (Nat.le_refl _)) (Nat.le_refl _))⟩

    have t1' : (T.toList == [45]) = false := beq_eq_false_iff_ne.2 t1
    by_cases t2 : T.toList = [45, 108]
    · have t2' : (T.toList == [45, 108]) = true := beq_iff_eq.2 t2
      obtain ⟨c0, c1, c2, c3, f0, f1, f2, f3, d0, d1, d2, d3, g0, g1, g2, g3, hne, hne2⟩ := HG.out.facts
      go_wp2_with fail
      refine bodyPost_ret (results_ct rfl _ _ w.heap.size 34 #[.int .i64 8, .int .i64 n, .int .i64 0, .bool aw] (0, 0) _ rfl (by refine blk_put (cs := #[.int .i64 8, .int .i64 n, .int .i64 0, .bool false]) ?_ 3 _ rfl; refine blk_put (cs := #[.int .i64 8, .int .i64 n, .int .i64 0, .bool false]) ?_ 2 _ rfl; refine blk_put (cs := #[.int .i64 8, .int .i64 0, .int .i64 0, .bool false]) ?_ 1 _ rfl; refine blk_put (cs := #[.int .i64 0, .int .i64 0, .int .i64 0, .bool false]) ?_ 0 _ rfl; refine blk_far ?_ hne _; exact HG.out.res) Tryd.underlying34 rfl (by kernel_rfl)) rfl ?_
      exact ⟨8, n, 0, true, rfl, (fun _ => ⟨M, HK.out, .inr (.inr (.inl ⟨rfl, rfl, by rw [HT.out]; exact t2⟩))⟩), (below_set (below_set (below_set (below_set (below_set HG.out.below (Nat.le_succ _)) (Nat.le_refl _)) (Nat.le_refl _)) (Nat.le_refl _)) (Nat.le_refl _))⟩

    have t2' : (T.toList == [45, 108]) = false := beq_eq_false_iff_ne.2 t2
    clear t0 t1 t2
    by_cases t3 : 3 < T.size
    · have a3 : decide (3 < (T.size : Int)) = true := decide_eq_true (by omega)
      have b3 : decide (3 < T.size) = true := decide_eq_true t3
      by_cases t4 : (T.extract 0 3).toList = [45, 108, 45]
      · have t4' : ((T.extract 0 3).toList == [45, 108, 45]) = true := beq_iff_eq.2 t4
        have hE0 := digits_at T 3 (by omega) (by omega)
        rw [show ((3 : Nat) : Int) = 3 from rfl] at hE0
        have HE := Lib.hid hE0
        clear hE0
        go_wp2_with (first | (go_at_call 25; with_reducible refine (HE.out _).mono ?_; rintro e w2 ⟨n2, m2, is2, rfl, hK2, hB2⟩; have HG2 := Lib.hid (HG.out.step hB2); have HK2 := Lib.hid hK2; obtain ⟨c0, c1, c2, c3, f0, f1, f2, f3, d0, d1, d2, d3, g0, g1, g2, g3, hne, hne2⟩ := HG2.out.facts; clear hK2 hB2 HG))
        · refine bodyPost_ret (results_ct rfl _ _ w.heap.size 34 #[.int .i64 9, .int .i64 n, .int .i64 n2, .bool aw] (0, 0) _ rfl (by refine blk_put (cs := #[.int .i64 9, .int .i64 n, .int .i64 n2, .bool false]) ?_ 3 _ rfl; refine blk_put (cs := #[.int .i64 9, .int .i64 n, .int .i64 0, .bool false]) ?_ 2 _ rfl; refine blk_put (cs := #[.int .i64 9, .int .i64 0, .int .i64 0, .bool false]) ?_ 1 _ rfl; refine blk_put (cs := #[.int .i64 0, .int .i64 0, .int .i64 0, .bool false]) ?_ 0 _ rfl; refine blk_far ?_ hne _; refine blk_far ?_ hne _; exact HG2.out.res) Tryd.underlying34 rfl (by kernel_rfl)) rfl ?_
          exact ⟨9, n, n2, (m2 == (T.size : Int)), rfl, (fun h => ⟨M, HK.out, by have h5 : m2 = (T.size : Int) := eq_of_beq h; have h6 : is2 = true := (by assumption); have h7 := HK2.out; rw [h5, h6] at h7; rw [HT.out]; exact .inr (.inr (.inr (.inl ⟨rfl, t4, t3, h7⟩)))⟩), (below_set (below_set (below_set (below_set (below_set (below_set HG2.out.below (Nat.le_succ _)) (Nat.le_succ _)) (Nat.le_refl _)) (Nat.le_refl _)) (Nat.le_refl _)) (Nat.le_refl _))⟩
        · refine bodyPost_ret (results_ct rfl _ _ w.heap.size 34 #[.int .i64 9, .int .i64 n, .int .i64 n2, .bool aw] (0, 0) _ rfl (by refine blk_put (cs := #[.int .i64 9, .int .i64 n, .int .i64 n2, .bool false]) ?_ 3 _ rfl; refine blk_put (cs := #[.int .i64 9, .int .i64 n, .int .i64 0, .bool false]) ?_ 2 _ rfl; refine blk_put (cs := #[.int .i64 9, .int .i64 0, .int .i64 0, .bool false]) ?_ 1 _ rfl; refine blk_put (cs := #[.int .i64 0, .int .i64 0, .int .i64 0, .bool false]) ?_ 0 _ rfl; refine blk_far ?_ hne _; refine blk_far ?_ hne _; exact HG2.out.res) Tryd.underlying34 rfl (by kernel_rfl)) rfl ?_
          exact ⟨9, n, n2, false, rfl, (fun h => by cases h), (below_set (below_set (below_set (below_set (below_set (below_set HG2.out.below (Nat.le_succ _)) (Nat.le_succ _)) (Nat.le_refl _)) (Nat.le_refl _)) (Nat.le_refl _)) (Nat.le_refl _))⟩
      · have t4' : ((T.extract 0 3).toList == [45, 108, 45]) = false := beq_eq_false_iff_ne.2 t4
        obtain ⟨y, hy⟩ : ∃ y : Int, ((T[0]'t0p).toNat : Int) = y := ⟨_, rfl⟩
        by_cases hy45 : y = 45
        · subst hy45
          have hE0 := digits_at T 1 (by omega) (by omega)
          rw [show ((1 : Nat) : Int) = 1 from rfl] at hE0
          have HE := Lib.hid hE0
          clear hE0
          go_wp2_with (first | (go_at_call 25; with_reducible refine (HE.out _).mono ?_; rintro e w2 ⟨n2, m2, is2, rfl, hK2, hB2⟩; have HG2 := Lib.hid (HG.out.step hB2); have HK2 := Lib.hid hK2; obtain ⟨c0, c1, c2, c3, f0, f1, f2, f3, d0, d1, d2, d3, g0, g1, g2, g3, hne, hne2⟩ := HG2.out.facts; clear hK2 hB2 HG))
          · refine bodyPost_ret (results_ct rfl _ _ w.heap.size 34 #[.int .i64 4, .int .i64 n, .int .i64 n2, .bool aw] (0, 0) _ rfl (by refine blk_put (cs := #[.int .i64 4, .int .i64 n, .int .i64 n2, .bool false]) ?_ 3 _ rfl; refine blk_put (cs := #[.int .i64 4, .int .i64 n, .int .i64 0, .bool false]) ?_ 2 _ rfl; refine blk_put (cs := #[.int .i64 4, .int .i64 0, .int .i64 0, .bool false]) ?_ 1 _ rfl; refine blk_put (cs := #[.int .i64 0, .int .i64 0, .int .i64 0, .bool false]) ?_ 0 _ rfl; refine blk_far ?_ hne _; refine blk_far ?_ hne _; exact HG2.out.res) Tryd.underlying34 rfl (by kernel_rfl)) rfl ?_
            exact ⟨4, n, n2, (m2 == (T.size : Int)), rfl, (fun h => ⟨M, HK.out, by have h5 : m2 = (T.size : Int) := eq_of_beq h; have h6 : is2 = true := (by assumption); have h7 := HK2.out; rw [h5, h6] at h7; rw [HT.out]; exact .inr (.inr (.inr (.inr ⟨rfl, ⟨t0p, hy⟩, h7⟩)))⟩), (below_set (below_set (below_set (below_set (below_set (below_set HG2.out.below (Nat.le_succ _)) (Nat.le_succ _)) (Nat.le_refl _)) (Nat.le_refl _)) (Nat.le_refl _)) (Nat.le_refl _))⟩
          · refine bodyPost_ret (results_ct rfl _ _ w.heap.size 34 #[.int .i64 4, .int .i64 n, .int .i64 n2, .bool aw] (0, 0) _ rfl (by refine blk_put (cs := #[.int .i64 4, .int .i64 n, .int .i64 n2, .bool false]) ?_ 3 _ rfl; refine blk_put (cs := #[.int .i64 4, .int .i64 n, .int .i64 0, .bool false]) ?_ 2 _ rfl; refine blk_put (cs := #[.int .i64 4, .int .i64 0, .int .i64 0, .bool false]) ?_ 1 _ rfl; refine blk_put (cs := #[.int .i64 0, .int .i64 0, .int .i64 0, .bool false]) ?_ 0 _ rfl; refine blk_far ?_ hne _; refine blk_far ?_ hne _; exact HG2.out.res) Tryd.underlying34 rfl (by kernel_rfl)) rfl ?_
            exact ⟨4, n, n2, false, rfl, (fun h => by cases h), (below_set (below_set (below_set (below_set (below_set (below_set HG2.out.below (Nat.le_succ _)) (Nat.le_succ _)) (Nat.le_refl _)) (Nat.le_refl _)) (Nat.le_refl _)) (Nat.le_refl _))⟩
        · have e4 : (y == 45) = false := beq_eq_false_iff_ne.2 hy45
          obtain ⟨c0, c1, c2, c3, f0, f1, f2, f3, d0, d1, d2, d3, g0, g1, g2, g3, hne, hne2⟩ := HG.out.facts
          go_wp2_with fail
          refine bodyPost_ret (results_ct rfl _ _ w.heap.size 34 #[.int .i64 2, .int .i64 n, .int .i64 0, .bool aw] (0, 0) _ rfl (by refine blk_put (cs := #[.int .i64 2, .int .i64 n, .int .i64 0, .bool false]) ?_ 3 _ rfl; refine blk_put (cs := #[.int .i64 2, .int .i64 n, .int .i64 0, .bool false]) ?_ 2 _ rfl; refine blk_put (cs := #[.int .i64 2, .int .i64 0, .int .i64 0, .bool false]) ?_ 1 _ rfl; refine blk_put (cs := #[.int .i64 0, .int .i64 0, .int .i64 0, .bool false]) ?_ 0 _ rfl; exact HG.out.res) Tryd.underlying34 rfl (by kernel_rfl)) rfl ?_
          exact ⟨2, n, 0, false, rfl, (fun h => by cases h), (below_set (below_set (below_set (below_set HG.out.below (Nat.le_refl _)) (Nat.le_refl _)) (Nat.le_refl _)) (Nat.le_refl _))⟩
    · have a3 : decide (3 < (T.size : Int)) = false := decide_eq_false (by omega)
      have b3 : decide (3 < T.size) = false := decide_eq_false t3
      obtain ⟨y, hy⟩ : ∃ y : Int, ((T[0]'t0p).toNat : Int) = y := ⟨_, rfl⟩
      by_cases hy45 : y = 45
      · subst hy45
        have hE0 := digits_at T 1 (by omega) (by omega)
        rw [show ((1 : Nat) : Int) = 1 from rfl] at hE0
        have HE := Lib.hid hE0
        clear hE0
        go_wp2_with (first | (go_at_call 25; with_reducible refine (HE.out _).mono ?_; rintro e w2 ⟨n2, m2, is2, rfl, hK2, hB2⟩; have HG2 := Lib.hid (HG.out.step hB2); have HK2 := Lib.hid hK2; obtain ⟨c0, c1, c2, c3, f0, f1, f2, f3, d0, d1, d2, d3, g0, g1, g2, g3, hne, hne2⟩ := HG2.out.facts; clear hK2 hB2 HG))
        · refine bodyPost_ret (results_ct rfl _ _ w.heap.size 34 #[.int .i64 4, .int .i64 n, .int .i64 n2, .bool aw] (0, 0) _ rfl (by refine blk_put (cs := #[.int .i64 4, .int .i64 n, .int .i64 n2, .bool false]) ?_ 3 _ rfl; refine blk_put (cs := #[.int .i64 4, .int .i64 n, .int .i64 0, .bool false]) ?_ 2 _ rfl; refine blk_put (cs := #[.int .i64 4, .int .i64 0, .int .i64 0, .bool false]) ?_ 1 _ rfl; refine blk_put (cs := #[.int .i64 0, .int .i64 0, .int .i64 0, .bool false]) ?_ 0 _ rfl; refine blk_far ?_ hne _; refine blk_far ?_ hne _; exact HG2.out.res) Tryd.underlying34 rfl (by kernel_rfl)) rfl ?_
          exact ⟨4, n, n2, (m2 == (T.size : Int)), rfl, (fun h => ⟨M, HK.out, by have h5 : m2 = (T.size : Int) := eq_of_beq h; have h6 : is2 = true := (by assumption); have h7 := HK2.out; rw [h5, h6] at h7; rw [HT.out]; exact .inr (.inr (.inr (.inr ⟨rfl, ⟨t0p, hy⟩, h7⟩)))⟩), (below_set (below_set (below_set (below_set (below_set (below_set HG2.out.below (Nat.le_succ _)) (Nat.le_succ _)) (Nat.le_refl _)) (Nat.le_refl _)) (Nat.le_refl _)) (Nat.le_refl _))⟩
        · refine bodyPost_ret (results_ct rfl _ _ w.heap.size 34 #[.int .i64 4, .int .i64 n, .int .i64 n2, .bool aw] (0, 0) _ rfl (by refine blk_put (cs := #[.int .i64 4, .int .i64 n, .int .i64 n2, .bool false]) ?_ 3 _ rfl; refine blk_put (cs := #[.int .i64 4, .int .i64 n, .int .i64 0, .bool false]) ?_ 2 _ rfl; refine blk_put (cs := #[.int .i64 4, .int .i64 0, .int .i64 0, .bool false]) ?_ 1 _ rfl; refine blk_put (cs := #[.int .i64 0, .int .i64 0, .int .i64 0, .bool false]) ?_ 0 _ rfl; refine blk_far ?_ hne _; refine blk_far ?_ hne _; exact HG2.out.res) Tryd.underlying34 rfl (by kernel_rfl)) rfl ?_
          exact ⟨4, n, n2, false, rfl, (fun h => by cases h), (below_set (below_set (below_set (below_set (below_set (below_set HG2.out.below (Nat.le_succ _)) (Nat.le_succ _)) (Nat.le_refl _)) (Nat.le_refl _)) (Nat.le_refl _)) (Nat.le_refl _))⟩
      · have e4 : (y == 45) = false := beq_eq_false_iff_ne.2 hy45
        obtain ⟨c0, c1, c2, c3, f0, f1, f2, f3, d0, d1, d2, d3, g0, g1, g2, g3, hne, hne2⟩ := HG.out.facts
        go_wp2_with fail
        refine bodyPost_ret (results_ct rfl _ _ w.heap.size 34 #[.int .i64 2, .int .i64 n, .int .i64 0, .bool aw] (0, 0) _ rfl (by refine blk_put (cs := #[.int .i64 2, .int .i64 n, .int .i64 0, .bool false]) ?_ 3 _ rfl; refine blk_put (cs := #[.int .i64 2, .int .i64 n, .int .i64 0, .bool false]) ?_ 2 _ rfl; refine blk_put (cs := #[.int .i64 2, .int .i64 0, .int .i64 0, .bool false]) ?_ 1 _ rfl; refine blk_put (cs := #[.int .i64 0, .int .i64 0, .int .i64 0, .bool false]) ?_ 0 _ rfl; exact HG.out.res) Tryd.underlying34 rfl (by kernel_rfl)) rfl ?_
        exact ⟨2, n, 0, false, rfl, (fun h => by cases h), (below_set (below_set (below_set (below_set HG.out.below (Nat.le_refl _)) (Nat.le_refl _)) (Nat.le_refl _)) (Nat.le_refl _))⟩
end Go.Proofs.YthfihamhkhnckaaDoor

namespace Go.Proofs.YthfihamhkhnckaaDoor
open Go.RowKit Go.ChangeShapes Go.Proofs.YthfihamhkhnckaaDoorW.PrintWords

/-- The parts and what they are read as. -/
inductive Tok : List UInt8 → Int → Int → Int → Bool → Prop
  | even : Tok [101, 118, 101, 110] 0 0 0 false
  | odd : Tok [111, 100, 100] 1 0 0 false
  | plain {v : List UInt8} {k a b : Int} (h : Body v k a b) : Tok v k a b false
  | away {v : List UInt8} {k a b : Int} (x : UInt8) (hx : x = 33 ∨ x = 110) (h : Body v k a b) : Tok (x :: v) k a b true
def TokSaid (s : List UInt8) (w : World) (e : Ending) (w' : World) : Prop :=
  ∃ k a b aw ok, e = .returned (.tuple #[tokV k a b aw, .bool ok]) ∧ (ok = true → Tok s k a b aw) ∧ Below w.heap.size w w'
set_option maxRecDepth 100000 in
theorem tok_even (S : ByteArray) (e1 : (S.toList == [101, 118, 101, 110]) = true) (w : World) :
    Calls Tryd.prog 14 #[.string S] w fun e w' => e = .returned (.tuple #[tokV 0 0 0 false, .bool true]) ∧ Below w.heap.size w w' := by
  go_enter Tryd.func14, Tryd.ntmps14
  go_wp2_with fail
  have hb := (Below.refl _ w).alloc (Nat.le_refl _) (.cells #[.int .i64 0, .int .i64 0, .int .i64 0, .bool false] 34)
  have h1 := blk_new w (.cells #[.int .i64 0, .int .i64 0, .int .i64 0, .bool false] 34)
  refine bodyPost_ret (v := .tuple #[tokV 0 0 0 false, .bool true]) ?_ rfl ⟨rfl, hb⟩
  simp [results, Tryd.results14, go_sem, blk_cell h1]
set_option maxRecDepth 100000 in
theorem tok_odd (S : ByteArray) (e0 : (S.toList == [101, 118, 101, 110]) = false) (e1 : (S.toList == [111, 100, 100]) = true) (w : World) :
    Calls Tryd.prog 14 #[.string S] w fun e w' => e = .returned (.tuple #[tokV 1 0 0 false, .bool true]) ∧ Below w.heap.size w w' := by
  go_enter Tryd.func14, Tryd.ntmps14
  go_wp2_with fail
  have hb := (Below.refl _ w).alloc (Nat.le_refl _) (.cells #[.int .i64 1, .int .i64 0, .int .i64 0, .bool false] 34)
  have h1 := blk_new w (.cells #[.int .i64 1, .int .i64 0, .int .i64 0, .bool false] 34)
  refine bodyPost_ret (v := .tuple #[tokV 1 0 0 false, .bool true]) ?_ rfl ⟨rfl, hb⟩
  simp [results, Tryd.results14, go_sem, blk_cell h1]
theorem Dg.whole {l a t : List UInt8} {j : Nat} {n m : Int} (hl : l = a ++ t) (hj : a.length = j) (h : Dg (bs l) j n m true) (hm : m = ((bs l).size : Nat)) : Num t ∧ n = (val t : Nat) := by
  subst hl hj
  unfold Dg at h
  rw [bs_toList, List.take_left' rfl] at h
  rw [bs_size] at hm
  exact h.whole hm
theorem body_of {v : List UInt8} {k n b : Int} {M : Nat} (hd : Dg (bs v) 0 n M true)
    (hf : k = 2 ∧ b = 0 ∧ ((bs v).extract M (bs v).size).toList = [] ∨ k = 3 ∧ b = 0 ∧ ((bs v).extract M (bs v).size).toList = [45] ∨ k = 8 ∧ b = 0 ∧ ((bs v).extract M (bs v).size).toList = [45, 108] ∨ k = 9 ∧ (((bs v).extract M (bs v).size).extract 0 3).toList = [45, 108, 45] ∧ 3 < ((bs v).extract M (bs v).size).size ∧ Dg ((bs v).extract M (bs v).size) 3 b ((bs v).extract M (bs v).size).size true ∨ k = 4 ∧ (∃ h : 0 < ((bs v).extract M (bs v).size).size, ((((bs v).extract M (bs v).size)[0]'h).toNat : Int) = 45) ∧ Dg ((bs v).extract M (bs v).size) 1 b ((bs v).extract M (bs v).size).size true) :
    Body v k n b := by
  unfold Dg at hd
  rw [bs_toList, List.take_zero] at hd
  obtain ⟨e', he, _, _, h3⟩ := hd
  obtain ⟨q, r, hv, hq, rfl, hM⟩ := h3 rfl
  have hv' : v = q ++ r := hv
  have hM' : M = q.length := by simp at hM; omega
  have hT : (bs v).extract M (bs v).size = bs r := by
    rw [bs_extract, bs_size, List.take_length, hv', hM', List.drop_left' rfl]
  rw [hT] at hf
  simp only [bs_toList] at hf
  subst hv'
  rcases hf with ⟨rfl, rfl, rfl⟩ | ⟨rfl, rfl, rfl⟩ | ⟨rfl, rfl, rfl⟩ | ⟨rfl, h1, _, h2⟩ | ⟨rfl, ⟨h0, h1⟩, h2⟩
  · rw [List.append_nil]; exact .page q hq
  · exact .from q hq
  · exact .fromLast q hq
  · rw [bs_extract, bs_toList, List.drop_zero] at h1
    have hr : r = [45, 108, 45] ++ r.drop 3 := by rw [← h1, List.take_append_drop]
    obtain ⟨g1, rfl⟩ := h2.whole hr rfl rfl
    have := Body.fromTo q (r.drop 3) hq g1
    rwa [show q ++ 45 :: 108 :: 45 :: r.drop 3 = q ++ r by rw [show 45 :: 108 :: 45 :: r.drop 3 = r from hr.symm]] at this
  · cases r with
    | nil => exact absurd h0 (by rw [bs_size]; simp)
    | cons x t =>
      have hx : x = 45 := by
        have : (x.toNat : Int) = 45 := h1
        exact UInt8.toNat_inj.1 (by show x.toNat = 45; omega)
      subst hx
      obtain ⟨g1, rfl⟩ := h2.whole (a := [45]) (t := t) rfl rfl rfl
      exact .range q t hq g1
theorem sgn_calls (s v : List UInt8) (aw : Bool) (hsg : Sgn (bs s) (bs v) aw) (hv : v.length ≤ 2147483647) (w : World) :
    Calls Tryd.prog 14 #[.string (bs s)] w fun e w' => ∃ k a b ok, e = .returned (.tuple #[tokV k a b aw, .bool ok]) ∧ (ok = true → Body v k a b) ∧ Below w.heap.size w w' := by
  have hsz := bs_size v
  have hl : (bs v).toList = v := bs_toList v
  by_cases c1 : v = [108]
  · subst c1
    refine (tok_l _ _ aw hsg (by rw [hl]; rfl) w).mono ?_
    rintro e w' ⟨rfl, hB⟩
    exact ⟨_, _, _, _, rfl, fun _ => .last, hB⟩
  have e1 : ((bs v).toList == [108]) = false := by rw [hl]; exact beq_eq_false_iff_ne.2 c1
  by_cases c2 : v = [45, 108]
  · subst c2
    refine (tok_all _ _ aw hsg e1 (by rw [hl]; rfl) w).mono ?_
    rintro e w' ⟨rfl, hB⟩
    exact ⟨_, _, _, _, rfl, fun _ => .all, hB⟩
  have e2 : ((bs v).toList == [45, 108]) = false := by rw [hl]; exact beq_eq_false_iff_ne.2 c2
  have x3 : ((bs v).extract 0 3).toList = v.take 3 := by rw [bs_extract, bs_toList, List.drop_zero]
  have x2 : ((bs v).extract 0 2).toList = v.take 2 := by rw [bs_extract, bs_toList, List.drop_zero]
  by_cases c3 : 3 < v.length ∧ v.take 3 = [45, 108, 45]
  · have hv3 : v = [45, 108, 45] ++ v.drop 3 := by rw [← c3.2, List.take_append_drop]
    refine (tok_toLast _ _ aw hsg e1 e2 (by omega) (by rw [x3, c3.2]; rfl) (Dg (bs v) 3) (fun w1 => digits_at (bs v) 3 (by omega) (by omega) w1) w).mono ?_
    rintro e w' ⟨n, m, is, ok, rfl, hK, ho, hB⟩
    refine ⟨_, _, _, _, rfl, fun h => ?_, hB⟩
    obtain ⟨rfl, hm⟩ := ho h
    obtain ⟨g1, rfl⟩ := hK.whole hv3 rfl hm
    rw [hv3]
    exact .toLast _ g1
  have n3 : 3 < (bs v).size → (((bs v).extract 0 3).toList == [45, 108, 45]) = false := fun h => by
    rw [x3]
    exact beq_eq_false_iff_ne.2 (fun h' => c3 ⟨by omega, h'⟩)
  by_cases c4 : 2 < v.length ∧ v.take 2 = [108, 45]
  · have hv4 : v = [108, 45] ++ v.drop 2 := by rw [← c4.2, List.take_append_drop]
    refine (tok_before _ _ aw hsg e1 e2 n3 (v.length - 1) (by omega) (by omega) (by omega) (by rw [x2, c4.2]; rfl) (Dg (bs v) 2) (fun w1 => digits_at (bs v) 2 (by omega) (by omega) w1) w).mono ?_
    rintro e w' ⟨k, n, m, is, ok, rfl, hK, ho, hB⟩
    refine ⟨_, _, _, _, rfl, fun h => ?_, hB⟩
    obtain ⟨rfl, ⟨rfl, hm⟩ | ⟨rfl, hm, hb⟩⟩ := ho h
    · obtain ⟨g1, rfl⟩ := hK.whole hv4 rfl (by omega)
      rw [hv4]
      exact .before _ g1
    · unfold Dg at hK
      rw [bs_toList] at hK
      obtain ⟨e', rfl, _, _, h3⟩ := hK
      obtain ⟨q, r, hqr, hq, rfl, hM⟩ := h3 rfl
      have hr : r.length = 1 := by
        have := congrArg List.length hqr
        simp at this hM
        omega
      obtain ⟨x, rfl⟩ := List.length_eq_one_iff.1 hr
      have hx : x = 45 := by
        have h1 : v.getLast? = some x := by rw [hqr]; simp
        have h2 : v[v.length - 1]? = some x := by rw [← List.getLast?_eq_getElem?]; exact h1
        rw [List.getElem?_eq_getElem (by omega)] at h2
        have h5 : (v[v.length - 1]'(by omega)) = 45 := by
          have : ((v[v.length - 1]'(by omega)).toNat : Int) = 45 := hb
          exact UInt8.toNat_inj.1 (by show _ = 45; omega)
        rw [← Option.some.inj h2, h5]
      subst hx
      rw [hqr, c4.2]
      exact .behind q hq
  have n2 : 2 < (bs v).size → (((bs v).extract 0 2).toList == [108, 45]) = false := fun h => by
    rw [x2]
    exact beq_eq_false_iff_ne.2 (fun h' => c4 ⟨by omega, h'⟩)
  by_cases c5 : ∃ h : 1 < (bs v).size, ((((bs v)[0]'(by omega)).toNat : Int) = 45)
  · obtain ⟨h1, h5⟩ := c5
    refine (tok_upTo _ _ aw hsg e1 e2 n3 n2 h1 h5 (Dg (bs v) 1) (fun w1 => digits_at (bs v) 1 (by omega) (by omega) w1) w).mono ?_
    rintro e w' ⟨n, m, is, ok, rfl, hK, ho, hB⟩
    refine ⟨_, _, _, _, rfl, fun h => ?_, hB⟩
    obtain ⟨rfl, hm⟩ := ho h
    cases v with
    | nil => exact absurd h1 (by rw [bs_size]; simp)
    | cons x t =>
      have hx : x = 45 := by
        have : (x.toNat : Int) = 45 := h5
        exact UInt8.toNat_inj.1 (by show x.toNat = 45; omega)
      subst hx
      obtain ⟨g1, rfl⟩ := hK.whole (a := [45]) (t := t) rfl rfl hm
      exact .upTo t g1
  refine (tok_digits _ _ aw hsg e1 e2 n3 n2 (fun h => beq_eq_false_iff_ne.2 (fun h' => c5 ⟨h, h'⟩)) (by omega) w).mono ?_
  rintro e w' ⟨k, n, b, ok, rfl, ho, hB⟩
  refine ⟨_, _, _, _, rfl, fun h => ?_, hB⟩
  obtain ⟨M, hd, hf⟩ := ho h
  exact body_of hd hf
theorem tok_calls (s : List UInt8) (hs : s.length ≤ 2147483647) (w : World) :
    Calls Tryd.prog 14 #[.string (bs s)] w (TokSaid s w) := by
  have hl : (bs s).toList = s := bs_toList s
  by_cases c1 : s = [101, 118, 101, 110]
  · refine (tok_even (bs s) (by rw [hl]; exact beq_iff_eq.2 c1) w).mono ?_
    rintro e w' ⟨rfl, hB⟩
    exact ⟨_, _, _, _, _, rfl, fun _ => c1 ▸ .even, hB⟩
  have e1 : ((bs s).toList == [101, 118, 101, 110]) = false := by rw [hl]; exact beq_eq_false_iff_ne.2 c1
  by_cases c2 : s = [111, 100, 100]
  · refine (tok_odd (bs s) e1 (by rw [hl]; exact beq_iff_eq.2 c2) w).mono ?_
    rintro e w' ⟨rfl, hB⟩
    exact ⟨_, _, _, _, _, rfl, fun _ => c2 ▸ .odd, hB⟩
  have e2 : ((bs s).toList == [111, 100, 100]) = false := by rw [hl]; exact beq_eq_false_iff_ne.2 c2
  cases s with
  | nil =>
    refine (sgn_calls [] [] false ⟨e1, e2, .inl ⟨by rw [hl]; rfl, rfl, rfl⟩⟩ (by simp) w).mono ?_
    rintro e w' ⟨k, a, b, ok, rfl, ho, hB⟩
    exact ⟨_, _, _, _, _, rfl, fun h => .plain (ho h), hB⟩
  | cons x v =>
    have hsz := bs_size (x :: v)
    have hx0 : ((bs (x :: v))[0]'(by rw [hsz]; simp)).toNat = x.toNat := rfl
    have hx1 : (bs (x :: v)).extract 1 (bs (x :: v)).size = bs v := by rw [bs_extract, bs_size, List.take_length]; rfl
    have h0 : 0 < (bs (x :: v)).size := by rw [hsz]; simp
    have hne : (bs (x :: v)).toList.isEmpty = false := by rw [hl]; rfl
    by_cases hx : x = 33 ∨ x = 110
    · have hsg : Sgn (bs (x :: v)) (bs v) true := ⟨e1, e2, .inr ⟨h0, hne, by
        rcases hx with rfl | rfl
        · exact .inl ⟨rfl, rfl, hx1⟩
        · exact .inr (.inl ⟨rfl, rfl, hx1⟩)⟩⟩
      refine (sgn_calls _ v true hsg (by simp at hs; omega) w).mono ?_
      rintro e w' ⟨k, a, b, ok, rfl, ho, hB⟩
      exact ⟨_, _, _, _, _, rfl, fun h => .away x hx (ho h), hB⟩
    · have hsg : Sgn (bs (x :: v)) (bs (x :: v)) false := ⟨e1, e2, .inr ⟨h0, hne, .inr (.inr ⟨(x.toNat : Int), rfl, beq_eq_false_iff_ne.2 (fun h => hx (.inl (UInt8.toNat_inj.1 (by show x.toNat = 33; omega)))), beq_eq_false_iff_ne.2 (fun h => hx (.inr (UInt8.toNat_inj.1 (by show x.toNat = 110; omega)))), rfl, rfl⟩)⟩⟩
      refine (sgn_calls _ _ false hsg hs w).mono ?_
      rintro e w' ⟨k, a, b, ok, rfl, ho, hB⟩
      exact ⟨_, _, _, _, _, rfl, fun h => .plain (ho h), hB⟩
end Go.Proofs.YthfihamhkhnckaaDoor
