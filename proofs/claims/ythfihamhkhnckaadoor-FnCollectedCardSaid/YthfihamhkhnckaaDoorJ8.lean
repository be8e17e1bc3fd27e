/-
The specification's reading of a part: what spec.tokenOf answers. Condition: a text of bounded length.
-/
import Derived.Test.YthfihamhkhnckaaDoorJ4
import Derived.Test.YthfihamhkhnckaaDoorJ5
import Derived.Test.YthfihamhkhnckaaDoorJ6
import Derived.Test.YthfihamhkhnckaaDoorJ7
namespace Go.Proofs.YthfihamhkhnckaaDoor
open Go.RowKit Go.ChangeShapes Go.Proofs.YthfihamhkhnckaaDoorW.PrintWords

/-- The parts and what they are read as. -/
inductive Tok : List UInt8 → Int → Int → Int → Bool → Prop
  | even : Tok [101, 118, 101, 110] 0 0 0 false
  | odd : Tok [111, 100, 100] 1 0 0 false
  | plain {v : List UInt8} {k a b : Int} (h : Body v k a b) : Tok v k a b false
  | away {v : List UInt8} {k a b : Int} (x : UInt8) (hx : x = 33 ∨ x = 110) (h : Body v k a b) : Tok (x :: v) k a b true
def TokSaid (s : List UInt8) (w : World) (e : Ending) (w' : World) : Prop :=
  ∃ k a b aw ok, e = .returned (.tuple #[tokV k a b aw, .bool ok]) ∧ (ok = true → Tok s k a b aw) ∧ Below w.heap.size w w'
set_option maxRecDepth 100000 in
theorem tok_even (S : ByteArray) (e1 : (S.toList == [101, 118, 101, 110]) = true) (w : World) :
    Calls Tryd.prog 14 #[.string S] w fun e w' => e = .returned (.tuple #[tokV 0 0 0 false, .bool true]) ∧ Below w.heap.size w w' := by
  go_enter Tryd.func14, Tryd.ntmps14
  go_wp2_with fail
  have hb := (Below.refl _ w).alloc (Nat.le_refl _) (.cells #[.int .i64 0, .int .i64 0, .int .i64 0, .bool false] 34)
  have h1 := blk_new w (.cells #[.int .i64 0, .int .i64 0, .int .i64 0, .bool false] 34)
  refine bodyPost_ret (v := .tuple #[tokV 0 0 0 false, .bool true]) ?_ rfl ⟨rfl, hb⟩
  simp [results, Tryd.results14, go_sem, blk_cell h1]
set_option maxRecDepth 100000 in
theorem tok_odd (S : ByteArray) (e0 : (S.toList == [101, 118, 101, 110]) = false) (e1 : (S.toList == [111, 100, 100]) = true) (w : World) :
    Calls Tryd.prog 14 #[.string S] w fun e w' => e = .returned (.tuple #[tokV 1 0 0 false, .bool true]) ∧ Below w.heap.size w w' := by
  go_enter Tryd.func14, Tryd.ntmps14
  go_wp2_with fail
  have hb := (Below.refl _ w).alloc (Nat.le_refl _) (.cells #[.int .i64 1, .int .i64 0, .int .i64 0, .bool false] 34)
  have h1 := blk_new w (.cells #[.int .i64 1, .int .i64 0, .int .i64 0, .bool false] 34)
  refine bodyPost_ret (v := .tuple #[tokV 1 0 0 false, .bool true]) ?_ rfl ⟨rfl, hb⟩
  simp [results, Tryd.results14, go_sem, blk_cell h1]
theorem Dg.whole {l a t : List UInt8} {j : Nat} {n m : Int} (hl : l = a ++ t) (hj : a.length = j) (h : Dg (bs l) j n m true) (hm : m = ((bs l).size : Nat)) : Num t ∧ n = (val t : Nat) := by
  subst hl hj
  unfold Dg at h
  rw [bs_toList, List.take_left' rfl] at h
  rw [bs_size] at hm
  exact h.whole hm
theorem body_of {v : List UInt8} {k n b : Int} {M : Nat} (hd : Dg (bs v) 0 n M true)
    (hf : k = 2 ∧ b = 0 ∧ ((bs v).extract M (bs v).size).toList = [] ∨ k = 3 ∧ b = 0 ∧ ((bs v).extract M (bs v).size).toList = [45] ∨ k = 8 ∧ b = 0 ∧ ((bs v).extract M (bs v).size).toList = [45, 108] ∨ k = 9 ∧ (((bs v).extract M (bs v).size).extract 0 3).toList = [45, 108, 45] ∧ 3 < ((bs v).extract M (bs v).size).size ∧ Dg ((bs v).extract M (bs v).size) 3 b ((bs v).extract M (bs v).size).size true ∨ k = 4 ∧ (∃ h : 0 < ((bs v).extract M (bs v).size).size, ((((bs v).extract M (bs v).size)[0]'h).toNat : Int) = 45) ∧ Dg ((bs v).extract M (bs v).size) 1 b ((bs v).extract M (bs v).size).size true) :
    Body v k n b := by
  unfold Dg at hd
  rw [bs_toList, List.take_zero] at hd
  obtain ⟨e', he, _, _, h3⟩ := hd
  obtain ⟨q, r, hv, hq, rfl, hM⟩ := h3 rfl
  have hv' : v = q ++ r := hv
  have hM' : M = q.length := by simp at hM; omega
  have hT : (bs v).extract M (bs v).size = bs r := by
    rw [bs_extract, bs_size, List.take_length, hv', hM', List.drop_left' rfl]
  rw [hT] at hf
  simp only [bs_toList] at hf
  subst hv'
  rcases hf with ⟨rfl, rfl, rfl⟩ | ⟨rfl, rfl, rfl⟩ | ⟨rfl, rfl, rfl⟩ | ⟨rfl, h1, _, h2⟩ | ⟨rfl, ⟨h0, h1⟩, h2⟩
  · rw [List.append_nil]; exact .page q hq
  · exact .from q hq
  · exact .fromLast q hq
  · rw [bs_extract, bs_toList, List.drop_zero] at h1
    have hr : r = [45, 108, 45] ++ r.drop 3 := by rw [← h1, List.take_append_drop]
    obtain ⟨g1, rfl⟩ := h2.whole hr rfl rfl
    have := Body.fromTo q (r.drop 3) hq g1
    rwa [show q ++ 45 :: 108 :: 45 :: r.drop 3 = q ++ r by rw [show 45 :: 108 :: 45 :: r.drop 3 = r from hr.symm]] at this
  · cases r with
    | nil => exact absurd h0 (by rw [bs_size]; simp)
    | cons x t =>
      have hx : x = 45 := by
        have : (x.toNat : Int) = 45 := h1
        exact UInt8.toNat_inj.1 (by show x.toNat = 45; omega)
      subst hx
      obtain ⟨g1, rfl⟩ := h2.whole (a := [45]) (t := t) rfl rfl rfl
      exact .range q t hq g1
theorem sgn_calls (s v : List UInt8) (aw : Bool) (hsg : Sgn (bs s) (bs v) aw) (hv : v.length ≤ 2147483647) (w : World) :
    Calls Tryd.prog 14 #[.string (bs s)] w fun e w' => ∃ k a b ok, e = .returned (.tuple #[tokV k a b aw, .bool ok]) ∧ (ok = true → Body v k a b) ∧ Below w.heap.size w w' := by
  have hsz := bs_size v
  have hl : (bs v).toList = v := bs_toList v
  by_cases c1 : v = [108]
  · subst c1
    refine (tok_l _ _ aw hsg (by rw [hl]; rfl) w).mono ?_
    rintro e w' ⟨rfl, hB⟩
    exact ⟨_, _, _, _, rfl, fun _ => .last, hB⟩
  have e1 : ((bs v).toList == [108]) = false := by rw [hl]; exact beq_eq_false_iff_ne.2 c1
  by_cases c2 : v = [45, 108]
  · subst c2
    refine (tok_all _ _ aw hsg e1 (by rw [hl]; rfl) w).mono ?_
    rintro e w' ⟨rfl, hB⟩
    exact ⟨_, _, _, _, rfl, fun _ => .all, hB⟩
  have e2 : ((bs v).toList == [45, 108]) = false := by rw [hl]; exact beq_eq_false_iff_ne.2 c2
  have x3 : ((bs v).extract 0 3).toList = v.take 3 := by rw [bs_extract, bs_toList, List.drop_zero]
  have x2 : ((bs v).extract 0 2).toList = v.take 2 := by rw [bs_extract, bs_toList, List.drop_zero]
  by_cases c3 : 3 < v.length ∧ v.take 3 = [45, 108, 45]
  · have hv3 : v = [45, 108, 45] ++ v.drop 3 := by rw [← c3.2, List.take_append_drop]
    refine (tok_toLast _ _ aw hsg e1 e2 (by omega) (by rw [x3, c3.2]; rfl) (Dg (bs v) 3) (fun w1 => digits_at (bs v) 3 (by omega) (by omega) w1) w).mono ?_
    rintro e w' ⟨n, m, is, ok, rfl, hK, ho, hB⟩
    refine ⟨_, _, _, _, rfl, fun h => ?_, hB⟩
    obtain ⟨rfl, hm⟩ := ho h
    obtain ⟨g1, rfl⟩ := hK.whole hv3 rfl hm
    rw [hv3]
    exact .toLast _ g1
  have n3 : 3 < (bs v).size → (((bs v).extract 0 3).toList == [45, 108, 45]) = false := fun h => by
    rw [x3]
    exact beq_eq_false_iff_ne.2 (fun h' => c3 ⟨by omega, h'⟩)
  by_cases c4 : 2 < v.length ∧ v.take 2 = [108, 45]
  · have hv4 : v = [108, 45] ++ v.drop 2 := by rw [← c4.2, List.take_append_drop]
    refine (tok_before _ _ aw hsg e1 e2 n3 (v.length - 1) (by omega) (by omega) (by omega) (by rw [x2, c4.2]; rfl) (Dg (bs v) 2) (fun w1 => digits_at (bs v) 2 (by omega) (by omega) w1) w).mono ?_
    rintro e w' ⟨k, n, m, is, ok, rfl, hK, ho, hB⟩
    refine ⟨_, _, _, _, rfl, fun h => ?_, hB⟩
    obtain ⟨rfl, ⟨rfl, hm⟩ | ⟨rfl, hm, hb⟩⟩ := ho h
    · obtain ⟨g1, rfl⟩ := hK.whole hv4 rfl (by omega)
      rw [hv4]
      exact .before _ g1
    · unfold Dg at hK
      rw [bs_toList] at hK
      obtain ⟨e', rfl, _, _, h3⟩ := hK
      obtain ⟨q, r, hqr, hq, rfl, hM⟩ := h3 rfl
      have hr : r.length = 1 := by
        have := congrArg List.length hqr
        simp at this hM
        omega
      obtain ⟨x, rfl⟩ := List.length_eq_one_iff.1 hr
      have hx : x = 45 := by
        have h1 : v.getLast? = some x := by rw [hqr]; simp
        have h2 : v[v.length - 1]? = some x := by rw [← List.getLast?_eq_getElem?]; exact h1
        rw [List.getElem?_eq_getElem (by omega)] at h2
        have h5 : (v[v.length - 1]'(by omega)) = 45 := by
          have : ((v[v.length - 1]'(by omega)).toNat : Int) = 45 := hb
          exact UInt8.toNat_inj.1 (by show _ = 45; omega)
        rw [← Option.some.inj h2, h5]
      subst hx
      rw [hqr, c4.2]
      exact .behind q hq
  have n2 : 2 < (bs v).size → (((bs v).extract 0 2).toList == [108, 45]) = false := fun h => by
    rw [x2]
    exact beq_eq_false_iff_ne.2 (fun h' => c4 ⟨by omega, h'⟩)
  by_cases c5 : ∃ h : 1 < (bs v).size, ((((bs v)[0]'(by omega)).toNat : Int) = 45)
  · obtain ⟨h1, h5⟩ := c5
    refine (tok_upTo _ _ aw hsg e1 e2 n3 n2 h1 h5 (Dg (bs v) 1) (fun w1 => digits_at (bs v) 1 (by omega) (by omega) w1) w).mono ?_
    rintro e w' ⟨n, m, is, ok, rfl, hK, ho, hB⟩
    refine ⟨_, _, _, _, rfl, fun h => ?_, hB⟩
    obtain ⟨rfl, hm⟩ := ho h
    cases v with
    | nil => exact absurd h1 (by rw [bs_size]; simp)
    | cons x t =>
      have hx : x = 45 := by
        have : (x.toNat : Int) = 45 := h5
        exact UInt8.toNat_inj.1 (by show x.toNat = 45; omega)
      subst hx
      obtain ⟨g1, rfl⟩ := hK.whole (a := [45]) (t := t) rfl rfl hm
      exact .upTo t g1
  refine (tok_digits _ _ aw hsg e1 e2 n3 n2 (fun h => beq_eq_false_iff_ne.2 (fun h' => c5 ⟨h, h'⟩)) (by omega) w).mono ?_
  rintro e w' ⟨k, n, b, ok, rfl, ho, hB⟩
  refine ⟨_, _, _, _, rfl, fun h => ?_, hB⟩
  obtain ⟨M, hd, hf⟩ := ho h
  exact body_of hd hf
theorem tok_calls (s : List UInt8) (hs : s.length ≤ 2147483647) (w : World) :
    Calls Tryd.prog 14 #[.string (bs s)] w (TokSaid s w) := by
  have hl : (bs s).toList = s := bs_toList s
  by_cases c1 : s = [101, 118, 101, 110]
  · refine (tok_even (bs s) (by rw [hl]; exact beq_iff_eq.2 c1) w).mono ?_
    rintro e w' ⟨rfl, hB⟩
    exact ⟨_, _, _, _, _, rfl, fun _ => c1 ▸ .even, hB⟩
  have e1 : ((bs s).toList == [101, 118, 101, 110]) = false := by rw [hl]; exact beq_eq_false_iff_ne.2 c1
  by_cases c2 : s = [111, 100, 100]
  · refine (tok_odd (bs s) e1 (by rw [hl]; exact beq_iff_eq.2 c2) w).mono ?_
    rintro e w' ⟨rfl, hB⟩
    exact ⟨_, _, _, _, _, rfl, fun _ => c2 ▸ .odd, hB⟩
  have e2 : ((bs s).toList == [111, 100, 100]) = false := by rw [hl]; exact beq_eq_false_iff_ne.2 c2
  cases s with
  | nil =>
    refine (sgn_calls [] [] false ⟨e1, e2, .inl ⟨by rw [hl]; rfl, rfl, rfl⟩⟩ (by simp) w).mono ?_
    rintro e w' ⟨k, a, b, ok, rfl, ho, hB⟩
    exact ⟨_, _, _, _, _, rfl, fun h => .plain (ho h), hB⟩
  | cons x v =>
    have hsz := bs_size (x :: v)
    have hx0 : ((bs (x :: v))[0]'(by rw [hsz]; simp)).toNat = x.toNat := rfl
    have hx1 : (bs (x :: v)).extract 1 (bs (x :: v)).size = bs v := by rw [bs_extract, bs_size, List.take_length]; rfl
    have h0 : 0 < (bs (x :: v)).size := by rw [hsz]; simp
    have hne : (bs (x :: v)).toList.isEmpty = false := by rw [hl]; rfl
    by_cases hx : x = 33 ∨ x = 110
    · have hsg : Sgn (bs (x :: v)) (bs v) true := ⟨e1, e2, .inr ⟨h0, hne, by
        rcases hx with rfl | rfl
        · exact .inl ⟨rfl, rfl, hx1⟩
        · exact .inr (.inl ⟨rfl, rfl, hx1⟩)⟩⟩
      refine (sgn_calls _ v true hsg (by simp at hs; omega) w).mono ?_
      rintro e w' ⟨k, a, b, ok, rfl, ho, hB⟩
      exact ⟨_, _, _, _, _, rfl, fun h => .away x hx (ho h), hB⟩
    · have hsg : Sgn (bs (x :: v)) (bs (x :: v)) false := ⟨e1, e2, .inr ⟨h0, hne, .inr (.inr ⟨(x.toNat : Int), rfl, beq_eq_false_iff_ne.2 (fun h => hx (.inl (UInt8.toNat_inj.1 (by show x.toNat = 33; omega)))), beq_eq_false_iff_ne.2 (fun h => hx (.inr (UInt8.toNat_inj.1 (by show x.toNat = 110; omega)))), rfl, rfl⟩)⟩⟩
      refine (sgn_calls _ _ false hsg hs w).mono ?_
      rintro e w' ⟨k, a, b, ok, rfl, ho, hB⟩
      exact ⟨_, _, _, _, _, rfl, fun h => .plain (ho h), hB⟩
end Go.Proofs.YthfihamhkhnckaaDoor
