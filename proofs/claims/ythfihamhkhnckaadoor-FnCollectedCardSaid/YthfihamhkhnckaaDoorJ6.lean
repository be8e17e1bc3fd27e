/-
The specification's reading of a part: the walk of spec.tokenOf, the form -3. Condition: a text of bounded length.
-/
import Derived.Test.YthfihamhkhnckaaDoorJ3
namespace Go.Proofs.YthfihamhkhnckaaDoor
open Go.RowKit Go.ChangeShapes Go.Proofs.YthfihamhkhnckaaDoorW.PrintWords

set_option maxRecDepth 100000 in
set_option maxHeartbeats 8000000 in
theorem tok_upTo (R S : ByteArray) (aw : Bool) (hsg : Sgn R S aw) (e1 : (S.toList == [108]) = false) (e2 : (S.toList == [45, 108]) = false) (n3 : 3 < S.size → ((S.extract 0 3).toList == [45, 108, 45]) = false) (n2 : 2 < S.size → ((S.extract 0 2).toList == [108, 45]) = false) (hsz : 1 < S.size) (e3 : ((S[0]'(by omega)).toNat : Int) = 45) (K : Int → Int → Bool → Prop) (hD : ∀ w, Calls Tryd.prog 25 #[.string S, .int .i64 1] w fun e w' => ∃ n m is, e = .returned (.tuple #[.int .i64 n, .int .i64 m, .bool is]) ∧ K n m is ∧ Below w.heap.size w w') (w : World) :
    Calls Tryd.prog 14 #[.string R] w fun e w' => ∃ n m is ok, e = .returned (.tuple #[tokV 5 n 0 aw, .bool ok]) ∧ K n m is ∧ (ok = true → is = true ∧ m = (S.size : Nat)) ∧ Below w.heap.size w w' := by
  obtain ⟨he0, he1, hh⟩ := hsg
  go_enter Tryd.func14, Tryd.ntmps14
  go_upto_region 7 with fail
  go_cut [43] from 24 to 43 (fun s wc => s = .bool aw ∧ wc = (w.alloc (tokO 0 0 0 false)).alloc (tokO 0 0 0 false))
  case first =>
    rcases hh with ⟨h1, rfl, rfl⟩ | ⟨hr, h1, ⟨h2, rfl, h3⟩ | ⟨h2, rfl, h3⟩ | ⟨x, h2, h3, h4, rfl, rfl⟩⟩
    · go_wp2_with fail
      go_meet
      exact ⟨rfl, rfl⟩
    · go_wp2_with fail
      go_meet
      exact ⟨rfl, rfl⟩
    · go_wp2_with fail
      go_meet
      exact ⟨rfl, rfl⟩
    · go_wp2_with fail
      go_meet
      exact ⟨rfl, rfl⟩
  obtain ⟨rfl, rfl⟩ := hcut
  go_upto_if 43 with fail
  go_cut [0] from 24 to 46 (fun s wc => s = .string S ∧ Fr w 0 0 0 aw wc)
  case first =>
    rcases hh with ⟨h1, rfl, rfl⟩ | ⟨hr, h1, ⟨h2, rfl, h3⟩ | ⟨h2, rfl, h3⟩ | ⟨x, h2, h3, h4, rfl, rfl⟩⟩
    · go_wp2_with fail
      go_meet
      exact ⟨rfl, Fr.of w false⟩
    · go_wp2_with fail
      go_meet
      exact ⟨rfl, Fr.of w true⟩
    · go_wp2_with fail
      go_meet
      exact ⟨rfl, Fr.of w true⟩
    · go_wp2_with fail
      go_meet
      exact ⟨rfl, Fr.of w false⟩
  clear he0 he1 hh
  obtain ⟨rfl, hF0⟩ := hcut
  have HF := Lib.hid hF0
  clear hF0
  go_upto_region 16 with fail
  go_cut [57] from 24 to 65 (fun s wc => s = .bool false ∧ Fr w 0 0 0 aw wc)
  case first =>
    by_cases hsz : 3 < S.size
    · have z1 : decide (3 < (S.size : Int)) = true := decide_eq_true (by omega)
      have z2 : decide (3 < S.size) = true := decide_eq_true hsz
      have z3 := n3 hsz
      go_wp2_with fail
      go_meet
      exact ⟨rfl, HF.out⟩
    · have z1 : decide (3 < (S.size : Int)) = false := decide_eq_false (by omega)
      have z2 : decide (3 < S.size) = false := decide_eq_false hsz
      go_wp2_with fail
      go_meet
      exact ⟨rfl, HF.out⟩
  clear HF
  obtain ⟨rfl, hF0⟩ := hcut
  have HF := Lib.hid hF0
  clear hF0
  go_upto_region 20 with fail
  go_cut [83] from 24 to 91 (fun s wc => s = .bool false ∧ Fr w 0 0 0 aw wc)
  case first =>
    by_cases hsz : 2 < S.size
    · have z1 : decide (2 < (S.size : Int)) = true := decide_eq_true (by omega)
      have z2 : decide (2 < S.size) = true := decide_eq_true hsz
      have z3 := n2 hsz
      go_wp2_with fail
      go_meet
      exact ⟨rfl, HF.out⟩
    · have z1 : decide (2 < (S.size : Int)) = false := decide_eq_false (by omega)
      have z2 : decide (2 < S.size) = false := decide_eq_false hsz
      go_wp2_with fail
      go_meet
      exact ⟨rfl, HF.out⟩
  clear HF
  obtain ⟨rfl, hF0⟩ := hcut
  have HF := Lib.hid hF0
  clear hF0
  have HD := Lib.hid hD
  clear hD
  have z1 : decide (1 < (S.size : Int)) = true := decide_eq_true (by omega)
  have z2 : decide (1 < S.size) = true := decide_eq_true hsz
  go_wp2_with (first | (go_at_call 25; with_reducible refine (HD.out _).mono ?_; rintro e w1 ⟨n, m, is, rfl, hK, hB⟩; have HF1 := Lib.hid (HF.out.step hB); have HK := Lib.hid hK; obtain ⟨c0, c1, c2, c3, f0, f1, f2, f3, d0, d1, d2, d3, g0, g1, g2, g3, hne, hne2⟩ := HF1.out.facts; clear hK hB HF))
  · refine bodyPost_ret (results_ct rfl _ _ w.heap.size 34 #[.int .i64 5, .int .i64 n, .int .i64 0, .bool aw] (0, 0) _ rfl (by refine blk_put (cs := #[.int .i64 5, .int .i64 n, .int .i64 0, .bool false]) ?_ 3 _ rfl; refine blk_put (cs := #[.int .i64 5, .int .i64 n, .int .i64 0, .bool false]) ?_ 2 _ rfl; refine blk_put (cs := #[.int .i64 5, .int .i64 0, .int .i64 0, .bool false]) ?_ 1 _ rfl; refine blk_put (cs := #[.int .i64 0, .int .i64 0, .int .i64 0, .bool false]) ?_ 0 _ rfl; refine blk_far ?_ hne _; refine blk_far ?_ hne _; exact HF1.out.res) Tryd.underlying34 rfl (by kernel_rfl)) rfl ?_
    exact ⟨n, m, _, (m == (S.size : Int)), rfl, HK.out, fun h => ⟨by assumption, eq_of_beq h⟩, (below_set (below_set (below_set (below_set (below_set (below_set HF1.out.below (Nat.le_succ _)) (Nat.le_succ _)) (Nat.le_refl _)) (Nat.le_refl _)) (Nat.le_refl _)) (Nat.le_refl _))⟩
  · refine bodyPost_ret (results_ct rfl _ _ w.heap.size 34 #[.int .i64 5, .int .i64 n, .int .i64 0, .bool aw] (0, 0) _ rfl (by refine blk_put (cs := #[.int .i64 5, .int .i64 n, .int .i64 0, .bool false]) ?_ 3 _ rfl; refine blk_put (cs := #[.int .i64 5, .int .i64 n, .int .i64 0, .bool false]) ?_ 2 _ rfl; refine blk_put (cs := #[.int .i64 5, .int .i64 0, .int .i64 0, .bool false]) ?_ 1 _ rfl; refine blk_put (cs := #[.int .i64 0, .int .i64 0, .int .i64 0, .bool false]) ?_ 0 _ rfl; refine blk_far ?_ hne _; refine blk_far ?_ hne _; exact HF1.out.res) Tryd.underlying34 rfl (by kernel_rfl)) rfl ?_
    exact ⟨n, m, _, false, rfl, HK.out, (fun h => by cases h), (below_set (below_set (below_set (below_set (below_set (below_set HF1.out.below (Nat.le_succ _)) (Nat.le_succ _)) (Nat.le_refl _)) (Nat.le_refl _)) (Nat.le_refl _)) (Nat.le_refl _))⟩
end Go.Proofs.YthfihamhkhnckaaDoor
