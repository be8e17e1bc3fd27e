/-
The specification's reading of a part: the walk of spec.tokenOf, the forms that begin with digits. Condition: a text of bounded length.
-/
import Derived.Test.YthfihamhkhnckaaDoorJ3
namespace Go.Proofs.YthfihamhkhnckaaDoor
open Go.RowKit Go.ChangeShapes Go.Proofs.YthfihamhkhnckaaDoorW.PrintWords

set_option maxRecDepth 100000 in
set_option maxHeartbeats 8000000 in
theorem tok_digits (R S : ByteArray) (aw : Bool) (hsg : Sgn R S aw) (e1 : (S.toList == [108]) = false) (e2 : (S.toList == [45, 108]) = false) (n3 : 3 < S.size → ((S.extract 0 3).toList == [45, 108, 45]) = false) (n2 : 2 < S.size → ((S.extract 0 2).toList == [108, 45]) = false) (n1 : ∀ h : 1 < S.size, (((S[0]'(by omega)).toNat : Int) == 45) = false) (hmx : S.size ≤ 2147483647) (w : World) :
    Calls Tryd.prog 14 #[.string R] w fun e w' => ∃ k n b ok, e = .returned (.tuple #[tokV k n b aw, .bool ok]) ∧ (ok = true → ∃ M : Nat, Dg S 0 n M true ∧ (k = 2 ∧ b = 0 ∧ (S.extract M S.size).toList = [] ∨ k = 3 ∧ b = 0 ∧ (S.extract M S.size).toList = [45] ∨ k = 8 ∧ b = 0 ∧ (S.extract M S.size).toList = [45, 108] ∨ k = 9 ∧ ((S.extract M S.size).extract 0 3).toList = [45, 108, 45] ∧ 3 < (S.extract M S.size).size ∧ Dg (S.extract M S.size) 3 b (S.extract M S.size).size true ∨ k = 4 ∧ (∃ h : 0 < (S.extract M S.size).size, (((S.extract M S.size)[0]'h).toNat : Int) = 45) ∧ Dg (S.extract M S.size) 1 b (S.extract M S.size).size true)) ∧ Below w.heap.size w w' := by
  obtain ⟨he0, he1, hh⟩ := hsg
  go_enter Tryd.func14, Tryd.ntmps14
  go_upto_region 7 with fail
  go_cut [43] from 24 to 43 (fun s wc => s = .bool aw ∧ wc = (w.alloc (tokO 0 0 0 false)).alloc (tokO 0 0 0 false))
  case first =>
    rcases hh with ⟨h1, rfl, rfl⟩ | ⟨hr, h1, ⟨h2, rfl, h3⟩ | ⟨h2, rfl, h3⟩ | ⟨x, h2, h3, h4, rfl, rfl⟩⟩
    · go_wp2_with fail
      go_meet
      exact ⟨rfl, rfl⟩
    · go_wp2_with fail
      go_meet
      exact ⟨rfl, rfl⟩
    · go_wp2_with fail
      go_meet
      exact ⟨rfl, rfl⟩
    · go_wp2_with fail
      go_meet
      exact ⟨rfl, rfl⟩
  obtain ⟨rfl, rfl⟩ := hcut
  go_upto_if 43 with fail
  go_cut [0] from 24 to 46 (fun s wc => s = .string S ∧ Fr w 0 0 0 aw wc)
  case first =>
    rcases hh with ⟨h1, rfl, rfl⟩ | ⟨hr, h1, ⟨h2, rfl, h3⟩ | ⟨h2, rfl, h3⟩ | ⟨x, h2, h3, h4, rfl, rfl⟩⟩
    · go_wp2_with fail
      go_meet
      exact ⟨rfl, Fr.of w false⟩
    · go_wp2_with fail
      go_meet
      exact ⟨rfl, Fr.of w true⟩
    · go_wp2_with fail
      go_meet
      exact ⟨rfl, Fr.of w true⟩
    · go_wp2_with fail
      go_meet
      exact ⟨rfl, Fr.of w false⟩
  clear he0 he1 hh
  obtain ⟨rfl, hF0⟩ := hcut
  have HF := Lib.hid hF0
  clear hF0
  go_upto_block 1 with fail
  go_cut [] from 24 to 134 (fun wc => Fr w 0 0 0 aw wc)
  case first =>
    have hcs : 3 < S.size ∨ S.size = 3 ∨ S.size = 2 ∨ S.size ≤ 1 := by omega
    rcases hcs with hcs | hcs | hcs | hcs
    · have y3 := n3 (by omega); have y2 := n2 (by omega); have y1 := n1 (by omega)
      have a3 : decide (3 < (S.size : Int)) = true := decide_eq_true (by omega)
      have b3 : decide (3 < S.size) = true := decide_eq_true (by omega)
      have a2 : decide (2 < (S.size : Int)) = true := decide_eq_true (by omega)
      have b2 : decide (2 < S.size) = true := decide_eq_true (by omega)
      have a1 : decide (1 < (S.size : Int)) = true := decide_eq_true (by omega)
      have b1 : decide (1 < S.size) = true := decide_eq_true (by omega)
      clear n1 n2 n3
      go_wp2_with fail
      go_meet
      exact HF.out
    · have y2 := n2 (by omega); have y1 := n1 (by omega)
      have a3 : decide (3 < (S.size : Int)) = false := decide_eq_false (by omega)
      have b3 : decide (3 < S.size) = false := decide_eq_false (by omega)
      have a2 : decide (2 < (S.size : Int)) = true := decide_eq_true (by omega)
      have b2 : decide (2 < S.size) = true := decide_eq_true (by omega)
      have a1 : decide (1 < (S.size : Int)) = true := decide_eq_true (by omega)
      have b1 : decide (1 < S.size) = true := decide_eq_true (by omega)
      clear n1 n2 n3
      go_wp2_with fail
      go_meet
      exact HF.out
    · have y1 := n1 (by omega)
      have a3 : decide (3 < (S.size : Int)) = false := decide_eq_false (by omega)
      have b3 : decide (3 < S.size) = false := decide_eq_false (by omega)
      have a2 : decide (2 < (S.size : Int)) = false := decide_eq_false (by omega)
      have b2 : decide (2 < S.size) = false := decide_eq_false (by omega)
      have a1 : decide (1 < (S.size : Int)) = true := decide_eq_true (by omega)
      have b1 : decide (1 < S.size) = true := decide_eq_true (by omega)
      clear n1 n2 n3
      go_wp2_with fail
      go_meet
      exact HF.out
    · skip
      have a3 : decide (3 < (S.size : Int)) = false := decide_eq_false (by omega)
      have b3 : decide (3 < S.size) = false := decide_eq_false (by omega)
      have a2 : decide (2 < (S.size : Int)) = false := decide_eq_false (by omega)
      have b2 : decide (2 < S.size) = false := decide_eq_false (by omega)
      have a1 : decide (1 < (S.size : Int)) = false := decide_eq_false (by omega)
      have b1 : decide (1 < S.size) = false := decide_eq_false (by omega)
      clear n1 n2 n3
      go_wp2_with fail
      go_meet
      exact HF.out
  have HF := Lib.hid hcut
  clear hcut n1 n2 n3 e1 e2
  have hD0 := digits_at S 0 (by omega) hmx
  rw [show ((0 : Nat) : Int) = 0 from rfl] at hD0
  have HD := Lib.hid hD0
  clear hD0
  go_upto_region 32 with (first | (go_at_call 25; with_reducible refine (HD.out _).mono ?_; rintro e w1 ⟨n, m, is, rfl, hK, hB⟩; have HF1 := Lib.hid (HF.out.step hB); have HK := Lib.hid hK; obtain ⟨c0, c1, c2, c3, f0, f1, f2, f3, d0, d1, d2, d3, g0, g1, g2, g3, hne, hne2⟩ := HF1.out.facts; clear hK hB HF))
  cases is with
  | false =>
    go_wp2_with fail
    refine bodyPost_ret (results_ct rfl _ _ w.heap.size 34 #[.int .i64 0, .int .i64 0, .int .i64 0, .bool aw] (0, 0) _ rfl (by refine blk_put (cs := #[.int .i64 0, .int .i64 0, .int .i64 0, .bool false]) ?_ 3 _ rfl; refine blk_put (cs := #[.int .i64 0, .int .i64 0, .int .i64 0, .bool false]) ?_ 2 _ rfl; refine blk_put (cs := #[.int .i64 0, .int .i64 0, .int .i64 0, .bool false]) ?_ 1 _ rfl; refine blk_put (cs := #[.int .i64 0, .int .i64 0, .int .i64 0, .bool false]) ?_ 0 _ rfl; exact HF1.out.res) Tryd.underlying34 rfl (by kernel_rfl)) rfl ?_
    exact ⟨0, 0, 0, false, rfl, (fun h => by cases h), (below_set (below_set (below_set (below_set HF1.out.below (Nat.le_refl _)) (Nat.le_refl _)) (Nat.le_refl _)) (Nat.le_refl _))⟩
  | true =>
    obtain ⟨M, rfl, hM⟩ := HK.out.at_place
    obtain ⟨T, hT⟩ : ∃ T, S.extract M S.size = T := ⟨_, rfl⟩
    have hTs : T.size ≤ 2147483647 := by rw [← hT, ByteArray.size_extract]; omega
    clear c0 c1 c2 c3 f0 f1 f2 f3 d0 d1 d2 d3 g0 g1 g2 g3 hne hne2
    have HG := Lib.hid (HF1.out.put n)
    obtain ⟨c0, c1, c2, c3, f0, f1, f2, f3, d0, d1, d2, d3, g0, g1, g2, g3, hne, hne2⟩ := HF1.out.facts
    go_upto_block 2 with fail
    clear c0 c1 c2 c3 f0 f1 f2 f3 d0 d1 d2 d3 g0 g1 g2 g3 hne hne2 HF1
    generalize (w1.setCell ⟨w.heap.size + 1, 0, none⟩ (.int .i64 2)).setCell ⟨w.heap.size + 1, 1, none⟩ (.int .i64 n) = W at *
    have HKK := Lib.hid (⟨M, HK.out⟩ : ∃ M : Nat, Dg S 0 n M true)
    have HT := Lib.hid hT
    clear hT
    by_cases t0 : T.toList = []
    · have t0' : T.toList.isEmpty = true := by rw [t0]; rfl
      obtain ⟨c0, c1, c2, c3, f0, f1, f2, f3, d0, d1, d2, d3, g0, g1, g2, g3, hne, hne2⟩ := HG.out.facts
      go_wp2_with fail
      refine bodyPost_ret (results_ct rfl _ _ w.heap.size 34 #[.int .i64 2, .int .i64 n, .int .i64 0, .bool aw] (0, 0) _ rfl (by refine blk_put (cs := #[.int .i64 2, .int .i64 n, .int .i64 0, .bool false]) ?_ 3 _ rfl; refine blk_put (cs := #[.int .i64 2, .int .i64 n, .int .i64 0, .bool false]) ?_ 2 _ rfl; refine blk_put (cs := #[.int .i64 2, .int .i64 0, .int .i64 0, .bool false]) ?_ 1 _ rfl; refine blk_put (cs := #[.int .i64 0, .int .i64 0, .int .i64 0, .bool false]) ?_ 0 _ rfl; exact HG.out.res) Tryd.underlying34 rfl (by kernel_rfl)) rfl ?_
      exact ⟨2, n, 0, true, rfl, (fun _ => ⟨M, HK.out, .inl ⟨rfl, rfl, by rw [HT.out]; exact t0⟩⟩), (below_set (below_set (below_set (below_set HG.out.below (Nat.le_refl _)) (Nat.le_refl _)) (Nat.le_refl _)) (Nat.le_refl _))⟩

    have t0' : T.toList.isEmpty = false := by cases h : T.toList with
      | nil => exact absurd h t0
      | cons x r => rfl
    have t0p : 0 < T.size := by rw [← size_toList]; exact List.length_pos_iff.2 t0
    by_cases t1 : T.toList = [45]
    · have t1' : (T.toList == [45]) = true := beq_iff_eq.2 t1
      obtain ⟨c0, c1, c2, c3, f0, f1, f2, f3, d0, d1, d2, d3, g0, g1, g2, g3, hne, hne2⟩ := HG.out.facts
      go_wp2_with fail
      refine bodyPost_ret (results_ct rfl _ _ w.heap.size 34 #[.int .i64 3, .int .i64 n, .int .i64 0, .bool aw] (0, 0) _ rfl (by refine blk_put (cs := #[.int .i64 3, .int .i64 n, .int .i64 0, .bool false]) ?_ 3 _ rfl; refine blk_put (cs := #[.int .i64 3, .int .i64 n, .int .i64 0, .bool false]) ?_ 2 _ rfl; refine blk_put (cs := #[.int .i64 3, .int .i64 0, .int .i64 0, .bool false]) ?_ 1 _ rfl; refine blk_put (cs := #[.int .i64 0, .int .i64 0, .int .i64 0, .bool false]) ?_ 0 _ rfl; refine blk_far ?_ hne _; exact HG.out.res) Tryd.underlying34 rfl (by kernel_rfl)) rfl ?_
      exact ⟨3, n, 0, true, rfl, (fun _ => ⟨M, HK.out, .inr (.inl ⟨rfl, rfl, by rw [HT.out]; exact t1⟩)⟩), (below_set (below_set (below_set (below_set (below_set HG.out.below (Nat.le_succ _)) (Nat.le_refl _)) (Nat.le_refl _)) (Nat.le_refl _)) (Nat.le_refl _))⟩

    have t1' : (T.toList == [45]) = false := beq_eq_false_iff_ne.2 t1
    by_cases t2 : T.toList = [45, 108]
    · have t2' : (T.toList == [45, 108]) = true := beq_iff_eq.2 t2
      obtain ⟨c0, c1, c2, c3, f0, f1, f2, f3, d0, d1, d2, d3, g0, g1, g2, g3, hne, hne2⟩ := HG.out.facts
      go_wp2_with fail
      refine bodyPost_ret (results_ct rfl _ _ w.heap.size 34 #[.int .i64 8, .int .i64 n, .int .i64 0, .bool aw] (0, 0) _ rfl (by refine blk_put (cs := #[.int .i64 8, .int .i64 n, .int .i64 0, .bool false]) ?_ 3 _ rfl; refine blk_put (cs := #[.int .i64 8, .int .i64 n, .int .i64 0, .bool false]) ?_ 2 _ rfl; refine blk_put (cs := #[.int .i64 8, .int .i64 0, .int .i64 0, .bool false]) ?_ 1 _ rfl; refine blk_put (cs := #[.int .i64 0, .int .i64 0, .int .i64 0, .bool false]) ?_ 0 _ rfl; refine blk_far ?_ hne _; exact HG.out.res) Tryd.underlying34 rfl (by kernel_rfl)) rfl ?_
      exact ⟨8, n, 0, true, rfl, (fun _ => ⟨M, HK.out, .inr (.inr (.inl ⟨rfl, rfl, by rw [HT.out]; exact t2⟩))⟩), (below_set (below_set (below_set (below_set (below_set HG.out.below (Nat.le_succ _)) (Nat.le_refl _)) (Nat.le_refl _)) (Nat.le_refl _)) (Nat.le_refl _))⟩

    have t2' : (T.toList == [45, 108]) = false := beq_eq_false_iff_ne.2 t2
    clear t0 t1 t2
    by_cases t3 : 3 < T.size
    · have a3 : decide (3 < (T.size : Int)) = true := decide_eq_true (by omega)
      have b3 : decide (3 < T.size) = true := decide_eq_true t3
      by_cases t4 : (T.extract 0 3).toList = [45, 108, 45]
      · have t4' : ((T.extract 0 3).toList == [45, 108, 45]) = true := beq_iff_eq.2 t4
        have hE0 := digits_at T 3 (by omega) (by omega)
        rw [show ((3 : Nat) : Int) = 3 from rfl] at hE0
        have HE := Lib.hid hE0
        clear hE0
        go_wp2_with (first | (go_at_call 25; with_reducible refine (HE.out _).mono ?_; rintro e w2 ⟨n2, m2, is2, rfl, hK2, hB2⟩; have HG2 := Lib.hid (HG.out.step hB2); have HK2 := Lib.hid hK2; obtain ⟨c0, c1, c2, c3, f0, f1, f2, f3, d0, d1, d2, d3, g0, g1, g2, g3, hne, hne2⟩ := HG2.out.facts; clear hK2 hB2 HG))
        · refine bodyPost_ret (results_ct rfl _ _ w.heap.size 34 #[.int .i64 9, .int .i64 n, .int .i64 n2, .bool aw] (0, 0) _ rfl (by refine blk_put (cs := #[.int .i64 9, .int .i64 n, .int .i64 n2, .bool false]) ?_ 3 _ rfl; refine blk_put (cs := #[.int .i64 9, .int .i64 n, .int .i64 0, .bool false]) ?_ 2 _ rfl; refine blk_put (cs := #[.int .i64 9, .int .i64 0, .int .i64 0, .bool false]) ?_ 1 _ rfl; refine blk_put (cs := #[.int .i64 0, .int .i64 0, .int .i64 0, .bool false]) ?_ 0 _ rfl; refine blk_far ?_ hne _; refine blk_far ?_ hne _; exact HG2.out.res) Tryd.underlying34 rfl (by kernel_rfl)) rfl ?_
          exact ⟨9, n, n2, (m2 == (T.size : Int)), rfl, (fun h => ⟨M, HK.out, by have h5 : m2 = (T.size : Int) := eq_of_beq h; have h6 : is2 = true := (by assumption); have h7 := HK2.out; rw [h5, h6] at h7; rw [HT.out]; exact .inr (.inr (.inr (.inl ⟨rfl, t4, t3, h7⟩)))⟩), (below_set (below_set (below_set (below_set (below_set (below_set HG2.out.below (Nat.le_succ _)) (Nat.le_succ _)) (Nat.le_refl _)) (Nat.le_refl _)) (Nat.le_refl _)) (Nat.le_refl _))⟩
        · refine bodyPost_ret (results_ct rfl _ _ w.heap.size 34 #[.int .i64 9, .int .i64 n, .int .i64 n2, .bool aw] (0, 0) _ rfl (by refine blk_put (cs := #[.int .i64 9, .int .i64 n, .int .i64 n2, .bool false]) ?_ 3 _ rfl; refine blk_put (cs := #[.int .i64 9, .int .i64 n, .int .i64 0, .bool false]) ?_ 2 _ rfl; refine blk_put (cs := #[.int .i64 9, .int .i64 0, .int .i64 0, .bool false]) ?_ 1 _ rfl; refine blk_put (cs := #[.int .i64 0, .int .i64 0, .int .i64 0, .bool false]) ?_ 0 _ rfl; refine blk_far ?_ hne _; refine blk_far ?_ hne _; exact HG2.out.res) Tryd.underlying34 rfl (by kernel_rfl)) rfl ?_
          exact ⟨9, n, n2, false, rfl, (fun h => by cases h), (below_set (below_set (below_set (below_set (below_set (below_set HG2.out.below (Nat.le_succ _)) (Nat.le_succ _)) (Nat.le_refl _)) (Nat.le_refl _)) (Nat.le_refl _)) (Nat.le_refl _))⟩
      · have t4' : ((T.extract 0 3).toList == [45, 108, 45]) = false := beq_eq_false_iff_ne.2 t4
        obtain ⟨y, hy⟩ : ∃ y : Int, ((T[0]'t0p).toNat : Int) = y := ⟨_, rfl⟩
        by_cases hy45 : y = 45
        · subst hy45
          have hE0 := digits_at T 1 (by omega) (by omega)
          rw [show ((1 : Nat) : Int) = 1 from rfl] at hE0
          have HE := Lib.hid hE0
          clear hE0
          go_wp2_with (first | (go_at_call 25; with_reducible refine (HE.out _).mono ?_; rintro e w2 ⟨n2, m2, is2, rfl, hK2, hB2⟩; have HG2 := Lib.hid (HG.out.step hB2); have HK2 := Lib.hid hK2; obtain ⟨c0, c1, c2, c3, f0, f1, f2, f3, d0, d1, d2, d3, g0, g1, g2, g3, hne, hne2⟩ := HG2.out.facts; clear hK2 hB2 HG))
          · refine bodyPost_ret (results_ct rfl _ _ w.heap.size 34 #[.int .i64 4, .int .i64 n, .int .i64 n2, .bool aw] (0, 0) _ rfl (by refine blk_put (cs := #[.int .i64 4, .int .i64 n, .int .i64 n2, .bool false]) ?_ 3 _ rfl; refine blk_put (cs := #[.int .i64 4, .int .i64 n, .int .i64 0, .bool false]) ?_ 2 _ rfl; refine blk_put (cs := #[.int .i64 4, .int .i64 0, .int .i64 0, .bool false]) ?_ 1 _ rfl; refine blk_put (cs := #[.int .i64 0, .int .i64 0, .int .i64 0, .bool false]) ?_ 0 _ rfl; refine blk_far ?_ hne _; refine blk_far ?_ hne _; exact HG2.out.res) Tryd.underlying34 rfl (by kernel_rfl)) rfl ?_
            exact ⟨4, n, n2, (m2 == (T.size : Int)), rfl, (fun h => ⟨M, HK.out, by have h5 : m2 = (T.size : Int) := eq_of_beq h; have h6 : is2 = true := (by assumption); have h7 := HK2.out; rw [h5, h6] at h7; rw [HT.out]; exact .inr (.inr (.inr (.inr ⟨rfl, ⟨t0p, hy⟩, h7⟩)))⟩), (below_set (below_set (below_set (below_set (below_set (below_set HG2.out.below (Nat.le_succ _)) (Nat.le_succ _)) (Nat.le_refl _)) (Nat.le_refl _)) (Nat.le_refl _)) (Nat.le_refl _))⟩
          · refine bodyPost_ret (results_ct rfl _ _ w.heap.size 34 #[.int .i64 4, .int .i64 n, .int .i64 n2, .bool aw] (0, 0) _ rfl (by refine blk_put (cs := #[.int .i64 4, .int .i64 n, .int .i64 n2, .bool false]) ?_ 3 _ rfl; refine blk_put (cs := #[.int .i64 4, .int .i64 n, .int .i64 0, .bool false]) ?_ 2 _ rfl; refine blk_put (cs := #[.int .i64 4, .int .i64 0, .int .i64 0, .bool false]) ?_ 1 _ rfl; refine blk_put (cs := #[.int .i64 0, .int .i64 0, .int .i64 0, .bool false]) ?_ 0 _ rfl; refine blk_far ?_ hne _; refine blk_far ?_ hne _; exact HG2.out.res) Tryd.underlying34 rfl (by kernel_rfl)) rfl ?_
            exact ⟨4, n, n2, false, rfl, (fun h => by cases h), (below_set (below_set (below_set (below_set (below_set (below_set HG2.out.below (Nat.le_succ _)) (Nat.le_succ _)) (Nat.le_refl _)) (Nat.le_refl _)) (Nat.le_refl _)) (Nat.le_refl _))⟩
        · have e4 : (y == 45) = false := beq_eq_false_iff_ne.2 hy45
          obtain ⟨c0, c1, c2, c3, f0, f1, f2, f3, d0, d1, d2, d3, g0, g1, g2, g3, hne, hne2⟩ := HG.out.facts
          go_wp2_with fail
          refine bodyPost_ret (results_ct rfl _ _ w.heap.size 34 #[.int .i64 2, .int .i64 n, .int .i64 0, .bool aw] (0, 0) _ rfl (by refine blk_put (cs := #[.int .i64 2, .int .i64 n, .int .i64 0, .bool false]) ?_ 3 _ rfl; refine blk_put (cs := #[.int .i64 2, .int .i64 n, .int .i64 0, .bool false]) ?_ 2 _ rfl; refine blk_put (cs := #[.int .i64 2, .int .i64 0, .int .i64 0, .bool false]) ?_ 1 _ rfl; refine blk_put (cs := #[.int .i64 0, .int .i64 0, .int .i64 0, .bool false]) ?_ 0 _ rfl; exact HG.out.res) Tryd.underlying34 rfl (by kernel_rfl)) rfl ?_
          exact ⟨2, n, 0, false, rfl, (fun h => by cases h), (below_set (below_set (below_set (below_set HG.out.below (Nat.le_refl _)) (Nat.le_refl _)) (Nat.le_refl _)) (Nat.le_refl _))⟩
    · have a3 : decide (3 < (T.size : Int)) = false := decide_eq_false (by omega)
      have b3 : decide (3 < T.size) = false := decide_eq_false t3
      obtain ⟨y, hy⟩ : ∃ y : Int, ((T[0]'t0p).toNat : Int) = y := ⟨_, rfl⟩
      by_cases hy45 : y = 45
      · subst hy45
        have hE0 := digits_at T 1 (by omega) (by omega)
        rw [show ((1 : Nat) : Int) = 1 from rfl] at hE0
        have HE := Lib.hid hE0
        clear hE0
        go_wp2_with (first | (go_at_call 25; with_reducible refine (HE.out _).mono ?_; rintro e w2 ⟨n2, m2, is2, rfl, hK2, hB2⟩; have HG2 := Lib.hid (HG.out.step hB2); have HK2 := Lib.hid hK2; obtain ⟨c0, c1, c2, c3, f0, f1, f2, f3, d0, d1, d2, d3, g0, g1, g2, g3, hne, hne2⟩ := HG2.out.facts; clear hK2 hB2 HG))
        · refine bodyPost_ret (results_ct rfl _ _ w.heap.size 34 #[.int .i64 4, .int .i64 n, .int .i64 n2, .bool aw] (0, 0) _ rfl (by refine blk_put (cs := #[.int .i64 4, .int .i64 n, .int .i64 n2, .bool false]) ?_ 3 _ rfl; refine blk_put (cs := #[.int .i64 4, .int .i64 n, .int .i64 0, .bool false]) ?_ 2 _ rfl; refine blk_put (cs := #[.int .i64 4, .int .i64 0, .int .i64 0, .bool false]) ?_ 1 _ rfl; refine blk_put (cs := #[.int .i64 0, .int .i64 0, .int .i64 0, .bool false]) ?_ 0 _ rfl; refine blk_far ?_ hne _; refine blk_far ?_ hne _; exact HG2.out.res) Tryd.underlying34 rfl (by kernel_rfl)) rfl ?_
          exact ⟨4, n, n2, (m2 == (T.size : Int)), rfl, (fun h => ⟨M, HK.out, by have h5 : m2 = (T.size : Int) := eq_of_beq h; have h6 : is2 = true := (by assumption); have h7 := HK2.out; rw [h5, h6] at h7; rw [HT.out]; exact .inr (.inr (.inr (.inr ⟨rfl, ⟨t0p, hy⟩, h7⟩)))⟩), (below_set (below_set (below_set (below_set (below_set (below_set HG2.out.below (Nat.le_succ _)) (Nat.le_succ _)) (Nat.le_refl _)) (Nat.le_refl _)) (Nat.le_refl _)) (Nat.le_refl _))⟩
        · refine bodyPost_ret (results_ct rfl _ _ w.heap.size 34 #[.int .i64 4, .int .i64 n, .int .i64 n2, .bool aw] (0, 0) _ rfl (by refine blk_put (cs := #[.int .i64 4, .int .i64 n, .int .i64 n2, .bool false]) ?_ 3 _ rfl; refine blk_put (cs := #[.int .i64 4, .int .i64 n, .int .i64 0, .bool false]) ?_ 2 _ rfl; refine blk_put (cs := #[.int .i64 4, .int .i64 0, .int .i64 0, .bool false]) ?_ 1 _ rfl; refine blk_put (cs := #[.int .i64 0, .int .i64 0, .int .i64 0, .bool false]) ?_ 0 _ rfl; refine blk_far ?_ hne _; refine blk_far ?_ hne _; exact HG2.out.res) Tryd.underlying34 rfl (by kernel_rfl)) rfl ?_
          exact ⟨4, n, n2, false, rfl, (fun h => by cases h), (below_set (below_set (below_set (below_set (below_set (below_set HG2.out.below (Nat.le_succ _)) (Nat.le_succ _)) (Nat.le_refl _)) (Nat.le_refl _)) (Nat.le_refl _)) (Nat.le_refl _))⟩
      · have e4 : (y == 45) = false := beq_eq_false_iff_ne.2 hy45
        obtain ⟨c0, c1, c2, c3, f0, f1, f2, f3, d0, d1, d2, d3, g0, g1, g2, g3, hne, hne2⟩ := HG.out.facts
        go_wp2_with fail
        refine bodyPost_ret (results_ct rfl _ _ w.heap.size 34 #[.int .i64 2, .int .i64 n, .int .i64 0, .bool aw] (0, 0) _ rfl (by refine blk_put (cs := #[.int .i64 2, .int .i64 n, .int .i64 0, .bool false]) ?_ 3 _ rfl; refine blk_put (cs := #[.int .i64 2, .int .i64 n, .int .i64 0, .bool false]) ?_ 2 _ rfl; refine blk_put (cs := #[.int .i64 2, .int .i64 0, .int .i64 0, .bool false]) ?_ 1 _ rfl; refine blk_put (cs := #[.int .i64 0, .int .i64 0, .int .i64 0, .bool false]) ?_ 0 _ rfl; exact HG.out.res) Tryd.underlying34 rfl (by kernel_rfl)) rfl ?_
        exact ⟨2, n, 0, false, rfl, (fun h => by cases h), (below_set (below_set (below_set (below_set HG.out.below (Nat.le_refl _)) (Nat.le_refl _)) (Nat.le_refl _)) (Nat.le_refl _))⟩
end Go.Proofs.YthfihamhkhnckaaDoor
