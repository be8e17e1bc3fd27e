/-
FnCollected: what spec.Collected answers: the walk. Conditions: at most 1000 pages, at most 100 parts of bounded length.
-/
import Derived.Test.YthfihamhkhnckaaDoorJ9
import Derived.Test.YthfihamhkhnckaaDoorK9
namespace Go.Proofs.YthfihamhkhnckaaDoor
open Go.RowKit Go.ChangeShapes Go.Proofs.YthfihamhkhnckaaDoorW.PrintWords

def CollSaid (n : Nat) (ts : List (List UInt8)) (w : World) (e : Ending) (w' : World) : Prop :=
  ∃ v ok L, e = .returned (.tuple #[v, .bool ok]) ∧ w'.ownsRow w.heap.size 3 1 v L.length (nums .i64 L) ∧ (ok = true → ∃ M, Run n ts M ∧ M ts.length = L) ∧ Below w.heap.size w w'
set_option maxHeartbeats 8000000 in
set_option maxRecDepth 100000 in
theorem spec_collected (n : Nat) (hn : n ≤ 1000) (ts : List (List UInt8)) (hts : ts.length ≤ 100) (hlen : ∀ t ∈ ts, t.length ≤ 2147483647) (A : Option Addr) (cap : Nat) (w : World) (hT : Toks ts A w) :
    Calls Tryd.prog 7 #[.int .i64 (n : Int), .slice A ts.length cap] w (CollSaid n ts w) := by
  go_enter Tryd.func7, Tryd.ntmps7
  go_wp2_with fail
  go_loopw [6, 19] (fun o vi wr => ∃ k : Nat, vi = .int .i64 (k : Int) ∧ k ≤ ts.length ∧ Hid (∃ M, Run n (ts.take k) M ∧ wr.ownsRow w.heap.size 3 1 o (M k).length (nums .i64 (M k))) ∧ Hid (Below w.heap.size w wr)) (fun _ vi _ => ts.length - (intOf vi).toNat)
  case atStart =>
    exact ⟨0, rfl, by omega, Lib.hid ⟨fun _ => [], ⟨rfl, fun i h => absurd h (by simp)⟩, own_nil _ _ _ _⟩, Lib.hid (Below.refl _ _)⟩
  case round =>
    obtain ⟨k, rfl, hk, hP, hb⟩ := hrel
    by_cases hlt : k < ts.length
    · obtain ⟨ad, rfl, hcl⟩ := hT k hlt
      have hcl := (hb.out.cell (World.block_lt_of_cell? w _ hcl)).trans hcl
      have HTok := Lib.hid (fun W => tok_calls (ts[k]'hlt) (hlen _ (List.getElem_mem _)) W)
      have HT := Lib.hid hT
      have HL := Lib.hid hlen
      clear hT hlen
      generalize bs (ts[k]'hlt) = T at *
      go_upto_region 6 with (first | (go_at_call 14; (with_reducible refine (HTok.out _).mono ?_); rintro e w1 ⟨a1, a2, a3, aw, is, rfl, hTk, hB1⟩; have HTk := Lib.hid hTk; have HB1 := Lib.hid (below_step hb.out hB1); have HS1 := Lib.hid hB1; clear hcl hB1 hTk))
      have hge : w.heap.size ≤ w1.heap.size := HB1.out.size
      have HBk := Lib.hid (blk_new w1 (tokO a1 a2 a3 aw))
      have HB := Lib.hid (below_alloc HB1.out (tokO a1 a2 a3 aw))
      obtain ⟨M, hR, ho⟩ := hP.out
      have HO := Lib.hid ((pw_own_below ho HS1.out).alloc (tokO a1 a2 a3 aw))
      have HR := Lib.hid hR
      have hml : (M k).length ≤ 100000 := by
        have h9 := hR.small k (by rw [List.length_take]; omega)
        omega
      clear ho hR hP hb HB1 HS1 HTok
      generalize w1.alloc (.cells #[.int .i64 a1, .int .i64 a2, .int .i64 a3, .bool aw] 34 (0, 0)) = W at *
      generalize w1.heap.size = g at *
      have hc0 : W.cell? ⟨g, 0, none⟩ = some (.int .i64 a1) := (blk_cell HBk.out 0).trans rfl
      have hc1 : W.cell? ⟨g, 1, none⟩ = some (.int .i64 a2) := (blk_cell HBk.out 1).trans rfl
      have hc2 : W.cell? ⟨g, 2, none⟩ = some (.int .i64 a3) := (blk_cell HBk.out 2).trans rfl
      have hc3 : W.cell? ⟨g, 3, none⟩ = some (.bool aw) := (blk_cell HBk.out 3).trans rfl
      cases is with
      | false =>
        go_wp2_with fail
        exact bodyPost_ret (v := .tuple #[.slice none 0 0, .bool false]) (by simp [results, Tryd.results7, go_sem]) rfl ⟨_, false, [], rfl, own_nil _ _ _ _, (fun h => by cases h), HB.out⟩
      | true =>
        by_cases h0 : a1 = 0
        · subst h0
          go_wp2_with fail
          exact bodyPost_ret (v := .tuple #[.slice none 0 0, .bool false]) (by simp [results, Tryd.results7, go_sem]) rfl ⟨_, false, [], rfl, own_nil _ _ _ _, (fun h => by cases h), HB.out⟩
        have e0 : (a1 == 0) = false := beq_eq_false_iff_ne.2 h0
        by_cases h1 : a1 = 1
        · subst h1
          go_wp2_with fail
          exact bodyPost_ret (v := .tuple #[.slice none 0 0, .bool false]) (by simp [results, Tryd.results7, go_sem]) rfl ⟨_, false, [], rfl, own_nil _ _ _ _, (fun h => by cases h), HB.out⟩
        have e1 : (a1 == 1) = false := beq_eq_false_iff_ne.2 h1
        obtain ⟨v, hBo, hEf⟩ := (HTk.out rfl).effect h0 h1
        have HRe := Lib.hid (fun W => reach_calls hBo aw n hn W)
        have HNo := Lib.hid (hBo.norm n hn)
        have HEf := Lib.hid hEf
        clear hBo hEf HTk
        generalize (reachOf a1 a2 a3 n).1 = p at *
        generalize (reachOf a1 a2 a3 n).2 = q at *
        go_upto_region 9 with (first | (go_at_call 15; (with_reducible refine (HRe.out _).mono ?_); rintro e W2 ⟨rfl, hB2⟩; have HB' := Lib.hid (below_step HB.out hB2); have HO' := Lib.hid (pw_own_below HO.out hB2); have HBk' := Lib.hid (blk_below HBk.out hB2); clear hc0 hc1 hc2 hc3 hB2 HB HO HBk; have HB := HB'; have HO := HO'; have HBk := HBk'; clear HB' HO' HBk'))
        by_cases hp : p < 1
        · have z1 : decide (p < 1) = true := decide_eq_true hp
          go_wp2_with fail
          exact bodyPost_ret (v := .tuple #[.slice none 0 0, .bool false]) (by simp [results, Tryd.results7, go_sem]) rfl ⟨_, false, [], rfl, own_nil _ _ _ _, (fun h => by cases h), HB.out⟩
        have z1 : decide (p < 1) = false := decide_eq_false hp
        by_cases hq : q < 1
        · have z2 : decide (q < 1) = true := decide_eq_true hq
          go_wp2_with fail
          exact bodyPost_ret (v := .tuple #[.slice none 0 0, .bool false]) (by simp [results, Tryd.results7, go_sem]) rfl ⟨_, false, [], rfl, own_nil _ _ _ _, (fun h => by cases h), HB.out⟩
        have z2 : decide (q < 1) = false := decide_eq_false hq
        have hF := HEf.out n _ p (HNo.out (by omega) (by omega))
        obtain ⟨M', hR', hM'⟩ := HR.out.snoc hlt hF
        have HR' := Lib.hid hR'
        have HM' := Lib.hid hM'
        obtain ⟨m, hm⟩ : ∃ m, m = (min q n + 1 - p).toNat := ⟨_, rfl⟩
        have hmj : ∀ j : Nat, j < m ↔ p + j ≤ q ∧ p + j ≤ n := fun j => by omega
        have hmm : m ≤ 1000 := by omega
        rw [← hm] at HM'
        have HMJ := Lib.hid hmj
        clear hR' hM' hF HNo HEf HRe HR hm hmj
        generalize M k = L at *
        go_wp2_with fail
        go_loopw [6, 13] (fun o vi wq => ∃ j : Nat, vi = .int .i64 (p + (j : Int)) ∧ j ≤ m ∧ Hid (wq.ownsRow w.heap.size 3 1 o (procN aw j p L).length (nums .i64 (procN aw j p L))) ∧ Hid (Below w.heap.size w wq) ∧ Hid (wq.heap[g]? = some (tokO a1 a2 a3 aw))) (fun _ vi _ => m - (intOf vi - p).toNat)
        case atStart =>
          exact ⟨0, by simp, by omega, HO, HB, HBk⟩
        case round =>
          obtain ⟨j, rfl, hjm, ho, hbq, hbk⟩ := hrel
          rename World => wq
          by_cases hj : j < m
          · obtain ⟨y1, y2⟩ := (HMJ.out j).1 hj
            have z3 : decide (p + (j : Int) ≤ q) = true := decide_eq_true y1
            have z4 : decide (p + (j : Int) ≤ (n : Int)) = true := decide_eq_true y2
            have hc3 : wq.cell? ⟨g, 3, none⟩ = some (.bool aw) := (blk_cell hbk.out 3).trans rfl
            have hpl := procN_length aw j p L
            cases aw with
            | false =>
              have hst : procN false (j + 1) p L = procN false j p L ++ [p + (j : Int)] := rfl
              generalize procN false j p L = X at *
              go_wp2_with (at_builtin; refine print_append_num w.heap.size rfl (.tmp 66) (.tmp 68) 24 3 .i64 8 rfl Tryd.underlying24 info_int (by decide) _ X (p + (j : Int)) rfl rfl ho.out hbq.out hbq.out.size (by omega) ?_; intro v1 w1 ho3 hb3 hg _
                           have HO3 := Lib.hid ho3
                           have HB3 := Lib.hid hb3
                           have HK3 := Lib.hid (blk_grown hbk.out hg (fun h => by obtain ⟨cs, h2⟩ := own_typed ho.out g h.symm; exact blk_ne hbk.out h2 (by decide) rfl))
                           clear ho3 hb3 hg)
              exact ⟨⟨j + 1, congrArg (Value.int IntKind.i64) (by omega), by omega, by rw [hst]; exact HO3, HB3, HK3⟩, by simp [intOf]; omega⟩
            | true =>
              have hst : procN true (j + 1) p L = (procN true j p L).filter (· ≠ p + (j : Int)) := rfl
              generalize procN true j p L = X at *
              obtain ⟨A2, cv, rfl⟩ := own_slice ho.out
              go_wp2_with fail
              go_loopw [14, 72] (fun o2 vi wi => ∃ i : Nat, vi = .int .i64 (i : Int) ∧ i ≤ X.length ∧ Hid (wi.ownsRow wq.heap.size 3 1 o2 ((X.take i).filter (· ≠ p + (j : Int))).length (nums .i64 ((X.take i).filter (· ≠ p + (j : Int))))) ∧ Hid (Below wq.heap.size wq wi)) (fun _ vi _ => X.length - (intOf vi).toNat)
              case atStart =>
                exact ⟨0, rfl, by omega, Lib.hid (own_nil _ _ _ _), Lib.hid (Below.refl _ _)⟩
              case round =>
                obtain ⟨i, rfl, hi, ho2, hbl⟩ := hrel
                by_cases hin : i < X.length
                · have ho1 := pw_own_below ho.out hbl.out
                  obtain ⟨g2, cap2, hgA, _, _⟩ := ho1.form (by omega)
                  cases hgA
                  obtain ⟨ce, _⟩ := own_at ho1 (i : Int) (by omega) (by omega)
                  rw [Int.toNat_natCast] at ce
                  have hrd : rd X (i : Int) = X[i]'hin := by simp [rd, List.getD, List.getElem?_eq_getElem hin]
                  rw [hrd] at ce
                  have htk : X.take (i + 1) = X.take i ++ [X[i]'hin] := by rw [List.take_append_getElem]
                  generalize X[i]'hin = x at ce htk
                  have hfl : ((X.take i).filter (· ≠ p + (j : Int))).length ≤ 1000000 := Nat.le_trans (List.length_filter_le _ _) (by simp; omega)
                  clear ho1 hrd
                  by_cases hxp : x = p + (j : Int)
                  · have hff : (X.take (i + 1)).filter (· ≠ p + (j : Int)) = (X.take i).filter (· ≠ p + (j : Int)) := by rw [htk, List.filter_append]; simp [hxp]
                    clear htk
                    subst hxp
                    go_wp2_with fail
                    exact ⟨⟨i + 1, rfl, by omega, by rw [hff]; exact ho2, hbl⟩, by simp [intOf]; omega⟩
                  · have hff : (X.take (i + 1)).filter (· ≠ p + (j : Int)) = (X.take i).filter (· ≠ p + (j : Int)) ++ [x] := by rw [htk, List.filter_append]; simp [hxp]
                    have hxb : (x != p + (j : Int)) = true := bne_iff_ne.2 hxp
                    clear htk
                    generalize (X.take i).filter (· ≠ p + (j : Int)) = Y at *
                    go_wp2_with (at_builtin; refine print_append_num wq.heap.size rfl (.tmp 79) (.tmp 81) 24 3 .i64 8 rfl Tryd.underlying24 info_int (by decide) _ Y x rfl rfl ho2.out hbl.out hbl.out.size (by omega) ?_; intro v1 w1 ho3 hb3 _ _)
                    exact ⟨⟨i + 1, rfl, by omega, by rw [hff]; exact Lib.hid ho3, Lib.hid hb3⟩, by simp [intOf]; omega⟩
                · obtain rfl : i = X.length := by omega
                  rw [List.take_length] at ho2
                  have hge : ¬ ((X.length : Int) < (X.length : Int)) := by omega
                  have HO3 := Lib.hid (own_weaken ho2.out hbq.out.size)
                  have HB3 := Lib.hid (below_step hbq.out hbl.out)
                  have HK3 := Lib.hid (blk_below hbk.out hbl.out)
                  go_wp2_with fail
                  exact ⟨⟨j + 1, congrArg (Value.int IntKind.i64) (by omega), by omega, by rw [hst]; exact HO3, HB3, HK3⟩, by simp [intOf]; omega⟩
          · obtain rfl : j = m := by omega
            have hz : ¬ (p + (j : Int) ≤ q ∧ p + (j : Int) ≤ n) := fun h => hj ((HMJ.out j).2 h)
            by_cases y1 : p + (j : Int) ≤ q
            · have z3 : decide (p + (j : Int) ≤ q) = true := decide_eq_true y1
              have z4 : decide (p + (j : Int) ≤ (n : Int)) = false := decide_eq_false (fun h => hz ⟨y1, h⟩)
              go_wp2_with fail
              exact ⟨⟨k + 1, rfl, by omega, Lib.hid ⟨M', HR'.out, by rw [HM'.out]; exact ho.out⟩, hbq⟩, by simp [intOf]; omega⟩
            · have z3 : decide (p + (j : Int) ≤ q) = false := decide_eq_false y1
              go_wp2_with fail
              exact ⟨⟨k + 1, rfl, by omega, Lib.hid ⟨M', HR'.out, by rw [HM'.out]; exact ho.out⟩, hbq⟩, by simp [intOf]; omega⟩
    · obtain rfl : k = ts.length := by omega
      rw [List.take_length] at hP
      obtain ⟨M, hR, ho⟩ := hP.out
      have hge : ¬ ((ts.length : Int) < (ts.length : Int)) := by omega
      go_wp2_with fail
      exact bodyPost_ret (v := .tuple #[_, .bool true]) (by simp [results, Tryd.results7, go_sem]) rfl ⟨_, true, _, rfl, ho, fun _ => ⟨M, hR, rfl⟩, hb.out⟩
end Go.Proofs.YthfihamhkhnckaaDoor
